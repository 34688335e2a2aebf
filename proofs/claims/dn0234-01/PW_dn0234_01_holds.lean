import PyProof.Rows.All
import Wide.All
import OpenK.AllK
import Wide.FinOn
import PySem.Challenge.RW_dn0234_01
set_option Elab.async false
set_option maxRecDepth 100000
set_option maxHeartbeats 8000000
open PySem PySem.W PyProof.Rows PySem.Calls
namespace Mine

/-! heaps: everything is kept, but the slots of the frames S may turn -/
structure Kp (S : List Addr) (h h' : Heap) : Prop where
  keep : ∀ b o, h.get? b = some o → b ∉ S → h'.get? b = some o
  slot : ∀ b o, h.get? b = some o → ∃ sl, h'.get? b = some { o with slots := sl }

theorem Kp.refl (S : List Addr) (h : Heap) : Kp S h h := ⟨fun _ _ e _ => e, fun _ o e => ⟨o.slots, e⟩⟩
theorem Kp.trans {S : List Addr} {a b c : Heap} (x : Kp S a b) (y : Kp S b c) : Kp S a c :=
  ⟨fun d o e n => y.keep d o (x.keep d o e n) n, fun d o e => let ⟨_, e₁⟩ := x.slot d o e; let ⟨sl, e₂⟩ := y.slot d _ e₁; ⟨sl, e₂⟩⟩
theorem Kp.of_keep {S : List Addr} {h h' : Heap} (k : ∀ b o, h.get? b = some o → h'.get? b = some o) : Kp S h h' :=
  ⟨fun b o e _ => k b o e, fun b o e => ⟨o.slots, k b o e⟩⟩
theorem Kp.mono {S S' : List Addr} {h h' : Heap} (x : Kp S h h') (hs : ∀ b, b ∈ S → b ∈ S') : Kp S' h h' :=
  ⟨fun b o e n => x.keep b o e fun q => n (hs b q), x.slot⟩
theorem Kp.of_slotsOnly {S : List Addr} {h h' : Heap} (x : Heap.SlotsOnly S h h') : Kp S h h' :=
  ⟨fun b _ e n => (x.2.1 b n).trans e, x.2.2⟩
theorem Kp.ns {S : List Addr} {h h' : Heap} {a : Addr} {m : Str → Option Value} (x : Kp S h h') (hn : h.Ns a m) : h'.Ns a m := by
  obtain ⟨o, es, ep, ho, hd, r⟩ := hn
  obtain ⟨sl, hs⟩ := x.slot a o ho
  exact ⟨_, es, ep, hs, hd, r⟩
theorem Kp.frames {S : List Addr} {h h' base : Heap} {l : List Env} (x : Kp S h h') (hl : h.FunFrames base l) : h'.FunFrames base l :=
  hl.of_keeps fun b o e _ => let ⟨_, e'⟩ := x.slot b o e; ⟨_, e', rfl⟩
theorem Kp.fresh {S : List Addr} {h h' : Heap} (x : Kp S h h') : h.get? h'.objs.size = none := by
  cases hq : h.get? h'.objs.size with
  | none => rfl
  | some o => obtain ⟨sl, e⟩ := x.slot _ _ hq; exact absurd (Heap.lt_size e) (Nat.lt_irrefl _)

/-- an exception on its way: everything of hm stands, e is new -/
structure Fly (hm : Addr → Option Obj) (S : List Addr) (e : Addr) (cls : String) (tr : Bool) (c : Value) (h : Heap) : Prop where
  keep : ∀ b o, hm b = some o → b ∉ S → h.get? b = some o
  slot : ∀ b o, hm b = some o → ∃ sl, h.get? b = some { o with slots := sl }
  new : hm e = none
  there : ∃ oe vs, h.get? e = some oe ∧ oe.cls = .type cls ∧ oe.data = .fields vs ∧ vs.size = 6 ∧ vs[2]? = some c ∧
    (match tr with
     | false => vs[1]? = some .none
     | true => ∃ T oT ts, vs[1]? = some (.ref T) ∧ hm T = none ∧ T ≠ e ∧ h.get? T = some oT ∧ oT.data = .fields ts ∧ 3 < ts.size)

theorem Fly.of_new {hm h : Heap} {S : List Addr} {e : Addr} {cls : String} (x : Heap.NewExc hm h e cls) : Fly hm.get? S e cls false .none h := by
  obtain ⟨ob, t, he, hc, hd⟩ := x.there
  exact ⟨fun b o q _ => x.keeps b o q, fun b o q => ⟨o.slots, x.keeps b o q⟩, x.new, ob, _, he, hc, hd, rfl, rfl, rfl⟩
theorem Fly.kp {hm h : Heap} {S : List Addr} {e : Addr} {cls : String} {tr : Bool} {c : Value} (x : Fly hm.get? S e cls tr c h) : Kp S hm h := ⟨x.keep, x.slot⟩
/-- another thing to keep in view while e is on its way -/
theorem Fly.anew {hm : Addr → Option Obj} {h h' : Heap} {S : List Addr} {e L : Addr} {cls : String} {c : Value} (x : Fly hm S e cls true c h) (hL : ∃ es n o, h.get? L = some o ∧ o.data = .dict es n)
    (k : ∀ b o, b ≠ L → h.get? b = some o → h'.get? b = some o) : ∃ hm' : Addr → Option Obj, Fly hm' S e cls true c h' ∧ ∀ b o, hm b ≠ none → h'.get? b = some o → hm' b = some o := by
  obtain ⟨_, _, ne, oe, vs, he, hc, hd, hsz, h2, T, oT, ts, h1, nT, hTe, gT, dT, sT⟩ := x
  obtain ⟨es, n, oL, q1, q2⟩ := hL
  have heL : e ≠ L := fun q => by rw [q, q1] at he; cases he; rw [q2] at hd; cases hd
  have hTL : T ≠ L := fun q => by rw [q, q1] at gT; cases gT; rw [q2] at dT; cases dT
  refine ⟨fun b => if b = e ∨ b = T then none else h'.get? b, ⟨fun b o q _ => ?_, fun b o q => ⟨o.slots, ?_⟩, by simp, oe, vs, k _ _ heL he, hc, hd, hsz, h2, T, oT, ts, h1, by simp, hTe, k _ _ hTL gT, dT, sT⟩, fun b o nb q => ?_⟩
  · split at q
    · cases q
    · exact q
  · split at q
    · cases q
    · exact q
  · show (if _ then _ else _) = _
    rw [if_neg]
    · exact q
    · rintro (r | r)
      · exact nb (by rw [r, ne])
      · exact nb (by rw [r, nT])

section
variable {M : Model} {A : Around} {E : Value → Shared → Prop} {s : Shared} {base : Heap} {hm : Addr → Option Obj} {env : Env} {outer : List Env} {L e : Addr} {cls : String} {tr : Bool} {c : Value} {S : List Addr}

theorem not_frame {l : List Env} {h : Heap} (hl : h.FunFrames base l) {b : Addr} {o : Obj} {vs : Array Value} (ho : h.get? b = some o) (hd : o.data = .fields vs) : b ∉ l.filterMap (·.frame) := fun hb => by
  obtain ⟨_, o', ho', nf⟩ := hl.mem hb
  rw [ho] at ho'; cases ho'; exact nf vs hd

theorem entry_ {head : Value} {hadNext : Bool} {oe : Obj} {vs : Array Value} {Q : Unit → Shared → Prop}
    (hfr : A.frames = some (env :: outer)) (hl : s.heap.FunFrames base (env :: outer)) (hf : env.frame = some L)
    (keep : ∀ b o, hm b = some o → b ∉ (env :: outer).filterMap (·.frame) → s.heap.get? b = some o) (slot : ∀ b o, hm b = some o → ∃ sl, s.heap.get? b = some { o with slots := sl }) (new : hm e = none)
    (he : s.heap.get? e = some oe) (hc : oe.cls = .type cls) (hd : oe.data = .fields vs) (hsz : vs.size = 6) (h2 : vs[2]? = some c)
    (h : ∀ h', Fly hm ((env :: outer).filterMap (·.frame)) e cls true c h' → h'.FunFrames base (env :: outer) → Q () { s with heap := h' }) :
    wpAny M A (do let a ← frameOf env; let pl ← entryPlaceOf L hadNext; let b ← EntryCells.newEntry head a .none (rawInt L) .none pl; setField (.ref e) 1 b) Q E s := by
  have hene := not_frame hl he hd
  refine wpAny_bind (wpAny_frameOf_fun hfr hl hf fun h₁ hs₁ => ?_)
  refine wpAny_bind (wpAny_entryPlaceOf fun pl hpl => ?_)
  unfold EntryCells.newEntry newFields
  refine wpAny_bind (wpAny_newObj_type ?_ (hpl.sizeOk5 _ _ _ _ _))
  have he₁ : h₁.get? e = some oe := (hs₁.2.1 e hene).trans he
  have he₂ := Heap.get?_push_of_some (h := h₁) { cls := .type "traceback", dict := none, data := .fields ([head, .ref L, .none, rawInt L, .none] ++ (if pl.isEmpty then List.replicate 6 Value.none else pl)).toArray } he₁
  have hTe : h₁.objs.size ≠ e := Nat.ne_of_gt (Heap.lt_size he₁)
  have hd₃ := Obj.data_mapFields hd (·.setIfInBounds 1 (Value.ref h₁.objs.size))
  have he₃ := Heap.get?_update_self (Obj.mapFields (·.setIfInBounds 1 (Value.ref h₁.objs.size))) he₂ (Obj.isFreed_of_fields hd₃)
  have hT₃ := (Heap.get?_update_other (h₁.push { cls := .type "traceback", dict := none, data := .fields ([head, .ref L, .none, rawInt L, .none] ++ (if pl.isEmpty then List.replicate 6 Value.none else pl)).toArray })
    (Obj.mapFields (·.setIfInBounds 1 (Value.ref h₁.objs.size))) (Ne.symm hTe)).trans (Heap.get?_push_size h₁ rfl)
  have keep1 : ∀ b o, hm b = some o → b ∉ (env :: outer).filterMap (·.frame) → h₁.get? b = some o := fun b o q n => (hs₁.2.1 b n).trans (keep b o q n)
  have slot1 : ∀ b o, hm b = some o → ∃ sl, h₁.get? b = some { o with slots := sl } := fun b o q => by
    obtain ⟨sl, q'⟩ := slot b o q
    obtain ⟨sl', q''⟩ := hs₁.2.2 b _ q'
    exact ⟨sl', q''⟩
  have nn : hm h₁.objs.size = none := by
    cases q : hm h₁.objs.size with
    | none => rfl
    | some o => obtain ⟨sl, q'⟩ := slot1 _ _ q; exact absurd (Heap.lt_size q') (Nat.lt_irrefl _)
  have up : ∀ b o, b ≠ e → h₁.get? b = some o → ((h₁.push { cls := .type "traceback", dict := none, data := .fields ([head, .ref L, .none, rawInt L, .none] ++ (if pl.isEmpty then List.replicate 6 Value.none else pl)).toArray }).update e (Obj.mapFields (·.setIfInBounds 1 (Value.ref h₁.objs.size)))).get? b = some o := fun b o n q => by
    rw [Heap.get?_update_other _ _ (Ne.symm n)]; exact Heap.get?_push_of_some _ q
  refine wpAny_setField he₂ hd (by omega) (h _ ⟨fun b o hb n => ?_, fun b o hb => ?_, new, _, _, he₃, ?_, hd₃, ?_, ?_, h₁.objs.size, _, _, ?_, nn, hTe, hT₃, rfl, ?_⟩ ?_)
  · exact up b o (fun q => by rw [q, new] at hb; cases hb) (keep1 b o hb n)
  · obtain ⟨sl, q⟩ := slot1 b o hb
    exact ⟨sl, up b _ (fun q => by rw [q, new] at hb; cases hb) q⟩
  · rw [Obj.cls_mapFields]; exact hc
  · rw [Array.size_setIfInBounds]; exact hsz
  · rw [Array.getElem?_setIfInBounds_ne (by decide)]; exact h2
  · simp [hsz]
  · simp only [List.size_toArray, List.length_append, List.length_cons, List.length_nil] <;> omega
  · refine hl.of_keeps fun b o hb nf => ?_
    obtain ⟨sl, q⟩ := hs₁.2.2 b o hb
    exact ⟨_, up b _ (fun q' => by rw [q', he] at hb; cases hb; exact nf _ hd) q, rfl⟩

theorem note_ {Q : Unit → Shared → Prop} (hfr : A.frames = some (env :: outer)) (hl : s.heap.FunFrames base (env :: outer)) (hf : env.frame = some L)
    (X : Fly hm ((env :: outer).filterMap (·.frame)) e cls tr c s.heap)
    (h : ∀ h', Fly hm ((env :: outer).filterMap (·.frame)) e cls true c h' → h'.FunFrames base (env :: outer) → Q () { s with heap := h' }) : wpAny M A (noteFrame (.ref e) env) Q E s := by
  obtain ⟨keep, slot, new, oe, vs, he, hc, hd, hsz, h2, hT⟩ := id X
  unfold noteFrame
  simp only [hf]
  cases tr with
  | false =>
    refine wpAny_bind (wpAny_field he hd hT ?_)
    rw [if_neg (by decide)]
    exact entry_ hfr hl hf keep slot new he hc hd hsz h2 h
  | true =>
    obtain ⟨T, oT, ts, h1, nT, hTe, gT, dT, sT⟩ := hT
    refine wpAny_bind (wpAny_field he hd h1 ?_)
    rw [if_pos (show (Value.ref T != Value.none) = true from by simp)]
    refine wpAny_bind (wpAny_field gT dT (Array.getElem?_eq_getElem sT) ?_)
    by_cases hq : (ts[3] == rawInt L) = true
    · rw [if_pos hq]
      exact wpAny_pure (h _ X hl)
    · rw [if_neg hq]
      refine wpAny_bind (wpAny_setField gT dT sT ?_)
      have other : ∀ b, b ≠ T → (s.heap.update T (Obj.mapFields (·.setIfInBounds 3 Value.none))).get? b = s.heap.get? b := fun b hb => Heap.get?_update_other _ _ (Ne.symm hb)
      have nb : ∀ b o, hm b = some o → b ≠ T := fun b o hb q => by rw [q, nT] at hb; cases hb
      refine entry_ (s := { s with heap := s.heap.update T (Obj.mapFields (·.setIfInBounds 3 Value.none)) }) hfr (hl.of_keeps fun b o hb nf => ⟨o, (other b fun q => ?_).trans hb, rfl⟩) hf (fun b o hb n => ?_) (fun b o hb => ?_) new ((other e (Ne.symm hTe)).trans he) hc hd hsz h2 h
      · rw [q, gT] at hb; cases hb; exact nf _ dT
      · exact (other b (nb b o hb)).trans (keep b o hb n)
      · obtain ⟨sl, q⟩ := slot b o hb
        exact ⟨sl, (other b (nb b o hb)).trans q⟩

theorem flight_ {fr : Option Addr} {Q : Unit → Shared → Prop} {l : List Env} (X : Fly hm S e cls tr c s.heap) (hl : s.heap.FunFrames base l)
    (h : ∀ h', Fly hm S e cls tr c h' → h'.FunFrames base l → Q () { s with heap := h' }) : wpAny M A (setFlight (.ref e) fr) Q E s := by
  obtain ⟨keep, slot, new, oe, vs, he, hc, hd, hsz, h2, hT⟩ := id X
  unfold setFlight
  cases tr with
  | false =>
    refine wpAny_bind (wpAny_field he hd hT ?_)
    rw [if_neg (by decide)]
    exact wpAny_pure (h _ X hl)
  | true =>
    obtain ⟨T, oT, ts, h1, nT, hTe, gT, dT, sT⟩ := hT
    refine wpAny_bind (wpAny_field he hd h1 ?_)
    rw [if_pos (show (Value.ref T != Value.none) = true from by simp)]
    have other : ∀ v b, b ≠ T → (s.heap.update T (Obj.mapFields (·.setIfInBounds 3 v))).get? b = s.heap.get? b := fun v b hb => Heap.get?_update_other _ _ (Ne.symm hb)
    have nb : ∀ b o, hm b = some o → b ≠ T := fun b o hb q => by rw [q, nT] at hb; cases hb
    refine wpAny_setField gT dT sT (h _ ⟨fun b o hb n => (other _ b (nb b o hb)).trans (keep b o hb n), fun b o hb => ?_, new, oe, vs, (other _ e (Ne.symm hTe)).trans he, hc, hd, hsz, h2, T, _, _, h1, nT, hTe,
      Heap.get?_update_self _ gT (Obj.isFreed_of_fields (Obj.data_mapFields dT _)), Obj.data_mapFields dT _, by rw [Array.size_setIfInBounds]; exact sT⟩ (hl.of_keeps fun b o hb nf => ⟨o, (other _ b fun q => ?_).trans hb, rfl⟩))
    · obtain ⟨sl, q⟩ := slot b o hb
      exact ⟨sl, (other _ b (nb b o hb)).trans q⟩
    · rw [q, gT] at hb; cases hb; exact nf _ dT

theorem field1_ {Q : Value → Shared → Prop} (X : Fly hm S e cls true c s.heap) (h : ∀ T, Q (.ref T) s) : wpAny M A (field (.ref e) 1) Q E s := by
  obtain ⟨_, _, new, oe, vs, he, hc, hd, hsz, h2, T, oT, ts, h1, _⟩ := id X
  exact wpAny_field he hd h1 (h T)

theorem came_ {l : List Env} (X : Fly hm S e cls true c s.heap) (hl : s.heap.FunFrames base l) (h : ∀ h', Fly hm S e cls true c h' → h'.FunFrames base l → E (.ref e) { s with heap := h' }) : cameBackBy M A env E (.ref e) s := by
  unfold cameBackBy
  refine wpAny_bind (field1_ X fun T => ?_)
  rw [if_neg (show ¬ ((Value.ref T == Value.none) = true) from by simp)]
  first | exact flight_ X hl h | exact wpAny_bind (wpAny_pure (flight_ X hl h))

theorem passOn_ {α : Type} {what : String} {Q : α → Shared → Prop} {l : List Env} (X : Fly hm S e cls true c s.heap) (hl : s.heap.FunFrames base l) (h : ∀ h', Fly hm S e cls true c h' → h'.FunFrames base l → E (.ref e) { s with heap := h' }) :
    wpAny M A (PySem.passOn what (.ref e) env : Sem α) Q E s := by
  unfold PySem.passOn
  refine wpAny_bind (field1_ X fun T => ?_)
  rw [if_neg (show ¬ ((Value.ref T == Value.none) = true) from by simp)]
  first | exact wpAny_bind (flight_ X hl fun h' X' hl' => wpAny_throw (h h' X' hl')) | exact wpAny_bind (wpAny_pure (wpAny_bind (flight_ X hl fun h' X' hl' => wpAny_throw (h h' X' hl'))))

theorem noted_ (hfr : A.frames = some (env :: outer)) (hl : s.heap.FunFrames base (env :: outer)) (hf : env.frame = some L)
    (X : Fly hm ((env :: outer).filterMap (·.frame)) e cls tr c s.heap)
    (h : ∀ h', Fly hm ((env :: outer).filterMap (·.frame)) e cls true c h' → h'.FunFrames base (env :: outer) → E (.ref e) { s with heap := h' }) : notedBy M A env E (.ref e) s :=
  note_ hfr hl hf X h

theorem leaving_ {Q : Unit → Shared → Prop} (hfr : A.frames = some (env :: outer)) (hl : s.heap.FunFrames base (env :: outer)) (hf : env.frame = some L)
    (X : Fly hm ((env :: outer).filterMap (·.frame)) e cls tr c s.heap)
    (h : ∀ h', Fly hm ((env :: outer).filterMap (·.frame)) e cls true c h' → h'.FunFrames base (env :: outer) → Q () { s with heap := h' }) : wpAny M A (leaving env (.ref e)) Q E s := by
  unfold leaving
  exact wpAny_bind (note_ hfr hl hf X fun h' X' hl' => flight_ (s := { s with heap := h' }) X' hl' fun h'' X'' hl'' => h h'' X'' hl'')
end

/-- what is handled at hand: nothing, or an exception without a context -/
def Hd (A : Around) (h : Heap) : Prop :=
  A.handled = none ∨ ∃ e o vs, A.handled = some (.ref e) ∧ h.get? e = some o ∧ o.data = .fields vs ∧ vs[2]? = some .none

theorem Hd.keep {A : Around} {h h' : Heap} (x : Hd A h) (k : ∀ b o, h.get? b = some o → h'.get? b = some o) : Hd A h' :=
  x.imp id fun ⟨e, o, vs, a, b, c⟩ => ⟨e, o, vs, a, k _ _ b, c⟩

theorem entry_unchain : entryFor table "proto.unchain" = some Builtin.«proto.unchain» := entryFor_of_tree (by kernel_rfl)

section
variable {prog : Program} {w : World} {α : Type} {A : Around} {E : Value → Shared → Prop} {s : Shared} {S : List Addr}

theorem raiseNew_any {e : Addr} {oe : Obj} {t : Value} {hm : Heap} {cls : String} {Q : α → Shared → Prop} (hd : Hd A hm) (kp : ∀ b o, hm.get? b = some o → s.heap.get? b = some o) (new : hm.get? e = none)
    (he : s.heap.get? e = some oe) (hc : oe.cls = .type cls) (hD : oe.data = .fields #[t, .none, .none, .none, .bool false, .none])
    (h : ∀ h' c, Fly hm.get? S e cls false c h' → (A.handled = none → c = .none) → E (.ref e) { s with heap := h' }) : wpAny (model prog w) A (raiseNew (.ref e) : Sem α) Q E s := by
  unfold raiseNew
  refine wpAny_bind (wpAny_handled ?_)
  rcases hd with hd | ⟨e1, o1, vs1, hd, g1, d1, c1⟩
  · rw [hd]
    have q : Fly hm.get? S e cls false .none s.heap := ⟨fun b o q _ => kp b o q, fun b o q => ⟨o.slots, kp b o q⟩, new, oe, _, he, hc, hD, rfl, rfl, rfl⟩
    first
      | exact wpAny_throw (h _ _ q fun _ => rfl)
      | exact wpAny_bind (wpAny_pure (wpAny_throw (h _ _ q fun _ => rfl)))
  · rw [hd]
    have ne : e1 ≠ e := fun q => by rw [q, new] at g1; cases g1
    have hne : (Value.ref e1 != Value.ref e) = true := by simp [ne]
    simp only [hne, if_true]
    refine wpAny_bind (wpAny_holding (wpAny_runValue (codeAny_builtin entry_unchain ?_)))
    unfold Builtin.«proto.unchain»
    dsimp only
    refine wpAny_bind (wpAny_field (kp _ _ g1) d1 c1 ?_)
    simp only [beq_self_eq_true, if_true]
    refine wpAny_pure ?_
    dsimp only
    refine wpAny_bind ?_
    unfold updateField
    refine wpAny_bind (wpAny_load he ?_)
    rw [hD]
    simp only [show (2 : Nat) < (#[t, Value.none, .none, .none, .bool false, .none] : Array Value).size from by simp, if_true]
    refine wpAny_update he (wpAny_throw (h _ (.ref e1) ⟨fun b o hb _ => ?_, fun b o hb => ⟨o.slots, ?_⟩, new, _, _, Heap.get?_update_self _ he (Obj.isFreed_of_fields (Obj.data_mapFields hD _)), ?_, Obj.data_mapFields hD _, ?_, ?_, ?_⟩ fun q => by rw [hd] at q; cases q))
    · rw [Heap.get?_update_other _ _ (fun q => by rw [← q, new] at hb; cases hb)]; exact kp b o hb
    · rw [Heap.get?_update_other _ _ (fun q => by rw [← q, new] at hb; cases hb)]; exact kp b o hb
    · rw [Obj.cls_mapFields]; exact hc
    · simp
    · simp
    · simp

theorem raiseWords_any {cls msg : String} {Q : α → Shared → Prop} (hp : PlainExc cls) (hd : Hd A s.heap)
    (h : ∀ h' tk e c, Fly s.heap.get? S e cls false c h' → (A.handled = none → c = .none) → E (.ref e) { s with heap := h', toks := tk }) :
    wpAny (model prog w) A (raiseErrorWords cls msg : Sem α) Q E s := by
  unfold raiseErrorWords
  refine wpAny_bind (wpAny_mkText (wpAny_bind ?_))
  unfold newExc newTuple
  refine wpAny_bind (wpAny_newObj_type ?_)
  refine wpAny_bind (m := firstArgMember _ _) (wpAny_of_eq (a := Value.none) (by simp only [firstArgMember, hp.first]; rfl) ?_)
  rw [hp.own]
  refine wpAny_newObj_type ?_
  refine raiseNew_any (hm := s.heap) (t := .ref s.heap.objs.size) hd (fun b o hb => Heap.get?_push_of_some _ (Heap.get?_push_of_some _ hb)) ?_ (Heap.get?_push_size _ rfl) rfl ?_ fun h' c X hc => h h' _ _ c X hc
  · exact Heap.get?_none_of_le (by simp)
  · simp

theorem raiseMade_any {cls msg : String} {Q : α → Shared → Prop} (hp : PlainExc cls) (hd : Hd A s.heap)
    (h : ∀ h' tk e c, Fly s.heap.get? S e cls false c h' → (A.handled = none → c = .none) → E (.ref e) { s with heap := h', toks := tk }) (hm : (msg : Str).length ≤ sizeLine := by size_fits) :
    wpAny (model prog w) A (raiseErrorMade cls msg : Sem α) Q E s := by
  unfold raiseErrorMade
  refine wpAny_bind (wpAny_mkStr (wpAny_bind ?_) hm)
  unfold newExc newTuple
  refine wpAny_bind (wpAny_newObj_type ?_)
  refine wpAny_bind (m := firstArgMember _ _) (wpAny_of_eq (a := Value.none) (by simp only [firstArgMember, hp.first]; rfl) ?_)
  rw [hp.own]
  refine wpAny_newObj_type ?_
  refine raiseNew_any (hm := s.heap) (t := .ref s.heap.objs.size) hd (fun b o hb => Heap.get?_push_of_some _ (Heap.get?_push_of_some _ hb)) ?_ (Heap.get?_push_size _ rfl) rfl ?_ fun h' c X hc => h h' _ _ c X hc
  · exact Heap.get?_none_of_le (by simp)
  · simp
end

section
variable {prog : Program} {w : World} {A : Around} {E : Value → Shared → Prop} {s : Shared} {S : List Addr}

theorem Hd.in1 {h : Heap} (x : Hd A h) : Hd A.in1 h := x

/-- xs[k] beyond a list's end -/
theorem getItem_list_out {l : Addr} {items : Array Value} {k : Int} {t : Tok} {Q : Value → Shared → Prop} (hd : Hd A s.heap) (hl : s.heap.IsList l items)
    (hout : (items.size : Int) ≤ k) (hhi : k < 2 ^ 63)
    (hE : ∀ h' tk e c, Fly s.heap.get? S e "IndexError" false c h' → (A.handled = none → c = .none) → E (.ref e) { s with heap := h', toks := tk }) :
    wpAny (model prog w) A (getItem (.ref l) (.int k t)) Q E s := by
  obtain ⟨o, ho, hc, ne, hD⟩ := id hl
  unfold getItem
  try with_reducible refine wpAny_holding ?_
  first | refine wpAny_bind (wpAny_pure ?_) | skip
  refine wpAny_bind (wpAny_sequenceKey hl.typeIs (by decide) ?_)
  refine wpAny_bind (wpAny_callSpecial?_slot (name := Str.ofString "__getitem__") hl.typeIs slot_list_getitem
    (wpAny_call_entry slot_list_getitem hl.typeIs entry_list_getitem ?_ (args_list_getitem _ _)))
  show wpAny _ _ (Builtin.List.listSubscript? (.int k t) >>= _) _ _ s
  refine wpAny_bind (wpAny_listSubscript_int (fitsIndex_both (by omega) hhi) ?_)
  clear hhi
  obtain ⟨j, rfl⟩ := Int.eq_ofNat_of_zero_le (show 0 ≤ k by omega)
  have hx : items[j]? = none := Array.getElem?_eq_none (by omega)
  show wpAny _ _ ((seqItemAt l j >>= fun r => pure (r.map (j, ·))) >>= _) _ _ s
  refine wpAny_bind (wpAny_bind (wpAny_seqItemAt ho hD (wpAny_pure ?_)))
  rw [hx]
  first
    | exact wpAny_bind (wpAny_rule (raiseWords_any plainExc_IndexError hd hE))
    | exact wpAny_bind (wpAny_rule (wpAny_bind (raiseWords_any plainExc_IndexError hd hE)))
    | exact wpAny_bind (wpAny_bind (wpAny_rule (raiseWords_any plainExc_IndexError hd hE)))
    | exact wpAny_rule (raiseWords_any plainExc_IndexError hd hE)
end

abbrev upd (m : Str → Option Value) (x : Str) (v : Value) : Str → Option Value := fun y => if y = x then some v else m y
theorem upd_same {m : Str → Option Value} {x : Str} {v : Value} : upd m x v x = some v := if_pos rfl
theorem upd_ne {m : Str → Option Value} {x y : Str} {v : Value} {r : Option Value} (hn : y ≠ x) (h : m y = r) : upd m x v y = r := (if_neg hn).trans h

inductive All2 {α β : Type} (R : α → β → Prop) : List α → List β → Prop
  | nil : All2 R [] []
  | cons {a b as bs} : R a b → All2 R as bs → All2 R (a :: as) (b :: bs)
theorem All2.length {α β : Type} {R : α → β → Prop} {as : List α} {bs : List β} (h : All2 R as bs) : as.length = bs.length := by
  induction h with
  | nil => rfl
  | cons _ _ ih => simp [ih]
theorem All2.append {α β : Type} {R : α → β → Prop} {as cs : List α} {bs ds : List β} (h : All2 R as bs) (k : All2 R cs ds) : All2 R (as ++ cs) (bs ++ ds) := by
  induction h with
  | nil => exact k
  | cons r _ ih => exact .cons r ih
theorem All2.get {α β : Type} {R : α → β → Prop} {as : List α} {bs : List β} (h : All2 R as bs) : ∀ (i : Nat) (h1 : i < as.length) (h2 : i < bs.length), R as[i] bs[i] := by
  induction h with
  | nil => intro i h1; exact absurd h1 (Nat.not_lt_zero _)
  | cons r _ ih =>
    intro i h1 h2
    cases i with
    | zero => exact r
    | succ i => exact ih i (Nat.lt_of_succ_lt_succ h1) (Nat.lt_of_succ_lt_succ h2)
theorem All2.drop {α β : Type} {R : α → β → Prop} {as : List α} {bs : List β} (h : All2 R as bs) : ∀ i : Nat, All2 R (as.drop i) (bs.drop i) := by
  induction h with
  | nil => intro i; simp; exact .nil
  | cons r k ih =>
    intro i
    cases i with
    | zero => exact .cons r k
    | succ i => exact ih i

/-- the state grows: nothing that stood has changed -/
structure Grow (s s' : Shared) : Prop where
  keep : ∀ b o, s.heap.get? b = some o → s'.heap.get? b = some o
  os : s'.os = s.os
  gens : s'.gens = s.gens
theorem Grow.refl (s : Shared) : Grow s s := ⟨fun _ _ e => e, rfl, rfl⟩
theorem Grow.trans {a b c : Shared} (x : Grow a b) (y : Grow b c) : Grow a c := ⟨fun d o e => y.keep d o (x.keep d o e), y.os.trans x.os, y.gens.trans x.gens⟩
theorem Grow.toks (s : Shared) (t : Nat) : Grow s { s with toks := t } := ⟨fun _ _ e => e, rfl, rfl⟩
theorem Grow.push (s : Shared) (o : Obj) (t : Nat) : Grow s { s with heap := s.heap.push o, toks := t } := ⟨fun _ _ e => Heap.get?_push_of_some _ e, rfl, rfl⟩

/-- all but the object at L stands -/
structure ExL (L : Addr) (s s' : Shared) : Prop where
  keep : ∀ b o, b ≠ L → s.heap.get? b = some o → s'.heap.get? b = some o
  os : s'.os = s.os
  gens : s'.gens = s.gens
theorem ExL.refl (L : Addr) (s : Shared) : ExL L s s := ⟨fun _ _ _ e => e, rfl, rfl⟩
theorem ExL.trans {L : Addr} {a b c : Shared} (x : ExL L a b) (y : ExL L b c) : ExL L a c := ⟨fun d o n e => y.keep d o n (x.keep d o n e), y.os.trans x.os, y.gens.trans x.gens⟩
theorem Grow.exL {L : Addr} {a b : Shared} (x : Grow a b) : ExL L a b := ⟨fun d o _ e => x.keep d o e, x.os, x.gens⟩

theorem frGrow {h₀ : Heap} {L : Addr} {s s' : Shared} {m : Str → Option Value} (F : Fr h₀ L s.heap m) (g : Grow s s') : Fr h₀ L s'.heap m :=
  ⟨F.ns.keeps g.keep, fun b o e => g.keep b o (F.keep b o e), F.above⟩
theorem kpGrow {S : List Addr} {h₀ : Heap} {s s' : Shared} (k : Kp S h₀ s.heap) (g : Grow s s') : Kp S h₀ s'.heap := k.trans (.of_keep g.keep)
theorem kpExL {S : List Addr} {h₀ : Heap} {L : Addr} {s s' : Shared} (k : Kp S h₀ s.heap) (g : ExL L s s') (n : h₀.get? L = none) : Kp S h₀ s'.heap :=
  ⟨fun b o e nS => g.keep b o (fun q => by rw [q, n] at e; cases e) (k.keep b o e nS),
   fun b o e => let ⟨sl, q⟩ := k.slot b o e; ⟨sl, g.keep b _ (fun q => by rw [q, n] at e; cases e) q⟩⟩
theorem hdExL {A : Around} {L : Addr} {s s' : Shared} (x : Hd A s.heap) (g : ExL L s s') (hL : ∃ es n o, s.heap.get? L = some o ∧ o.data = .dict es n) : Hd A s'.heap := by
  refine x.imp id fun ⟨e, o, vs, a, b, c, d⟩ => ⟨e, o, vs, a, g.keep _ _ (fun q => ?_) b, c, d⟩
  obtain ⟨es, n, oL, q1, q2⟩ := hL
  rw [q, q1] at b; cases b; rw [q2] at c; cases c
theorem frDict {h₀ : Heap} {L : Addr} {h : Heap} {m : Str → Option Value} (F : Fr h₀ L h m) : ∃ es n o, h.get? L = some o ∧ o.data = .dict es n := by
  obtain ⟨o, es, ep, ho, hd, _⟩ := F.ns
  exact ⟨es, ep, o, ho, hd⟩

section
variable {M : Model} {A : Around} {E : Value → Shared → Prop} {s : Shared} {name : Str} {scope : Scope} {L a : Addr} {cd : Value} {h₀ : Heap} {m : Str → Option Value}

theorem st_ {x : Str} {v : Value} {Q : Unit → Shared → Prop} (F : Fr h₀ L s.heap m)
    (h : ∀ s', Fr h₀ L s'.heap (upd m x v) → ExL L s s' → Q () s')
    (hk : scope.kind = .function := by rfl) (hl : (envOf name scope L a cd).kindOf x = some .local := by rfl) :
    wpAny M A (storeName (envOf name scope L a cd) x v) Q E s :=
  wpAny_storeName_local hl F.ns (fun _ hn hs => h _ (F.set hn hs) ⟨fun b _ n e => (hs.2 b n).trans e, rfl, rfl⟩)
    (by show (scope.kind == .class || (scope.kind == .module && L != mainGlobals)) = false; rw [hk]; rfl)
end

/-- a sequence value (a list, a text) that a function reads: its items, its end, its rest from i on -/
structure Sq (prog : Program) (w : World) {α : Type} (S : List Addr) (h₀ : Heap) (Rep : Value → α → Prop) (V : Value) (X : List α) : Prop where
  len : X.length < 100000
  get : ∀ {A : Around} {E : Value → Shared → Prop} {s : Shared} {Q : Value → Shared → Prop} {value : Expr} {x : Str} {p : Pos} {i : Nat} {t : Tok} (_ : Kp S h₀ s.heap) (hi : i < X.length)
    (_ : ∀ v s', Grow s s' → Rep v X[i] → Q v s'), wpAny (model prog w) A (subscriptTail value (.Name x p) V (.int i t)) Q E s
  out : ∀ {A : Around} {E : Value → Shared → Prop} {s : Shared} {S' : List Addr} {Q : Value → Shared → Prop} {value : Expr} {x : Str} {p : Pos} {i : Nat} {t : Tok} (_ : Kp S h₀ s.heap) (_ : Hd A s.heap) (_ : X.length ≤ i) (_ : i < 200000)
    (_ : ∀ h' tk e c, Fly s.heap.get? S' e "IndexError" false c h' → (A.handled = none → c = .none) → E (.ref e) { s with heap := h', toks := tk }),
    wpAny (model prog w) A (subscriptTail value (.Name x p) V (.int i t)) Q E s
  cut : ∀ {A : Around} {E : Value → Shared → Prop} {s : Shared} {Q : Value → Shared → Prop} {value : Expr} {lo : Option Expr} {p : Pos} {i : Nat} {t : Tok} {sl aM : Addr} {ms : List Value} {n : Nat} (_ : Kp S h₀ s.heap) (_ : A.units < 9000)
    (_ : s.heap.IsSliceOf sl (.int i t) .none .none) (_ : i ≤ X.length) (_ : s.heap.get? aM = some (listOf ms.toArray n)) (_ : ms.length < 100000) (_ : h₀.get? aM = none)
    (_ : ∀ s' vs n', ExL aM s s' → s'.heap.get? aM = some (listOf (ms ++ vs).toArray n') → All2 Rep vs (X.drop i) → Q .none s'),
    wpAny (model prog w) A (subscriptTail value (.Slice lo none none p) V (.ref sl)) (fun W s₁ => wpAny (model prog w) A (call (.builtin "list.extend") [.ref aM, W]) Q E s₁) E s

/-- equality of two items -/
def EqOk (prog : Program) (w : World) {α : Type} (S : List Addr) (h₀ : Heap) (Rep : Value → α → Prop) (eq : α → α → Bool) : Prop :=
  ∀ {A : Around} {E : Value → Shared → Prop} {s : Shared} {Q : Value → Shared → Prop} {v u : Value} {x y : α}, Kp S h₀ s.heap → A.units < 9000 → Rep v x → Rep u y →
    (∀ s', Grow s s' → Q (.bool (eq x y)) s') → wpAny (model prog w) A (compareOp .Eq v u) Q E s

section
variable {prog : Program} {w : World} {α : Type} {S : List Addr} {base h₀ : Heap} {Rep : Value → α → Prop} {V : Value} {X : List α} {eq : α → α → Bool}
  {A : Around} {E : Value → Shared → Prop} {s : Shared} {name : Str} {scope : Scope} {L a : Addr} {cd : Value} {m : Str → Option Value} {outer : List Env}

theorem mkFrames {h : Heap} (B0 : h₀.FunFrames base outer) (kp : Kp S h₀ h) (F : Fr base L h m) (hk : scope.kind = .function := by rfl) : h.FunFrames base (envOf name scope L a cd :: outer) :=
  .cons (by show scope.kind ≠ .module; rw [hk]; decide) rfl F.ns (by
    cases hq : base.get? L with
    | none => rfl
    | some o => exact absurd (Nat.lt_of_lt_of_le (Heap.lt_size hq) F.above) (Nat.lt_irrefl _)) (kp.frames B0)

theorem frKp {h h' : Heap} (F : Fr base L h m) (k : Kp (L :: S) h h') (hS : ∀ b ∈ S, base.get? b = none) : Fr base L h' m := by
  refine ⟨k.ns F.ns, fun b o e => k.keep b o (F.keep b o e) fun q => ?_, F.above⟩
  rcases List.mem_cons.mp q with q | q
  · exact absurd (Nat.lt_of_lt_of_le (Heap.lt_size e) F.above) (by rw [q]; exact Nat.lt_irrefl _)
  · rw [hS b q] at e; cases e

theorem kpDrop {h h' : Heap} (k : Kp S h₀ h) (k' : Kp (L :: S) h h') (hn : h₀.get? L = none) : Kp S h₀ h' := by
  refine ⟨fun b o e n => k'.keep b o (k.keep b o e n) fun q => ?_, fun b o e => let ⟨_, e₁⟩ := k.slot b o e; let ⟨sl, e₂⟩ := k'.slot b _ e₁; ⟨sl, e₂⟩⟩
  rcases List.mem_cons.mp q with q | q
  · rw [q, hn] at e; cases e
  · exact n q
theorem mkFramesX {h h' : Heap} (B0 : h₀.FunFrames base outer) (kp : Kp (outer.filterMap (·.frame)) h₀ h) (F : Fr base L h m) (k' : Kp (L :: outer.filterMap (·.frame)) h h') (hn : h₀.get? L = none) (hk : scope.kind = .function := by rfl) :
    h'.FunFrames base (envOf name scope L a cd :: outer) :=
  mkFrames B0 (kpDrop kp k' hn) (frKp F k' fun _ hb => (B0.mem hb).1) hk

/-- «while xs[ix] == el: ix += 1» -/
theorem inner {xs ix el : Str} {p1 p2 p3 p4 p5 p6 p7 p8 p9 : Pos} {k : Nat} {i : Nat} {ti : Tok} {ve : Value} {x0 : α} {Q : Flow → Shared → Prop}
    (Z : Sq prog w S h₀ Rep V X) (hq : EqOk prog w S h₀ Rep eq) (hS : S = outer.filterMap (·.frame)) (hu : A.units < 8000)
    (hfr : A.frames = some (envOf name scope L a cd :: outer)) (B0 : h₀.FunFrames base outer) (hn : h₀.get? L = none)
    (kp : Kp S h₀ s.heap) (F : Fr base L s.heap m) (hd : Hd A s.heap)
    (mx : m xs = some V) (mi : m ix = some (.int i ti)) (me : m el = some ve) (rx : Rep ve x0) (hi : i ≤ X.length)
    (hQ : ∀ s' m' i' ti', Fr base L s'.heap m' → ExL L s s' → (∀ y, y ≠ ix → m' y = m y) → m' ix = some (.int (i' : Nat) ti') → i ≤ i' → i' < X.length →
      X.drop i' = (X.drop i).dropWhile (fun x => eq x x0) → Q .next s')
    (hE : ∀ sm s' m' ti' e c, Fr base L sm.heap m' → ExL L s sm → (∀ y, y ≠ ix → m' y = m y) → m' ix = some (.int (X.length : Nat) ti') →
      [] = (X.drop i).dropWhile (fun x => eq x x0) → Fly sm.heap.get? (L :: S) e "IndexError" true c s'.heap → s'.heap.FunFrames base (envOf name scope L a cd :: outer) → s'.os = sm.os → s'.gens = sm.gens → (A.handled = none → c = .none) → E (.ref e) s')
    (nxi : xs ≠ ix) (nei : el ≠ ix)
    (hk : scope.kind = .function := by rfl) (kx : (envOf name scope L a cd).kindOf xs = some .local := by rfl) (ki : (envOf name scope L a cd).kindOf ix = some .local := by rfl) (ke : (envOf name scope L a cd).kindOf el = some .local := by rfl)
    (dx : (xs == ("__debug__" : Str)) = false := by decide) (di : (ix == ("__debug__" : Str)) = false := by decide) (de : (el == ("__debug__" : Str)) = false := by decide) :
    wpAny (model prog w) A (exec (.While (.Compare (.Subscript (.Name xs p1) (.Name ix p2) p3) [.Eq] [.Name el p4] p5) [.AugAssign (.Name ix p6) .Add (.Constant (.int 1) k p7) p8] [] p9) (envOf name scope L a cd)) Q E s := by
  subst hS
  refine wpAny_While (codeAny_whileLoop (fun n s₁ => ∃ m₁ i₁ t₁, Fr base L s₁.heap m₁ ∧ ExL L s s₁ ∧ (∀ y, y ≠ ix → m₁ y = m y) ∧ m₁ ix = some (.int (i₁ : Nat) t₁) ∧ i ≤ i₁ ∧ i₁ ≤ X.length ∧
      (X.drop i₁).dropWhile (fun x => eq x x0) = (X.drop i).dropWhile (fun x => eq x x0) ∧ n = X.length - i₁) ?_ (X.length - i) ⟨m, i, ti, F, .refl _ _, fun _ _ => rfl, mi, Nat.le_refl _, hi, rfl, rfl⟩)
  rintro n s₁ ⟨m₁, i₁, t₁, F₁, g₁, em, e1, l1, l2, dw, rfl⟩
  have kp₁ := kpExL kp g₁ hn
  have hd₁ := hdExL hd g₁ (frDict F)
  have lx := Z.len
  refine wpAny_isTrue_Compare1 (Subscript_ (ld F₁ ((em xs nxi).trans mx) (ld F₁ e1 ?_ hk ki di) hk kx dx)) (by with_unfolding_all rfl)
  by_cases hlt : i₁ < X.length
  · refine Z.get kp₁ hlt fun v s₂ g₂ rv => ?_
    have F₂ := frGrow F₁ g₂
    refine ld F₂ ((em el nei).trans me) ?_ hk ke de
    refine hq (kpGrow kp₁ g₂) (by omega) rv rx fun s₃ g₃ => wpAny_truthy_bool ?_
    have F₃ := frGrow F₂ g₃
    have g13 := g₁.trans (g₂.trans g₃).exL
    have dc : X.drop i₁ = X[i₁] :: X.drop (i₁ + 1) := List.drop_eq_getElem_cons hlt
    cases hb : eq X[i₁] x0 with
    | false =>
      rw [if_neg (by decide)]
      refine wpAny_execs_nil (hQ _ m₁ i₁ t₁ F₃ g13 em e1 l1 hlt ?_)
      rw [← dw, dc, List.dropWhile_cons, if_neg (by rw [hb]; decide)]
    | true =>
      rw [if_pos rfl]
      refine wpAny_execs_cons (wpAny_AugAssign_Name (ldn F₃ e1 (wpAny_Constant_int (AutoIntOps.iadd_0 ?_)) hk ki))
      refine st_ (s := _) (frGrow (frGrow F₃ (Grow.toks _ _)) (Grow.toks _ _)) (fun s₄ F₄ g₄ => ?_) hk ki
      refine wpAny_execs_nil ⟨X.length - (i₁ + 1), by omega, _, i₁ + 1, _, F₄, ?_, fun y hy => upd_ne hy (em y hy), upd_same, by omega, by omega, ?_, rfl⟩
      · exact g13.trans ⟨fun b o n e => g₄.keep b o n e, g₄.os, g₄.gens⟩
      · rw [← dw, dc, List.dropWhile_cons, if_pos hb]
  · have he : i₁ = X.length := by omega
    subst he
    refine Z.out (S' := L :: outer.filterMap (·.frame)) kp₁ hd₁ (Nat.le_refl _) (by omega) fun h' tk e c fl hc => ?_
    have FFm := mkFramesX (name := name) (a := a) (cd := cd) B0 kp₁ F₁ fl.kp hn hk
    refine noted_ (hm := s₁.heap.get?) (L := L) hfr FFm rfl fl fun h₂ fl₂ FF₂ => ?_
    refine came_ fl₂ FF₂ fun h₃ fl₃ FF₃ => ?_
    refine hE s₁ _ m₁ t₁ e c F₁ g₁ em e1 ?_ fl₃ FF₃ rfl rfl hc
    rw [← dw]; simp
end

theorem dropWhile_len {α : Type} (p : α → Bool) : ∀ l : List α, (l.dropWhile p).length ≤ l.length
  | [] => Nat.le_refl _
  | x :: l => by
    rw [List.dropWhile_cons]
    split
    · exact Nat.le_trans (dropWhile_len p l) (Nat.le_succ _)
    · exact Nat.le_refl _

/-- what sorted_list_difference reckons -/
def sld {α : Type} (lt : α → α → Option Bool) (gt eq : α → α → Bool) (xs ys : List α) : Option (List α × List α) :=
  match xs, ys with
  | [], ys => some ([], ys)
  | x :: xs, [] => some (x :: xs, [])
  | x :: xs, y :: ys =>
    match lt x y with
    | none => none
    | some true => (sld lt gt eq (xs.dropWhile fun z => eq z x) (y :: ys)).map fun r => (x :: r.1, r.2)
    | some false =>
      if gt x y then (sld lt gt eq (x :: xs) (ys.dropWhile fun z => eq z y)).map fun r => (r.1, y :: r.2)
      else sld lt gt eq (xs.dropWhile fun z => eq z x) (ys.dropWhile fun z => eq z y)
termination_by xs.length + ys.length
decreasing_by
  · have := dropWhile_len (fun z => eq z x) xs; simp only [List.length_cons]; omega
  · have := dropWhile_len (fun z => eq z y) ys; simp only [List.length_cons]; omega
  · have := dropWhile_len (fun z => eq z x) xs; have := dropWhile_len (fun z => eq z y) ys; simp only [List.length_cons]; omega

section
variable {α : Type} {lt : α → α → Option Bool} {gt eq : α → α → Bool}
theorem sld_nil (ys : List α) : sld lt gt eq [] ys = some ([], ys) := by rw [sld]
theorem sld_nil' (xs : List α) : sld lt gt eq xs [] = some (xs, []) := by cases xs <;> rw [sld]
theorem sld_cons (x y : α) (xs ys : List α) : sld lt gt eq (x :: xs) (y :: ys) = match lt x y with
    | none => none
    | some true => (sld lt gt eq (xs.dropWhile fun z => eq z x) (y :: ys)).map fun r => (x :: r.1, r.2)
    | some false =>
      if gt x y then (sld lt gt eq (x :: xs) (ys.dropWhile fun z => eq z y)).map fun r => (r.1, y :: r.2)
      else sld lt gt eq (xs.dropWhile fun z => eq z x) (ys.dropWhile fun z => eq z y) := by rw [sld]
end

/-- the comparisons of two items -/
def LtOk (prog : Program) (w : World) {α : Type} (S : List Addr) (h₀ : Heap) (Rep : Value → α → Prop) (lt : α → α → Option Bool) : Prop :=
  ∀ {A : Around} {E : Value → Shared → Prop} {s : Shared} {Q : Value → Shared → Prop} {v u : Value} {x y : α}, Kp S h₀ s.heap → A.units < 9000 → A.handled = none → Rep v x → Rep u y →
    (∀ b, lt x y = some b → ∀ s', Grow s s' → Q (.bool b) s') → (lt x y = none → ∀ h' tk e, Heap.NewExc s.heap h' e "TypeError" → E (.ref e) { s with heap := h', toks := tk }) →
    wpAny (model prog w) A (compareOp .Lt v u) Q E s
def GtOk (prog : Program) (w : World) {α : Type} (S : List Addr) (h₀ : Heap) (Rep : Value → α → Prop) (lt : α → α → Option Bool) (gt : α → α → Bool) : Prop :=
  ∀ {A : Around} {E : Value → Shared → Prop} {s : Shared} {Q : Value → Shared → Prop} {v u : Value} {x y : α}, Kp S h₀ s.heap → A.units < 9000 → A.handled = none → Rep v x → Rep u y → lt x y = some false →
    (∀ s', Grow s s' → Q (.bool (gt x y)) s') → wpAny (model prog w) A (compareOp .Gt v u) Q E s

/-- a name that the builtins hold; one that the module holds -/
def Bn (base : Heap) (x : Str) (v : Value) : Prop := ∃ mg mb, base.Ns mainGlobals mg ∧ mg x = none ∧ base.Ns builtinsNs mb ∧ mb x = some v
def Gn (base : Heap) (x : Str) (v : Value) : Prop := ∃ mg, base.Ns mainGlobals mg ∧ mg x = some v

theorem frExL {base : Heap} {L D : Addr} {s s' : Shared} {m : Str → Option Value} (F : Fr base L s.heap m) (g : ExL D s s') (hL : L ≠ D) (hb : base.get? D = none) : Fr base L s'.heap m := by
  obtain ⟨o, es, ep, ho, r⟩ := F.ns
  exact ⟨⟨o, es, ep, g.keep _ _ hL ho, r⟩, fun b o e => g.keep _ _ (fun q => by rw [q, hb] at e; cases e) (F.keep b o e), F.above⟩

section
variable {prog : Program} {w : World} {A : Around} {E : Value → Shared → Prop} {s : Shared} {name : Str} {scope : Scope} {L a : Addr} {cd : Value} {base : Heap} {m : Str → Option Value}

theorem nameB {x : Str} {v : Value} {pos : Pos} {Q : Value → Shared → Prop} (F : Fr base L s.heap m) (B : Bn base x v) (h : Q v s)
    (hk : scope.kind = .function := by rfl) (hx : (envOf name scope L a cd).kindOf x = some .globalImplicit := by rfl) (hd : (x == ("__debug__" : Str)) = false := by decide) :
    wpAny (model prog w) A (eval (.Name x pos) (envOf name scope L a cd)) Q E s :=
  let ⟨_, _, g, n, b, v'⟩ := B; ld_builtin_at F g n b v' h hk hx hd
theorem nameG {x : Str} {v : Value} {pos : Pos} {Q : Value → Shared → Prop} (F : Fr base L s.heap m) (B : Gn base x v) (h : Q v s)
    (hk : scope.kind = .function := by rfl) (hx : (envOf name scope L a cd).kindOf x = some .globalImplicit := by rfl) (hd : (x == ("__debug__" : Str)) = false := by decide) :
    wpAny (model prog w) A (eval (.Name x pos) (envOf name scope L a cd)) Q E s :=
  let ⟨_, g, v'⟩ := B; ld_global_at F g v' h hk hx hd

/-- «xs.append(e)» as a statement -/
theorem append_ {on : Str} {e : Expr} {pl : Sem Bool} {p p1 p2 p3 : Pos} {D : Addr} {ms : List Value} {n : Nat} {Q : Flow → Shared → Prop} (F : Fr base L s.heap m) (mo : m on = some (.ref D)) (hD : s.heap.get? D = some (listOf ms.toArray n))
    (hsz : ms.length < 1000000)
    (he : wpAny (model prog w) A (eval e (envOf name scope L a cd)) (fun v s₁ => Grow s s₁ ∧ ∀ s', ExL D s₁ s' → s'.heap.get? D = some (listOf (ms ++ [v]).toArray (n + 1)) → Q .next s') E s)
    (hc : eval (.Call (.Attribute (.Name on p) "append" p1) [e] [] p2) (envOf name scope L a cd) = (do
      let ov ← eval (.Name on p) (envOf name scope L a cd)
      standAt p1.atName
      let (f, first) ← holding [ov] (getMethod ov "append" pl)
      callWith p2 f first (backTo p2 (starEach [e] (envOf name scope L a cd))) []) := by rfl)
    (hs : starEach [e] (envOf name scope L a cd) = [(false, eval e (envOf name scope L a cd))] := by rfl)
    (hk : scope.kind = .function := by rfl) (hl : (envOf name scope L a cd).kindOf on = some .local := by rfl) (hd : (on == ("__debug__" : Str)) = false := by decide) (hi : interactive (envOf name scope L a cd) = false := by rfl) :
    wpAny (model prog w) A (exec (.Expr (.Call (.Attribute (.Name on p) "append" p1) [e] [] p2) p3) (envOf name scope L a cd)) Q E s := by
  refine wpAny_Expr_any (MethodCall_ (ld F mo ?_ hk hl hd) hc) hi rfl
  refine getMethod_builtin ⟨_, hD, rfl⟩ PySem.F.plainAttrs_list slot_list_append PySem.F.type_list_append (fun x q => by cases q; exact ⟨_, hD, rfl⟩) ?_
  refine callWith_method1 (spliced_more (wpAny_mono he (fun v s₁ ⟨g, h⟩ => spliced_none ?_) fun _ _ x => x) hs) hs rfl
  refine append_at (g.keep _ _ hD) (fun h' sb hD' => h _ ⟨fun b o n q => (sb.2 b n).trans q, rfl, rfl⟩ ?_) ?_
  · have q : ms.toArray.push v = (ms ++ [v]).toArray := by simp
    rw [q] at hD'; exact hD'
  · rw [List.size_toArray, sizeLine_eq]; omega

/-- «xs.extend(V[ix:])» as a statement -/
theorem extendCut {α : Type} {S : List Addr} {h₀ : Heap} {Rep : Value → α → Prop} {V : Value} {X : List α} {on xs ix : Str} {pl : Sem Bool} {p p1 p2 p3 q1 q2 q3 q4 : Pos} {D : Addr} {ms : List Value} {n i : Nat} {ti : Tok} {Q : Flow → Shared → Prop}
    (Z : Sq prog w S h₀ Rep V X) (kp : Kp S h₀ s.heap) (hu : A.units < 9000) (F : Fr base L s.heap m) (mo : m on = some (.ref D)) (hD : s.heap.get? D = some (listOf ms.toArray n)) (hsz : ms.length < 100000) (nD : h₀.get? D = none)
    (mx : m xs = some V) (mi : m ix = some (.int (i : Nat) ti)) (hi' : i ≤ X.length)
    (h : ∀ s' vs n', ExL D s s' → s'.heap.get? D = some (listOf (ms ++ vs).toArray n') → All2 Rep vs (X.drop i) → Q .next s')
    (hc : eval (.Call (.Attribute (.Name on p) "extend" p1) [.Subscript (.Name xs q1) (.Slice (some (.Name ix q2)) none none q3) q4] [] p2) (envOf name scope L a cd) = (do
      let ov ← eval (.Name on p) (envOf name scope L a cd)
      standAt p1.atName
      let (f, first) ← holding [ov] (getMethod ov "extend" pl)
      callWith p2 f first (backTo p2 (starEach [.Subscript (.Name xs q1) (.Slice (some (.Name ix q2)) none none q3) q4] (envOf name scope L a cd))) []) := by rfl)
    (hk : scope.kind = .function := by rfl) (hl : (envOf name scope L a cd).kindOf on = some .local := by rfl) (hd : (on == ("__debug__" : Str)) = false := by decide) (hi : interactive (envOf name scope L a cd) = false := by rfl)
    (kx : (envOf name scope L a cd).kindOf xs = some .local := by rfl) (ki : (envOf name scope L a cd).kindOf ix = some .local := by rfl)
    (dx : (xs == ("__debug__" : Str)) = false := by decide) (di : (ix == ("__debug__" : Str)) = false := by decide) :
    wpAny (model prog w) A (exec (.Expr (.Call (.Attribute (.Name on p) "extend" p1) [.Subscript (.Name xs q1) (.Slice (some (.Name ix q2)) none none q3) q4] [] p2) p3) (envOf name scope L a cd)) Q E s := by
  refine wpAny_Expr_any (MethodCall_ (ld F mo ?_ hk hl hd) hc) hi rfl
  refine getMethod_builtin ⟨_, hD, rfl⟩ PySem.F.plainAttrs_list PySem.F.slot_list_extend PySem.F.type_list_extend (fun x q => by cases q; exact ⟨_, hD, rfl⟩) ?_
  refine callWith_method1 (spliced_more (Subscript_ (ld F mx (wpAny_Slice ?_) hk kx dx)) rfl) rfl rfl
  rw [evalPart_some, evalPart_none]
  refine ld F mi (wpAny_pure (wpAny_pure ?_)) hk ki di
  have g : Grow s { s with heap := s.heap.push { cls := .type "slice", data := .fields #[.int (i : Nat) ti, .none, .none] } } := ⟨fun _ _ e => Heap.get?_push_of_some _ e, rfl, rfl⟩
  refine wpAny_mono (Z.cut (E := E) (aM := D) (kpGrow kp g) hu (Heap.IsSliceOf.new ..) hi' (g.keep _ _ hD) hsz nD (Q := fun _ s' => Q .next s') fun s' vs n' g' hD' av => h s' vs n' ((g.exL).trans g') hD' av) (fun W s₁ hW => spliced_none ?_) fun _ _ x => x
  exact hW
end

def stmtAt (p : Program) (i : Nat) : Stmt := p.main.body.getD i (.Pass ⟨0, 0, 0, 0⟩)
def bodyOf : Stmt → List Stmt
  | .FunctionDef _ _ b _ _ _ _ _ _ _ => b
  | .While _ b _ _ => b
  | .Try b _ _ _ _ => b
  | .For _ _ b _ _ => b
  | _ => []
def scopeOf : Stmt → Scope
  | .FunctionDef _ _ _ _ _ _ sc _ _ _ => sc
  | _ => default
def paramsOf : Stmt → Arguments
  | .FunctionDef _ ps _ _ _ _ _ _ _ _ => ps
  | _ => default
def handlersOf : Stmt → List ExceptHandler
  | .Try _ hs _ _ _ => hs
  | _ => []
def nth (l : List Stmt) (i : Nat) : Stmt := l.getD i (.Pass ⟨0, 0, 0, 0⟩)
def sldBody : List Stmt := bodyOf (stmtAt PySem.Challenge.pw_dn0234_01 1)
def sldScope : Scope := scopeOf (stmtAt PySem.Challenge.pw_dn0234_01 1)
def sldTry : Stmt := nth (bodyOf (nth sldBody 3)) 0
abbrev sldEnv (L f : Addr) (cd : Value) : Env := envOf "sorted_list_difference" sldScope L f cd

/-- what the call has made and what stands -/
structure Co (S : List Addr) (h₀ : Heap) (s₀ : Shared) (aM aU : Addr) (s : Shared) (ms us : List Value) : Prop where
  kp : Kp S h₀ s.heap
  M : ∃ n, s.heap.get? aM = some (listOf ms.toArray n)
  U : ∃ n, s.heap.get? aU = some (listOf us.toArray n)
  os : s.os = s₀.os
  gens : s.gens = s₀.gens

section
variable {S : List Addr} {h₀ : Heap} {s₀ s s' : Shared} {L aM aU : Addr} {ms us : List Value}
theorem Co.exL (c : Co S h₀ s₀ aM aU s ms us) (g : ExL L s s') (hn : h₀.get? L = none) (hM : aM ≠ L) (hU : aU ≠ L) : Co S h₀ s₀ aM aU s' ms us :=
  ⟨kpExL c.kp g hn, c.M.imp fun _ q => g.keep _ _ hM q, c.U.imp fun _ q => g.keep _ _ hU q, g.os.trans c.os, g.gens.trans c.gens⟩
theorem Co.grow (c : Co S h₀ s₀ aM aU s ms us) (g : Grow s s') : Co S h₀ s₀ aM aU s' ms us :=
  ⟨kpGrow c.kp g, c.M.imp fun _ q => g.keep _ _ q, c.U.imp fun _ q => g.keep _ _ q, g.os.trans c.os, g.gens.trans c.gens⟩
theorem Co.fly (c : Co S h₀ s₀ aM aU s ms us) (k : Kp (L :: S) s.heap s'.heap) (os : s'.os = s.os) (gens : s'.gens = s.gens) (hn : h₀.get? L = none) (hM : aM ∉ L :: S) (hU : aU ∉ L :: S) : Co S h₀ s₀ aM aU s' ms us :=
  ⟨kpDrop c.kp k hn, c.M.imp fun _ q => k.keep _ _ q hM, c.U.imp fun _ q => k.keep _ _ q hU, os.trans c.os, gens.trans c.gens⟩
theorem Co.setM {ms' : List Value} {n : Nat} (c : Co S h₀ s₀ aM aU s ms us) (g : ExL aM s s') (hq : s'.heap.get? aM = some (listOf ms'.toArray n)) (hn : h₀.get? aM = none) (hU : aU ≠ aM) : Co S h₀ s₀ aM aU s' ms' us :=
  ⟨kpExL c.kp g hn, ⟨n, hq⟩, c.U.imp fun _ q => g.keep _ _ hU q, g.os.trans c.os, g.gens.trans c.gens⟩
theorem Co.setU {us' : List Value} {n : Nat} (c : Co S h₀ s₀ aM aU s ms us) (g : ExL aU s s') (hq : s'.heap.get? aU = some (listOf us'.toArray n)) (hn : h₀.get? aU = none) (hM : aM ≠ aU) : Co S h₀ s₀ aM aU s' ms us' :=
  ⟨kpExL c.kp g hn, c.M.imp fun _ q => g.keep _ _ hM q, ⟨n, hq⟩, g.os.trans c.os, g.gens.trans c.gens⟩
end

/-- the six names that the loop turns on -/
structure Lk (V1 V2 : Value) (aM aU : Addr) (m : Str → Option Value) (i j : Nat) (ti tj : Tok) : Prop where
  x : m "expected" = some V1
  y : m "actual" = some V2
  M : m "missing" = some (.ref aM)
  U : m "unexpected" = some (.ref aU)
  i : m "i" = some (.int (i : Nat) ti)
  j : m "j" = some (.int (j : Nat) tj)

section
variable {V1 V2 : Value} {aM aU : Addr} {m m' : Str → Option Value} {i j i' j' : Nat} {ti tj ti' tj' : Tok}
theorem Lk.setI (k : Lk V1 V2 aM aU m i j ti tj) (h : ∀ y, y ≠ ("i" : Str) → m' y = m y) (hi : m' "i" = some (.int (i' : Nat) ti')) : Lk V1 V2 aM aU m' i' j ti' tj :=
  ⟨(h _ (by decide)).trans k.x, (h _ (by decide)).trans k.y, (h _ (by decide)).trans k.M, (h _ (by decide)).trans k.U, hi, (h _ (by decide)).trans k.j⟩
theorem Lk.setJ (k : Lk V1 V2 aM aU m i j ti tj) (h : ∀ y, y ≠ ("j" : Str) → m' y = m y) (hj : m' "j" = some (.int (j' : Nat) tj')) : Lk V1 V2 aM aU m' i j' ti tj' :=
  ⟨(h _ (by decide)).trans k.x, (h _ (by decide)).trans k.y, (h _ (by decide)).trans k.M, (h _ (by decide)).trans k.U, (h _ (by decide)).trans k.i, hj⟩
theorem Lk.setE (k : Lk V1 V2 aM aU m i j ti tj) (v : Value) : Lk V1 V2 aM aU (upd m "e" v) i j ti tj :=
  ⟨upd_ne (by decide) k.x, upd_ne (by decide) k.y, upd_ne (by decide) k.M, upd_ne (by decide) k.U, upd_ne (by decide) k.i, upd_ne (by decide) k.j⟩
theorem Lk.setA (k : Lk V1 V2 aM aU m i j ti tj) (v : Value) : Lk V1 V2 aM aU (upd m "a" v) i j ti tj :=
  ⟨upd_ne (by decide) k.x, upd_ne (by decide) k.y, upd_ne (by decide) k.M, upd_ne (by decide) k.U, upd_ne (by decide) k.i, upd_ne (by decide) k.j⟩
end

/-- where the reckoning stands -/
def Ma {α : Type} (Rep : Value → α → Prop) (lt : α → α → Option Bool) (gt eq : α → α → Bool) (X Y : List α) (i j : Nat) (ms us : List Value) : Prop :=
  ∃ am au, All2 Rep ms am ∧ All2 Rep us au ∧ am.length ≤ i ∧ au.length ≤ j ∧ sld lt gt eq X Y = (sld lt gt eq (X.drop i) (Y.drop j)).map fun r => (am ++ r.1, au ++ r.2)
def Fi {α : Type} (Rep : Value → α → Prop) (lt : α → α → Option Bool) (gt eq : α → α → Bool) (X Y : List α) (ms us : List Value) : Prop :=
  ∃ r, sld lt gt eq X Y = some r ∧ All2 Rep ms r.1 ∧ All2 Rep us r.2

section
variable {α : Type} {Rep : Value → α → Prop} {lt : α → α → Option Bool} {gt eq : α → α → Bool} {X Y : List α} {i j : Nat} {ms us vs ws : List Value}
theorem Ma.fin (h : Ma Rep lt gt eq X Y i j ms us) (e : i = X.length ∨ j = Y.length) (a : All2 Rep vs (X.drop i)) (b : All2 Rep ws (Y.drop j)) : Fi Rep lt gt eq X Y (ms ++ vs) (us ++ ws) := by
  obtain ⟨am, au, h1, h2, _, _, h3⟩ := h
  refine ⟨(am ++ X.drop i, au ++ Y.drop j), ?_, h1.append a, h2.append b⟩
  rw [h3]
  rcases e with rfl | rfl
  · rw [List.drop_length, sld_nil]; rfl
  · rw [List.drop_length, sld_nil']; rfl
theorem Ma.lenM (h : Ma Rep lt gt eq X Y i j ms us) : ms.length ≤ i := by
  obtain ⟨am, au, h1, _, h2, _⟩ := h; rw [h1.length]; exact h2
theorem Ma.lenU (h : Ma Rep lt gt eq X Y i j ms us) : us.length ≤ j := by
  obtain ⟨am, au, _, h1, _, h2, _⟩ := h; rw [h1.length]; exact h2
end

/-- while hm stands, the frame and the two lists stand -/
def Good (base h₀ : Heap) (S : List Addr) (s₀ : Shared) (L aM aU : Addr) (m : Str → Option Value) (ms us : List Value) (hm : Addr → Option Obj) : Prop :=
  ∀ s' : Shared, (∀ b o, hm b = some o → b ∉ L :: S → s'.heap.get? b = some o) → (∀ b o, hm b = some o → ∃ sl, s'.heap.get? b = some { o with slots := sl }) → s'.os = s₀.os → s'.gens = s₀.gens →
    Fr base L s'.heap m ∧ Co S h₀ s₀ aM aU s' ms us

/-- what is apart from what -/
structure Ap (base h₀ : Heap) (outer : List Env) (L aM aU : Addr) : Prop where
  B0 : h₀.FunFrames base outer
  hb : base.StaysIn h₀
  nL : h₀.get? L = none
  nM : h₀.get? aM = none
  nU : h₀.get? aU = none
  ML : aM ≠ L
  UL : aU ≠ L
  MU : aM ≠ aU

section
variable {base h₀ : Heap} {outer : List Env} {L aM aU : Addr}
theorem Ap.inS (P : Ap base h₀ outer L aM aU) : ∀ b ∈ outer.filterMap (·.frame), h₀.get? b ≠ none := fun b hb' q => by
  obtain ⟨_, o, ho, _⟩ := P.B0.mem hb'
  rw [ho] at q; cases q
theorem Ap.eM (P : Ap base h₀ outer L aM aU) : aM ∉ L :: outer.filterMap (·.frame) := fun q => by
  rcases List.mem_cons.mp q with q | q
  · exact P.ML q
  · exact P.inS _ q P.nM
theorem Ap.eU (P : Ap base h₀ outer L aM aU) : aU ∉ L :: outer.filterMap (·.frame) := fun q => by
  rcases List.mem_cons.mp q with q | q
  · exact P.UL q
  · exact P.inS _ q P.nU
theorem Ap.bn (P : Ap base h₀ outer L aM aU) : ∀ a, h₀.get? a = none → base.get? a = none := fun a q => by
  cases q' : base.get? a with
  | none => rfl
  | some o => rw [P.hb a o q'] at q; cases q
theorem Ap.Sb (P : Ap base h₀ outer L aM aU) : ∀ b ∈ outer.filterMap (·.frame), base.get? b = none := fun _ hb' => (P.B0.mem hb').1

theorem Good.of {s₀ sm : Shared} {m : Str → Option Value} {ms us : List Value} (P : Ap base h₀ outer L aM aU) (F : Fr base L sm.heap m) (C : Co (outer.filterMap (·.frame)) h₀ s₀ aM aU sm ms us) :
    Good base h₀ (outer.filterMap (·.frame)) s₀ L aM aU m ms us sm.heap.get? := fun s' k1 k2 os gens =>
  have k : Kp (L :: outer.filterMap (·.frame)) sm.heap s'.heap := ⟨k1, k2⟩
  ⟨frKp F k P.Sb, C.fly k (os.trans C.os.symm) (gens.trans C.gens.symm) P.nL P.eM P.eU⟩

theorem Good.again {s₀ s : Shared} {m : Str → Option Value} {ms us : List Value} {hm : Addr → Option Obj} (P : Ap base h₀ outer L aM aU) (F : Fr base L s.heap m) (C : Co (outer.filterMap (·.frame)) h₀ s₀ aM aU s ms us)
    (h1 : ∀ b o, s.heap.get? b = some o → (h₀.get? b ≠ none ∨ b = L ∨ b = aM ∨ b = aU) → hm b = some o) : Good base h₀ (outer.filterMap (·.frame)) s₀ L aM aU m ms us hm := by
  intro s' k1 k2 os gens
  have kh : ∀ b o, h₀.get? b = some o → b ∉ outer.filterMap (·.frame) → s'.heap.get? b = some o := fun b o e n => k1 b o (h1 b o (C.kp.keep b o e n) (.inl (by rw [e]; exact fun q => by cases q))) fun q => by
    rcases List.mem_cons.mp q with q | q
    · rw [q, P.nL] at e; cases e
    · exact n q
  refine ⟨⟨?_, fun b o e => kh b o (P.hb b o e) fun q => ?_, F.above⟩, ⟨kh, fun b o e => ?_⟩, ?_, ?_, os, gens⟩
  · obtain ⟨o, es, ep, ho, hd, r⟩ := F.ns
    obtain ⟨sl, q⟩ := k2 L o (h1 L o ho (.inr (.inl rfl)))
    exact ⟨_, es, ep, q, hd, r⟩
  · rw [P.Sb b q] at e; cases e
  · obtain ⟨sl, q⟩ := C.kp.slot b o e
    obtain ⟨sl', q'⟩ := k2 b _ (h1 b _ q (.inl (by rw [e]; exact fun q => by cases q)))
    exact ⟨sl', q'⟩
  · exact C.M.imp fun _ q => k1 _ _ (h1 _ _ q (.inr (.inr (.inl rfl)))) P.eM
  · exact C.U.imp fun _ q => k1 _ _ (h1 _ _ q (.inr (.inr (.inr rfl)))) P.eU
end

section
variable {prog : Program} {w : World} {α : Type} {S : List Addr} {base h₀ : Heap} {Rep : Value → α → Prop} {V1 V2 : Value} {X Y : List α} {lt : α → α → Option Bool} {gt eq : α → α → Bool}
  {A : Around} {E : Value → Shared → Prop} {s s₀ : Shared} {L f aM aU : Addr} {cd : Value} {m : Str → Option Value} {outer : List Env}

/-- the handler: what is left of both is told, and the loop is left -/
theorem handler_ {hm : Addr → Option Obj} {i j : Nat} {ti tj : Tok} {ms us : List Value} {e : Addr} {tr : Bool} {c : Value} {Q : Flow → Shared → Prop}
    (Z1 : Sq prog w (outer.filterMap (·.frame)) h₀ Rep V1 X) (Z2 : Sq prog w (outer.filterMap (·.frame)) h₀ Rep V2 Y) (hu : A.units < 8000) (hI : Bn base "IndexError" (.type "IndexError"))
    (hfr : A.frames = some (sldEnv L f cd :: outer)) (P : Ap base h₀ outer L aM aU) (G : Good base h₀ (outer.filterMap (·.frame)) s₀ L aM aU m ms us hm)
    (K : Lk V1 V2 aM aU m i j ti tj) (li : i ≤ X.length) (lj : j ≤ Y.length) (hM : Ma Rep lt gt eq X Y i j ms us) (hend : i = X.length ∨ j = Y.length)
    (X0 : Fly hm (L :: outer.filterMap (·.frame)) e "IndexError" tr c s.heap) (FF : s.heap.FunFrames base (sldEnv L f cd :: outer)) (os : s.os = s₀.os) (gens : s.gens = s₀.gens)
    (hQ : ∀ s' ms' us', Fr base L s'.heap m → Co (outer.filterMap (·.frame)) h₀ s₀ aM aU s' ms' us' → Fi Rep lt gt eq X Y ms' us' → Q .brk s') :
    wpAny (model prog w) A (noteFrame (.ref e) (sldEnv L f cd)) (fun _ s₂ => wpAny (model prog w) A (setFlight (.ref e) none) (fun _ s₃ => wpAny (model prog w) A (handleBy (.ref e) (sldEnv L f cd) (handlersOf sldTry)) Q E s₃) E s₂) E s := by
  refine note_ (base := base) (L := L) hfr FF rfl X0 fun h₁ X1 FF1 => ?_
  refine flight_ (base := base) X1 FF1 fun h₂ X2 FF2 => ?_
  have F2 := (G { s with heap := h₂ } X2.keep X2.slot os gens).1
  refine wpAny_handleBy_builtin (X := "IndexError") (T := "IndexError") (b := true) PySem.F.isExc_IndexError (by with_unfolding_all rfl) PySem.F.self_IndexError ?_
  refine nameB (s := { s with heap := h₂ }) F2 hI ⟨rfl, ?_, ?_⟩
  · obtain ⟨_, _, _, oe, vs, he, hc, _⟩ := X2
    exact ⟨oe, he, hc⟩
  rw [if_pos rfl]
  refine flight_ (base := base) X2 FF2 fun h₃ X3 FF3 => ?_
  obtain ⟨F3, C3⟩ := G { s with heap := h₃ } X3.keep X3.slot os gens
  obtain ⟨nm, gM⟩ := C3.M
  have lM := hM.lenM
  have lU := hM.lenU
  have lX := Z1.len
  have lY := Z2.len
  refine wpAny_execs_cons (extendCut Z1 C3.kp (by show A.units < 9000; omega) F3 K.M gM (by omega) P.nM K.x K.i li fun s₄ vs n₄ g₄ gM₄ av => ?_)
  have C4 := C3.setM g₄ gM₄ P.nM (Ne.symm P.MU)
  have F4 := frExL (s := { s with heap := h₃ }) F3 g₄ (Ne.symm P.ML) (P.bn _ P.nM)
  obtain ⟨nu, gU⟩ := C4.U
  refine wpAny_execs_cons (extendCut Z2 C4.kp (by show A.units < 9000; omega) F4 K.U gU (by omega) P.nU K.y K.j lj fun s₅ ws n₅ g₅ gU₅ aw => ?_)
  have C5 := C4.setU g₅ gU₅ P.nU P.MU
  have F5 := frExL F4 g₅ (Ne.symm P.UL) (P.bn _ P.nU)
  refine wpAny_execs_cons (wpAny_Break ?_)
  exact hQ s₅ _ _ F5 C5 (hM.fin hend av aw)
end

section
variable {α : Type} {Rep : Value → α → Prop} {lt : α → α → Option Bool} {gt eq : α → α → Bool} {X Y : List α} {i j i' j' : Nat} {ms us : List Value} {v : Value}
theorem Ma.stepNo (h : Ma Rep lt gt eq X Y i j ms us) (hi : i < X.length) (hj : j < Y.length) (hl : lt X[i] Y[j] = none) : sld lt gt eq X Y = none := by
  obtain ⟨am, au, _, _, _, _, h3⟩ := h
  rw [h3, List.drop_eq_getElem_cons hi, List.drop_eq_getElem_cons hj, sld_cons, hl]; rfl
theorem Ma.stepLt (h : Ma Rep lt gt eq X Y i j ms us) (hi : i < X.length) (hj : j < Y.length) (hl : lt X[i] Y[j] = some true) (rv : Rep v X[i]) (hi' : i < i')
    (hd : X.drop i' = (X.drop (i + 1)).dropWhile fun z => eq z X[i]) : Ma Rep lt gt eq X Y i' j (ms ++ [v]) us := by
  obtain ⟨am, au, h1, h2, l1, l2, h3⟩ := h
  refine ⟨am ++ [X[i]], au, h1.append (.cons rv .nil), h2, by simp; omega, l2, ?_⟩
  rw [h3, List.drop_eq_getElem_cons hi, List.drop_eq_getElem_cons hj, sld_cons, hl, hd]
  dsimp only
  rw [Option.map_map]
  congr 1
  funext r
  simp
theorem Ma.stepGt (h : Ma Rep lt gt eq X Y i j ms us) (hi : i < X.length) (hj : j < Y.length) (hl : lt X[i] Y[j] = some false) (hg : gt X[i] Y[j] = true) (rv : Rep v Y[j]) (hj' : j < j')
    (hd : Y.drop j' = (Y.drop (j + 1)).dropWhile fun z => eq z Y[j]) : Ma Rep lt gt eq X Y i j' ms (us ++ [v]) := by
  obtain ⟨am, au, h1, h2, l1, l2, h3⟩ := h
  refine ⟨am, au ++ [Y[j]], h1, h2.append (.cons rv .nil), l1, by simp; omega, ?_⟩
  rw [h3, List.drop_eq_getElem_cons hi, List.drop_eq_getElem_cons hj, sld_cons, hl, hd]
  dsimp only
  rw [if_pos hg, Option.map_map]
  congr 1
  funext r
  simp
theorem Ma.stepEq (h : Ma Rep lt gt eq X Y i j ms us) (hi : i < X.length) (hj : j < Y.length) (hl : lt X[i] Y[j] = some false) (hg : gt X[i] Y[j] = false) (hi' : i < i') (hj' : j < j')
    (hd : X.drop i' = (X.drop (i + 1)).dropWhile fun z => eq z X[i]) (hd' : Y.drop j' = (Y.drop (j + 1)).dropWhile fun z => eq z Y[j]) : Ma Rep lt gt eq X Y i' j' ms us := by
  obtain ⟨am, au, h1, h2, l1, l2, h3⟩ := h
  refine ⟨am, au, h1, h2, by omega, by omega, ?_⟩
  rw [h3, List.drop_eq_getElem_cons hi, List.drop_eq_getElem_cons hj, sld_cons, hl, hd, hd']
  dsimp only
  rw [if_neg (by rw [hg]; decide)]
end

section
variable {prog : Program} {w : World} {α : Type} {base h₀ : Heap} {Rep : Value → α → Prop} {V1 V2 : Value} {X Y : List α} {lt : α → α → Option Bool} {gt eq : α → α → Bool}
  {A : Around} {E : Value → Shared → Prop} {s s₀ : Shared} {L f aM aU : Addr} {cd : Value} {m : Str → Option Value} {outer : List Env}

/-- the loop's state, n turns (at most) ahead of its end -/
def St (base h₀ : Heap) (Rep : Value → α → Prop) (V1 V2 : Value) (X Y : List α) (lt : α → α → Option Bool) (gt eq : α → α → Bool) (s₀ : Shared) (L aM aU : Addr) (outer : List Env) (n : Nat) (s : Shared) : Prop :=
  ∃ m i j ti tj ms us, Fr base L s.heap m ∧ Co (outer.filterMap (·.frame)) h₀ s₀ aM aU s ms us ∧ Lk V1 V2 aM aU m i j ti tj ∧ i ≤ X.length ∧ j ≤ Y.length ∧ Ma Rep lt gt eq X Y i j ms us ∧ (X.length - i) + (Y.length - j) = n
/-- an IndexError is on its way -/
def Ix (base h₀ : Heap) (Rep : Value → α → Prop) (V1 V2 : Value) (X Y : List α) (lt : α → α → Option Bool) (gt eq : α → α → Bool) (s₀ : Shared) (L f aM aU : Addr) (cd : Value) (outer : List Env) (e : Addr) (s : Shared) : Prop :=
  ∃ hm m i j ti tj ms us tr c, Good base h₀ (outer.filterMap (·.frame)) s₀ L aM aU m ms us hm ∧ Lk V1 V2 aM aU m i j ti tj ∧ i ≤ X.length ∧ j ≤ Y.length ∧ Ma Rep lt gt eq X Y i j ms us ∧ (i = X.length ∨ j = Y.length) ∧
    Fly hm (L :: outer.filterMap (·.frame)) e "IndexError" tr c s.heap ∧ s.heap.FunFrames base (sldEnv L f cd :: outer) ∧ s.os = s₀.os ∧ s.gens = s₀.gens
/-- a TypeError is on its way -/
def Tx (base h₀ : Heap) (X Y : List α) (lt : α → α → Option Bool) (gt eq : α → α → Bool) (s₀ : Shared) (L f : Addr) (cd : Value) (outer : List Env) (tr : Bool) (e : Addr) (s : Shared) : Prop :=
  sld lt gt eq X Y = none ∧ ∃ (hm : Heap) (m : Str → Option Value), Fr base L hm m ∧ Kp (outer.filterMap (·.frame)) h₀ hm ∧ Fly hm.get? (L :: outer.filterMap (·.frame)) e "TypeError" tr .none s.heap ∧ s.heap.FunFrames base (sldEnv L f cd :: outer) ∧ s.os = s₀.os ∧ s.gens = s₀.gens

/-- «x += 1» -/
theorem aug1 {name : Str} {scope : Scope} {a : Addr} {x : Str} {p1 p2 p3 : Pos} {k i : Nat} {ti : Tok} {Q : Flow → Shared → Prop} (F : Fr base L s.heap m) (mx : m x = some (.int (i : Nat) ti))
    (h : ∀ s' t, Fr base L s'.heap (upd m x (.int ((i + 1 : Nat) : Int) t)) → ExL L s s' → Q .next s')
    (hk : scope.kind = .function := by rfl) (hl : (envOf name scope L a cd).kindOf x = some .local := by rfl) :
    wpAny (model prog w) A (exec (.AugAssign (.Name x p1) .Add (.Constant (.int 1) k p2) p3) (envOf name scope L a cd)) Q E s := by
  refine wpAny_AugAssign_Name (ldn F mx (wpAny_Constant_int (AutoIntOps.iadd_0 ?_)) hk hl)
  refine st_ (s := _) (frGrow (frGrow F (Grow.toks _ _)) (Grow.toks _ _)) (fun s₇ F₇ g₇ => h s₇ _ F₇ ⟨fun b o n e => g₇.keep b o n e, g₇.os, g₇.gens⟩) hk hl

theorem tryBody_ {n : Nat}
    (Z1 : Sq prog w (outer.filterMap (·.frame)) h₀ Rep V1 X) (Z2 : Sq prog w (outer.filterMap (·.frame)) h₀ Rep V2 Y) (hq : EqOk prog w (outer.filterMap (·.frame)) h₀ Rep eq) (hlt : LtOk prog w (outer.filterMap (·.frame)) h₀ Rep lt) (hgt : GtOk prog w (outer.filterMap (·.frame)) h₀ Rep lt gt)
    (hu : A.units < 8000) (hh : A.handled = none) (hfr : A.frames = some (sldEnv L f cd :: outer)) (P : Ap base h₀ outer L aM aU)
    (h : St base h₀ Rep V1 V2 X Y lt gt eq s₀ L aM aU outer n s) :
    wpAny (model prog w) A (execs (bodyOf sldTry) (sldEnv L f cd)) (fun fl s' => fl = .next ∧ ∃ n', n' < n ∧ St base h₀ Rep V1 V2 X Y lt gt eq s₀ L aM aU outer n' s')
      (fun e s' => ∃ a, e = .ref a ∧ (Ix base h₀ Rep V1 V2 X Y lt gt eq s₀ L f aM aU cd outer a s' ∨ Tx base h₀ X Y lt gt eq s₀ L f cd outer false a s')) s := by
  obtain ⟨m, i, j, ti, tj, ms, us, F, C, K, li, lj, hM, hn⟩ := h
  have lX := Z1.len
  have lY := Z2.len
  have lM := hM.lenM
  have lU := hM.lenU
  -- e = expected[i]
  refine wpAny_execs_cons (wpAny_Assign_Name (Subscript_ (ld F K.x (ld F K.i ?_))))
  rcases Nat.lt_or_eq_of_le li with hi | hi
  case inr =>
    refine Z1.out (S' := L :: outer.filterMap (·.frame)) C.kp (.inl hh) (by omega) (by omega) fun h' tk e c fl hc => ⟨e, rfl, .inl ⟨s.heap.get?, m, i, j, ti, tj, ms, us, false, c, .of P F C, K, li, lj, hM, .inl hi, fl, mkFramesX P.B0 C.kp F fl.kp P.nL, C.os, C.gens⟩⟩
  refine Z1.get C.kp hi fun v s₁ g₁ rv => st_ (frGrow F g₁) fun s₂ F₂ g₂ => ?_
  have C₂ := (C.grow g₁).exL g₂ P.nL P.ML P.UL
  have K₂ := K.setE v
  -- a = actual[j]
  refine wpAny_execs_cons (wpAny_Assign_Name (Subscript_ (ld F₂ K₂.y (ld F₂ K₂.j ?_))))
  rcases Nat.lt_or_eq_of_le lj with hj | hj
  case inr =>
    refine Z2.out (S' := L :: outer.filterMap (·.frame)) C₂.kp (.inl hh) (by omega) (by omega) fun h' tk e c fl hc => ⟨e, rfl, .inl ⟨s₂.heap.get?, _, i, j, ti, tj, ms, us, false, c, .of P F₂ C₂, K₂, li, lj, hM, .inr hj, fl, mkFramesX P.B0 C₂.kp F₂ fl.kp P.nL, C₂.os, C₂.gens⟩⟩
  refine Z2.get C₂.kp hj fun u s₃ g₃ ru => st_ (frGrow F₂ g₃) fun s₄ F₄ g₄ => ?_
  have C₄ := (C₂.grow g₃).exL g₄ P.nL P.ML P.UL
  have K₄ := K₂.setA u
  have me : upd (upd m "e" v) "a" u "e" = some v := upd_ne (by decide) upd_same
  have ma : upd (upd m "e" v) "a" u "a" = some u := upd_same
  generalize hm4 : upd (upd m "e" v) "a" u = m₄ at *
  -- e < a
  refine wpAny_execs_cons (wpAny_If (wpAny_isTrue_Compare1 (ld F₄ me (ld F₄ ma (hlt C₄.kp (by omega) hh rv ru (fun b hb s₅ g₅ => wpAny_truthy_bool ?_) fun hnone h' tk e hx => ?_)))))
  case refine_2 =>
    have fl := Fly.of_new (S := L :: outer.filterMap (·.frame)) hx
    exact ⟨e, rfl, .inr ⟨hM.stepNo hi hj hnone, s₄.heap, m₄, F₄, C₄.kp, fl, mkFramesX P.B0 C₄.kp F₄ fl.kp P.nL, C₄.os, C₄.gens⟩⟩
  have C₅ := C₄.grow g₅
  have F₅ := frGrow F₄ g₅
  cases b with
  | true =>
    rw [if_pos rfl]
    -- missing.append(e)
    obtain ⟨nm, gM⟩ := C₅.M
    refine wpAny_execs_cons (append_ F₅ K₄.M gM (by omega) (ld F₅ me ⟨.refl _, fun s₆ g₆ gM₆ => ?_⟩))
    have C₆ := C₅.setM g₆ gM₆ P.nM (Ne.symm P.MU)
    have F₆ := frExL F₅ g₆ (Ne.symm P.ML) (P.bn _ P.nM)
    -- i += 1
    refine wpAny_execs_cons (aug1 F₆ K₄.i fun s₇ t₇ F₇ g₇ => ?_)
    have C₇ := C₆.exL g₇ P.nL P.ML P.UL
    have K₇ := K₄.setI (m' := upd m₄ "i" (.int ((i + 1 : Nat) : Int) t₇)) (i' := i + 1) (fun y hy => upd_ne hy rfl) upd_same
    -- while expected[i] == e: i += 1
    refine wpAny_execs_cons (inner (x0 := X[i]) Z1 hq rfl hu hfr P.B0 P.nL C₇.kp F₇ (.inl hh) K₇.x K₇.i (upd_ne (by decide) me) rv hi (fun s₈ m₈ i₈ t₈ F₈ g₈ e₈ q₈ l₈ u₈ d₈ => ?_) (fun sm s₈ m₈ t₈ e c F₈ g₈ e₈ q₈ d₈ fl FF os gens hc => ?_) (by decide) (by decide))
    · have C₈ := C₇.exL g₈ P.nL P.ML P.UL
      repeat refine wpAny_execs_nil ?_
      exact ⟨rfl, (X.length - i₈) + (Y.length - j), by omega, m₈, i₈, j, t₈, tj, ms ++ [v], us, F₈, C₈, K₇.setI e₈ q₈, Nat.le_of_lt u₈, lj, hM.stepLt hi hj hb rv (by omega) d₈, rfl⟩
    · have C₈ := C₇.exL g₈ P.nL P.ML P.UL
      exact ⟨e, rfl, .inl ⟨sm.heap.get?, m₈, X.length, j, t₈, tj, ms ++ [v], us, true, c, .of P F₈ C₈, K₇.setI e₈ q₈, Nat.le_refl _, lj, hM.stepLt hi hj hb rv hi (by rw [List.drop_length]; exact d₈), .inl rfl, fl, FF, os.trans C₈.os, gens.trans C₈.gens⟩⟩
  | false =>
    rw [if_neg (by decide)]
    -- e > a
    refine wpAny_execs_cons (wpAny_If (wpAny_isTrue_Compare1 (ld F₅ me (ld F₅ ma (hgt C₅.kp (by omega) hh rv ru hb fun s₆ g₆ => wpAny_truthy_bool ?_)))))
    have C₆ := C₅.grow g₆
    have F₆ := frGrow F₅ g₆
    cases hg : gt X[i] Y[j] with
    | true =>
      rw [if_pos rfl]
      -- unexpected.append(a)
      obtain ⟨nu, gU⟩ := C₆.U
      refine wpAny_execs_cons (append_ F₆ K₄.U gU (by omega) (ld F₆ ma ⟨.refl _, fun s₇ g₇ gU₇ => ?_⟩))
      have C₇ := C₆.setU g₇ gU₇ P.nU P.MU
      have F₇ := frExL F₆ g₇ (Ne.symm P.UL) (P.bn _ P.nU)
      refine wpAny_execs_cons (aug1 F₇ K₄.j fun s₈ t₈ F₈ g₈ => ?_)
      have C₈ := C₇.exL g₈ P.nL P.ML P.UL
      have K₈ := K₄.setJ (m' := upd m₄ "j" (.int ((j + 1 : Nat) : Int) t₈)) (j' := j + 1) (fun y hy => upd_ne hy rfl) upd_same
      refine wpAny_execs_cons (inner (x0 := Y[j]) Z2 hq rfl hu hfr P.B0 P.nL C₈.kp F₈ (.inl hh) K₈.y K₈.j (upd_ne (by decide) ma) ru hj (fun s₉ m₉ j₉ t₉ F₉ g₉ e₉ q₉ l₉ u₉ d₉ => ?_) (fun sm s₉ m₉ t₉ e c F₉ g₉ e₉ q₉ d₉ fl FF os gens hc => ?_) (by decide) (by decide))
      · have C₉ := C₈.exL g₉ P.nL P.ML P.UL
        repeat refine wpAny_execs_nil ?_
        exact ⟨rfl, (X.length - i) + (Y.length - j₉), by omega, m₉, i, j₉, ti, t₉, ms, us ++ [u], F₉, C₉, K₈.setJ e₉ q₉, li, Nat.le_of_lt u₉, hM.stepGt hi hj hb hg ru (by omega) d₉, rfl⟩
      · have C₉ := C₈.exL g₉ P.nL P.ML P.UL
        exact ⟨e, rfl, .inl ⟨sm.heap.get?, m₉, i, Y.length, ti, t₉, ms, us ++ [u], true, c, .of P F₉ C₉, K₈.setJ e₉ q₉, li, Nat.le_refl _, hM.stepGt hi hj hb hg ru hj (by rw [List.drop_length]; exact d₉), .inr rfl, fl, FF, os.trans C₉.os, gens.trans C₉.gens⟩⟩
    | false =>
      rw [if_neg (by decide)]
      -- i += 1
      refine wpAny_execs_cons (aug1 F₆ K₄.i fun s₇ t₇ F₇ g₇ => ?_)
      have C₇ := C₆.exL g₇ P.nL P.ML P.UL
      have K₇ := K₄.setI (m' := upd m₄ "i" (.int ((i + 1 : Nat) : Int) t₇)) (i' := i + 1) (fun y hy => upd_ne hy rfl) upd_same
      have me₇ : upd m₄ "i" (.int ((i + 1 : Nat) : Int) t₇) "e" = some v := upd_ne (by decide) me
      have ma₇ : upd m₄ "i" (.int ((i + 1 : Nat) : Int) t₇) "a" = some u := upd_ne (by decide) ma
      generalize upd m₄ "i" (.int ((i + 1 : Nat) : Int) t₇) = m₇ at *
      refine wpAny_execs_cons (wpAny_Try_finally (wpAny_execs_cons (inner (x0 := X[i]) Z1 hq rfl hu hfr P.B0 P.nL C₇.kp F₇ (.inl hh) K₇.x K₇.i me₇ rv hi (fun s₈ m₈ i₈ t₈ F₈ g₈ e₈ q₈ l₈ u₈ d₈ => ?_) (fun sm s₈ m₈ t₈ e c F₈ g₈ e₈ q₈ d₈ fl FF os gens hc => ?_) (by decide) (by decide))))
      · -- the first run ended
        have C₈ := C₇.exL g₈ P.nL P.ML P.UL
        have K₈ := K₇.setI e₈ q₈
        refine wpAny_execs_nil (wpAny_execs_nil (wpAny_execs_cons (aug1 F₈ K₈.j fun s₉ t₉ F₉ g₉ => ?_)))
        have C₉ := C₈.exL g₉ P.nL P.ML P.UL
        have K₉ := K₈.setJ (m' := upd m₈ "j" (.int ((j + 1 : Nat) : Int) t₉)) (j' := j + 1) (fun y hy => upd_ne hy rfl) upd_same
        refine wpAny_execs_cons (inner (x0 := Y[j]) Z2 hq rfl hu hfr P.B0 P.nL C₉.kp F₉ (.inl hh) K₉.y K₉.j (upd_ne (by decide) ((e₈ _ (by decide)).trans ma₇)) ru hj (fun s₁₀ m₁₀ j₁₀ t₁₀ F₁₀ g₁₀ e₁₀ q₁₀ l₁₀ u₁₀ d₁₀ => ?_) (fun sm s₁₀ m₁₀ t₁₀ e c F₁₀ g₁₀ e₁₀ q₁₀ d₁₀ fl FF os gens hc => ?_) (by decide) (by decide))
        · have C₁₀ := C₉.exL g₁₀ P.nL P.ML P.UL
          repeat refine wpAny_execs_nil ?_
          exact ⟨rfl, (X.length - i₈) + (Y.length - j₁₀), by omega, m₁₀, i₈, j₁₀, t₈, t₁₀, ms, us, F₁₀, C₁₀, K₉.setJ e₁₀ q₁₀, Nat.le_of_lt u₈, Nat.le_of_lt u₁₀, hM.stepEq hi hj hb hg (by omega) (by omega) d₈ d₁₀, rfl⟩
        · have C₁₀ := C₉.exL g₁₀ P.nL P.ML P.UL
          refine noted_ (L := L) hfr FF rfl fl fun h₁ fl₁ FF₁ => came_ fl₁ FF₁ fun h₂ fl₂ FF₂ => ?_
          exact ⟨e, rfl, .inl ⟨sm.heap.get?, m₁₀, i₈, Y.length, t₈, t₁₀, ms, us, true, c, .of P F₁₀ C₁₀, K₉.setJ e₁₀ q₁₀, Nat.le_of_lt u₈, Nat.le_refl _, hM.stepEq hi hj hb hg (by omega) hj d₈ (by rw [List.drop_length]; exact d₁₀), .inr rfl, fl₂, FF₂, os.trans C₁₀.os, gens.trans C₁₀.gens⟩⟩
      · -- the first run ran out
        have C₈ := C₇.exL g₈ P.nL P.ML P.UL
        have K₈ := K₇.setI e₈ q₈
        have hc' := hc hh
        subst hc'
        refine note_ (L := L) hfr FF rfl fl fun h₁ fl₁ FF₁ => ⟨(fun q => by cases q), note_ (L := L) hfr FF₁ rfl fl₁ fun h₂ fl₂ FF₂ => flight_ fl₂ FF₂ fun h₃ fl₃ FF₃ => ?_⟩
        obtain ⟨F₃, C₃⟩ := Good.of P F₈ C₈ { s₈ with heap := h₃ } fl₃.keep fl₃.slot (os.trans C₈.os) (gens.trans C₈.gens)
        refine wpAny_execs_cons (aug1 F₃ K₈.j fun s₉ t₉ F₉ g₉ => ?_)
        have C₉ := C₃.exL g₉ P.nL P.ML P.UL
        have K₉ := K₈.setJ (m' := upd m₈ "j" (.int ((j + 1 : Nat) : Int) t₉)) (j' := j + 1) (fun y hy => upd_ne hy rfl) upd_same
        have hd₉ : Hd (A.mark (some (.ref e))) s₉.heap := by
          refine hdExL (s := { s₈ with heap := h₃ }) (.inr ?_) g₉ (frDict F₃)
          obtain ⟨_, _, _, oe, vs, he, _, hd, _, h2, _⟩ := fl₃
          exact ⟨e, oe, vs, rfl, he, hd, h2⟩
        refine wpAny_execs_cons (inner (x0 := Y[j]) Z2 hq rfl hu hfr P.B0 P.nL C₉.kp F₉ hd₉ K₉.y K₉.j (upd_ne (by decide) ((e₈ _ (by decide)).trans ma₇)) ru hj (fun s₁₀ m₁₀ j₁₀ t₁₀ F₁₀ g₁₀ e₁₀ q₁₀ l₁₀ u₁₀ d₁₀ => ?_) (fun sm' s₁₀ m₁₀ t₁₀ e' c' F₁₀ g₁₀ e₁₀ q₁₀ d₁₀ fl' FF' os' gens' hc' => ?_) (by decide) (by decide))
        · -- the second run ended: the first error goes on
          have C₁₀ := C₉.exL g₁₀ P.nL P.ML P.UL
          have g := g₉.trans g₁₀
          obtain ⟨hm', fl₄, k₄⟩ := fl₃.anew (h' := s₁₀.heap) (frDict F₃) g.keep
          refine wpAny_execs_nil (passOn_ fl₄ (mkFrames (name := "sorted_list_difference") (scope := sldScope) (a := f) (cd := cd) P.B0 C₁₀.kp F₁₀) fun h₅ fl₅ FF₅ => ?_)
          have G : Good base h₀ (outer.filterMap (·.frame)) s₀ L aM aU m₁₀ ms us hm' := by
            refine Good.again P F₁₀ C₁₀ fun b o q w => k₄ b o ?_ q
            rcases w with w | rfl | rfl | rfl
            · intro r
              cases q' : h₀.get? b with
              | none => exact w q'
              | some o' => obtain ⟨sl, q''⟩ := C₈.kp.slot b o' q'; rw [r] at q''; cases q''
            · obtain ⟨o', _, _, q', _⟩ := F₈.ns
              rw [q']; exact fun r => by cases r
            · obtain ⟨_, q'⟩ := C₈.M
              rw [q']; exact fun r => by cases r
            · obtain ⟨_, q'⟩ := C₈.U
              rw [q']; exact fun r => by cases r
          exact ⟨e, rfl, .inl ⟨hm', m₁₀, X.length, j₁₀, t₈, t₁₀, ms, us, true, _, G, K₉.setJ e₁₀ q₁₀, Nat.le_refl _, Nat.le_of_lt u₁₀, hM.stepEq hi hj hb hg hi (by omega) (by rw [List.drop_length]; exact d₈) d₁₀, .inl rfl, fl₅, FF₅, C₁₀.os, C₁₀.gens⟩⟩
        · -- the second one ran out, too
          have C₁₀ := C₉.exL g₁₀ P.nL P.ML P.UL
          refine noted_ (L := L) hfr FF' rfl fl' fun h₁ fl₁ FF₁ => came_ fl₁ FF₁ fun h₂ fl₂ FF₂ => ?_
          exact ⟨e', rfl, .inl ⟨sm'.heap.get?, m₁₀, X.length, Y.length, t₈, t₁₀, ms, us, true, c', .of P F₁₀ C₁₀, K₉.setJ e₁₀ q₁₀, Nat.le_refl _, Nat.le_refl _, hM.stepEq hi hj hb hg hi hj (by rw [List.drop_length]; exact d₈) (by rw [List.drop_length]; exact d₁₀), .inr rfl, fl₂, FF₂, os'.trans C₁₀.os, gens'.trans C₁₀.gens⟩⟩
end

abbrev tupOf (vs : List Value) : Obj := { cls := .type "tuple", data := .seq vs.toArray }

section
variable {M : Model} {A : Around} {E : Value → Shared → Prop} {s : Shared}
theorem newList_ {vs : List Value} {Q : Value → Shared → Prop} (h : ∀ s' D, Grow s s' → s'.heap.get? D = some (listOf vs.toArray 0) → s.heap.get? D = none → Q (.ref D) s') (hz : vs.length ≤ 10000000 := by simp) : wpAny M A (newList vs) Q E s :=
  wpAny_newObj_type (h _ _ ⟨fun _ _ e => Heap.get?_push_of_some _ e, rfl, rfl⟩ (Heap.get?_push_size _ rfl) (Heap.get?_none_of_le (Nat.le_refl _))) (by show vs.toArray.size ≤ sizeLine; rw [List.size_toArray, sizeLine_eq]; omega)
theorem newTuple_ {vs : List Value} {Q : Value → Shared → Prop} (h : ∀ s' D, Grow s s' → s'.heap.get? D = some (tupOf vs) → s.heap.get? D = none → Q (.ref D) s') (hz : vs.length ≤ 10000000 := by simp) : wpAny M A (newTuple vs) Q E s :=
  wpAny_newObj_type (h _ _ ⟨fun _ _ e => Heap.get?_push_of_some _ e, rfl, rfl⟩ (Heap.get?_push_size _ rfl) (Heap.get?_none_of_le (Nat.le_refl _))) (by show vs.toArray.size ≤ sizeLine; rw [List.size_toArray, sizeLine_eq]; omega)
end

theorem type_not_index : isSubtype (.type "TypeError") (.type "IndexError") = pure false := by rw [isSubtype_type]; kernel_rfl

section
variable {prog : Program} {w : World} {α : Type} {base h₀ : Heap} {Rep : Value → α → Prop} {V1 V2 : Value} {X Y : List α} {lt : α → α → Option Bool} {gt eq : α → α → Bool}
  {A : Around} {E : Value → Shared → Prop} {s s₀ : Shared} {L f aM aU : Addr} {cd : Value} {m : Str → Option Value} {outer : List Env}

theorem sld_loop {Q : Flow → Shared → Prop} {n : Nat}
    (Z1 : Sq prog w (outer.filterMap (·.frame)) h₀ Rep V1 X) (Z2 : Sq prog w (outer.filterMap (·.frame)) h₀ Rep V2 Y) (hq : EqOk prog w (outer.filterMap (·.frame)) h₀ Rep eq) (hlt : LtOk prog w (outer.filterMap (·.frame)) h₀ Rep lt) (hgt : GtOk prog w (outer.filterMap (·.frame)) h₀ Rep lt gt)
    (hu : A.units < 8000) (hh : A.handled = none) (hfr : A.frames = some (sldEnv L f cd :: outer)) (P : Ap base h₀ outer L aM aU) (hI : Bn base "IndexError" (.type "IndexError"))
    (h : St base h₀ Rep V1 V2 X Y lt gt eq s₀ L aM aU outer n s)
    (hQ : ∀ s' m ms us, Fr base L s'.heap m → m "missing" = some (.ref aM) → m "unexpected" = some (.ref aU) → Co (outer.filterMap (·.frame)) h₀ s₀ aM aU s' ms us → Fi Rep lt gt eq X Y ms us → Q .next s')
    (hE : ∀ e s', Tx base h₀ X Y lt gt eq s₀ L f cd outer true e s' → E (.ref e) s') :
    wpAny (model prog w) A (exec (nth sldBody 3) (sldEnv L f cd)) Q E s := by
  refine wpAny_While (codeAny_whileLoop (fun n s => St base h₀ Rep V1 V2 X Y lt gt eq s₀ L aM aU outer n s) ?_ n h)
  intro n s₁ h₁
  refine isTrue_plain (Constant_bool (wpAny_truthy_bool ?_))
  rw [if_pos rfl]
  refine wpAny_execs_cons (wpAny_Try_except (wpAny_mono (tryBody_ (f := f) (cd := cd) Z1 Z2 hq hlt hgt hu hh hfr P h₁) (fun fl s₂ h₂ => ?_) fun e s₂ h₂ => ?_))
  · obtain ⟨rfl, n', l, h₂⟩ := h₂
    repeat refine wpAny_execs_nil ?_
    exact ⟨n', l, h₂⟩
  · obtain ⟨ea, rfl, h₂⟩ := h₂
    rcases h₂ with h₂ | h₂
    · obtain ⟨hm, m, i, j, ti, tj, ms, us, tr, c, G, K, li, lj, hM, he, fl, FF, os, gens⟩ := h₂
      refine handler_ Z1 Z2 hu hI hfr P G K li lj hM he fl FF os gens fun s' ms' us' F' C' hF => ?_
      exact hQ s' m ms' us' F' K.M K.U C' hF
    · obtain ⟨hn, hm, m, F, kp, fl, FF, os, gens⟩ := h₂
      refine note_ (L := L) hfr FF rfl fl fun h₃ fl₃ FF₃ => flight_ fl₃ FF₃ fun h₄ fl₄ FF₄ => ?_
      refine wpAny_handleBy_builtin (X := "TypeError") (T := "IndexError") (b := false) PySem.F.isExc_IndexError (by with_unfolding_all rfl) type_not_index ?_
      refine nameB (s := { s₂ with heap := h₄ }) (frKp F fl₄.kp P.Sb) hI ⟨rfl, ?_, ?_⟩
      · obtain ⟨_, _, _, oe, vs, he, hc, _⟩ := fl₄
        exact ⟨oe, he, hc⟩
      rw [if_neg (by decide)]
      refine wpAny_handleBy_nil (passOn_ fl₄ FF₄ fun h₅ fl₅ FF₅ => noted_ (L := L) hfr FF₅ rfl fl₅ fun h₆ fl₆ FF₆ => came_ fl₆ FF₆ fun h₇ fl₇ FF₇ => ?_)
      exact hE ea _ ⟨hn, hm, m, F, kp, fl₇, FF₇, os, gens⟩

theorem sld_body {Q : Flow → Shared → Prop}
    (Z1 : Sq prog w (outer.filterMap (·.frame)) h₀ Rep V1 X) (Z2 : Sq prog w (outer.filterMap (·.frame)) h₀ Rep V2 Y) (hq : EqOk prog w (outer.filterMap (·.frame)) h₀ Rep eq) (hlt : LtOk prog w (outer.filterMap (·.frame)) h₀ Rep lt) (hgt : GtOk prog w (outer.filterMap (·.frame)) h₀ Rep lt gt)
    (hu : A.units < 8000) (hh : A.handled = none) (hfr : A.frames = some (sldEnv L f cd :: outer)) (B0 : h₀.FunFrames base outer) (hb : base.StaysIn h₀) (nL : h₀.get? L = none) (hI : Bn base "IndexError" (.type "IndexError"))
    (F : Fr base L s.heap m) (kp : Kp (outer.filterMap (·.frame)) h₀ s.heap) (mx : m "expected" = some V1) (my : m "actual" = some V2)
    (hQ : ∀ s' t aM aU ms us n1 n2, Kp (outer.filterMap (·.frame)) h₀ s'.heap → s'.os = s.os → s'.gens = s.gens → s'.heap.get? t = some (tupOf [.ref aM, .ref aU]) → h₀.get? t = none →
      s'.heap.get? aM = some (listOf ms.toArray n1) → s'.heap.get? aU = some (listOf us.toArray n2) → h₀.get? aM = none → h₀.get? aU = none → aM ≠ aU → Fi Rep lt gt eq X Y ms us → Q (.ret (.ref t)) s')
    (hE : ∀ e s', Tx base h₀ X Y lt gt eq s L f cd outer true e s' → E (.ref e) s') :
    wpAny (model prog w) A (execs sldBody (sldEnv L f cd)) Q E s := by
  -- i = j = 0
  refine wpAny_execs_cons (wpAny_Assign_two (wpAny_Constant_int (assign_Name (st_ (s := _) (frGrow F (Grow.toks _ _)) fun s₁ F₁ g₁ => assign_Name (st_ F₁ fun s₂ F₂ g₂ => ?_)))))
  have g02 : ExL L s s₂ := (Grow.toks s (s.toks + 1)).exL.trans (g₁.trans g₂)
  -- missing = []
  refine wpAny_execs_cons (wpAny_Assign_Name (List_ (spliced_none (newList_ fun s₃ aM g₃ gM nM => st_ (frGrow F₂ g₃) fun s₄ F₄ g₄ => ?_))))
  -- unexpected = []
  refine wpAny_execs_cons (wpAny_Assign_Name (List_ (spliced_none (newList_ fun s₅ aU g₅ gU nU => st_ (frGrow F₄ g₅) fun s₆ F₆ g₆ => ?_))))
  have lL : ∀ {s : Shared} {m : Str → Option Value}, Fr base L s.heap m → s.heap.get? L ≠ none := fun F q => by
    obtain ⟨o, _, _, e, _⟩ := F.ns
    rw [e] at q; cases q
  have ML : aM ≠ L := fun q => lL F₂ (q ▸ nM)
  have UL : aU ≠ L := fun q => lL F₄ (q ▸ nU)
  have gM₄ := g₄.keep _ _ ML gM
  have MU : aM ≠ aU := fun q => by rw [q, nU] at gM₄; cases gM₄
  have kp₂ := kpExL kp g02 nL
  have kp₄ := kpExL (kpGrow kp₂ g₃) g₄ nL
  have hn : ∀ {h : Heap} {a : Addr}, Kp (outer.filterMap (·.frame)) h₀ h → h.get? a = none → h₀.get? a = none := fun {h a} k q => by
    cases q' : h₀.get? a with
    | none => rfl
    | some o => obtain ⟨sl, q''⟩ := k.slot _ _ q'; rw [q] at q''; cases q''
  have P : Ap base h₀ outer L aM aU := ⟨B0, hb, nL, hn kp₂ nM, hn kp₄ nU, ML, UL, MU⟩
  have C : Co (outer.filterMap (·.frame)) h₀ s aM aU s₆ [] [] :=
    ⟨kpExL (kpGrow kp₄ g₅) g₆ nL, ⟨0, g₆.keep _ _ ML (g₅.keep _ _ gM₄)⟩, ⟨0, g₆.keep _ _ UL gU⟩, g₆.os.trans (g₅.os.trans (g₄.os.trans (g₃.os.trans g02.os))), g₆.gens.trans (g₅.gens.trans (g₄.gens.trans (g₃.gens.trans g02.gens)))⟩
  refine wpAny_execs_cons (sld_loop (s₀ := s) (aM := aM) (aU := aU) (n := X.length + Y.length) Z1 Z2 hq hlt hgt hu hh hfr P hI ⟨_, 0, 0, s.toks, s.toks, [], [], F₆, C, ⟨?_, ?_, ?_, upd_same, ?_, ?_⟩, Nat.zero_le _, Nat.zero_le _, ⟨[], [], .nil, .nil, Nat.le_refl _, Nat.le_refl _, ?_⟩, rfl⟩ (fun s₇ m₇ ms us F₇ eM eU C₇ fi => ?_) hE)
  · exact upd_ne (by decide) (upd_ne (by decide) (upd_ne (by decide) (upd_ne (by decide) mx)))
  · exact upd_ne (by decide) (upd_ne (by decide) (upd_ne (by decide) (upd_ne (by decide) my)))
  · exact upd_ne (by decide) upd_same
  · exact upd_ne (by decide) (upd_ne (by decide) (upd_ne (by decide) upd_same))
  · exact upd_ne (by decide) (upd_ne (by decide) upd_same)
  · simp
  -- return (missing, unexpected)
  refine wpAny_execs_cons (wpAny_Return_some (Tuple_ (spliced_more (ld F₇ eM (spliced_more (ld F₇ eU (spliced_none (newTuple_ fun s₈ t g₈ gt' nt => ?_))))))))
  obtain ⟨n1, e1⟩ := C₇.M
  obtain ⟨n2, e2⟩ := C₇.U
  exact hQ s₈ t aM aU ms us n1 n2 (kpGrow C₇.kp g₈) (g₈.os.trans C₇.os) (g₈.gens.trans C₇.gens) gt' (hn C₇.kp nt) (g₈.keep _ _ e1) (g₈.keep _ _ e2) P.nM P.nU MU fi
end

/-- the def st, made by the top, lies at f -/
def Fn (h : Heap) (f : Addr) (name : Str) (st : Stmt) (cd : Value) : Prop :=
  (∃ o doc pm an ct, h.get? f = some o ∧ o.data = .func (fnOf name name (paramsOf st) (bodyOf st) (scopeOf st) .none .none doc pm an cd ct)) ∧ h.CodeRec cd name
theorem Fn.keep {h h' : Heap} {f : Addr} {name : Str} {st : Stmt} {cd : Value} (x : Fn h f name st cd) (k : ∀ b o, h.get? b = some o → h'.get? b = some o) : Fn h' f name st cd :=
  ⟨x.1.imp fun _ ⟨a, b, c, d, e, g⟩ => ⟨a, b, c, d, k _ _ e, g⟩, x.2.keeps k⟩

theorem fn_of_K {K : Frag} {h : Heap} (X : K.In h) {f : Addr} {name : Str} {st : Stmt} {cd doc pm ct oc : Value} {an od : Option Addr} {osl : Array (Option Value)}
    (e : K.lookup f = some ⟨oc, od, .func (fnOf name name (paramsOf st) (bodyOf st) (scopeOf st) .none .none doc pm an cd ct), osl⟩) (ec : codeIn K cd name = true) : Fn h f name st cd :=
  ⟨⟨_, doc, pm, an, ct, X _ _ e, rfl⟩, codeRec_of X ec⟩

section
variable {prog : Program} {w : World} {A : Around} {E : Value → Shared → Prop} {s : Shared} {base : Heap}

theorem callFn {R : Result → Shared → Prop} {st : Stmt} {name : Str} {f : Addr} {cd : Value} {args : List Value} {binds : List (Str × Value)}
    (fn : Fn s.heap f name st cd) (lim : s.heap.NoLimit) (hroom : A.depth < recursionLimit)
    (hbind : ∀ doc pm an ct, bindArgs (fnOf name name (paramsOf st) (bodyOf st) (scopeOf st) .none .none doc pm an cd ct) ⟨args, []⟩ = pure binds)
    (hloc : ∀ x ∈ binds, (scopeOf st).names.lookup x.1 = some .local)
    (h : ∀ s₁, Fr s.heap s.heap.objs.size s₁.heap (fun x => binds.reverse.lookup x) → Grow s s₁ →
      wpAny (model prog w) (A.deeper (envOf name (scopeOf st) s.heap.objs.size f cd)) (execs (bodyOf st) (envOf name (scopeOf st) s.heap.objs.size f cd))
        (fun fl s' => R (.ok (.ret (match fl with | .ret v => v | _ => .none))) s')
        (fun e s' => wpAny (model prog w) (A.deeper (envOf name (scopeOf st) s.heap.objs.size f cd)) (leaving (envOf name (scopeOf st) s.heap.objs.size f cd) e) (fun _ s'' => R (.error e) s'') (fun e' s'' => R (.error e') s'') s') s₁)
    (hcell : ∀ x ∈ (scopeOf st).names, x.2 ≠ .cell) (hco : (scopeOf st).isCoroutine = false := by rfl) (hgen : (scopeOf st).isGenerator = false := by rfl) (hk : (scopeOf st).kind = .function := by rfl) :
    codeAny (model prog w) A (.call (.ref f) ⟨args, []⟩) R s := by
  obtain ⟨⟨o, doc, pm, an, ct, ho, hd⟩, hcd⟩ := fn
  refine codeAny_call_def hroom ho hd lim hcd rfl (.of_eq (hbind doc pm an ct)) hcell hloc (fun h₁ hns hkp => ?_) hco hgen hk
  exact h _ ⟨hns, hkp, Nat.le_refl _⟩ ⟨hkp, rfl, rfl⟩

theorem callName {x name cn : Str} {cs : Scope} {ca L f : Addr} {ccd cd : Value} {st : Stmt} {m : Str → Option Value} {e : Expr} {rest : List Expr} {p pos : Pos} {Q : Value → Shared → Prop}
    (F : Fr base L s.heap m) (G : Gn base x (.ref f)) (fn : Fn base f name st cd)
    (h : wpAny (model prog w) A (spliced (backTo pos (starEach (e :: rest) (envOf cn cs L ca ccd)))) (fun vs s₁ => base.StaysIn s₁.heap ∧
      codeAny (model prog w) A (.call (.ref f) ⟨vs, []⟩) (fun r s' => match r with | .ok (.ret v) => Q v s' | .ok _ => False | .error e => E e s') s₁) E s)
    (he : starEach (e :: rest) (envOf cn cs L ca ccd) = (false, eval e (envOf cn cs L ca ccd)) :: starEach rest (envOf cn cs L ca ccd) := by rfl)
    (hc : eval (.Call (.Name x p) (e :: rest) [] pos) (envOf cn cs L ca ccd) = (do callWith pos (← eval (.Name x p) (envOf cn cs L ca ccd)) [] (backTo pos (starEach (e :: rest) (envOf cn cs L ca ccd))) (backToKw pos (keywordEach [] (envOf cn cs L ca ccd)))) := by rfl)
    (hk : cs.kind = .function := by rfl) (hx : (envOf cn cs L ca ccd).kindOf x = some .globalImplicit := by rfl) (hd : (x == ("__debug__" : Str)) = false := by decide) :
    wpAny (model prog w) A (eval (.Call (.Name x p) (e :: rest) [] pos) (envOf cn cs L ca ccd)) Q E s := by
  obtain ⟨⟨o, doc, pm, an, ct, ho, hd'⟩, _⟩ := fn
  refine Call_ (nameG F G ?_ hk hx hd) hc
  refine callWith_def hd' (wpAny_mono h (fun vs s₁ h₁ => ⟨h₁.1 _ _ ho, wpAny_call h₁.2⟩) fun _ _ x => x) he
end

section
variable {prog : Program} {w : World} {α : Type} {base : Heap} {Rep : Value → α → Prop} {V1 V2 : Value} {X Y : List α} {lt : α → α → Option Bool} {gt eq : α → α → Bool}
  {A : Around} {s : Shared} {f : Addr} {cd : Value} {outer : List Env}

/-- a call of sorted_list_difference -/
theorem sld_call {R : Result → Shared → Prop}
    (Z1 : Sq prog w (outer.filterMap (·.frame)) s.heap Rep V1 X) (Z2 : Sq prog w (outer.filterMap (·.frame)) s.heap Rep V2 Y) (hq : EqOk prog w (outer.filterMap (·.frame)) s.heap Rep eq) (hlt : LtOk prog w (outer.filterMap (·.frame)) s.heap Rep lt) (hgt : GtOk prog w (outer.filterMap (·.frame)) s.heap Rep lt gt)
    (hu : A.units < 7000) (hr : A.depth < recursionLimit) (hh : A.handled = none) (B : Below A base outer s.heap) (hsz : base.objs.size ≤ s.heap.objs.size) (lim : base.NoLimit) (hI : Bn base "IndexError" (.type "IndexError"))
    (fn : Fn base f "sorted_list_difference" (stmtAt PySem.Challenge.pw_dn0234_01 1) cd)
    (hR : ∀ s' t aM aU ms us n1 n2, Kp (outer.filterMap (·.frame)) s.heap s'.heap → s'.os = s.os → s'.gens = s.gens → s'.heap.get? t = some (tupOf [.ref aM, .ref aU]) → s.heap.get? t = none →
      s'.heap.get? aM = some (listOf ms.toArray n1) → s'.heap.get? aU = some (listOf us.toArray n2) → s.heap.get? aM = none → s.heap.get? aU = none → aM ≠ aU → Fi Rep lt gt eq X Y ms us → R (.ok (.ret (.ref t))) s')
    (hE : sld lt gt eq X Y = none → ∀ (hm : Heap) s' e, Kp (outer.filterMap (·.frame)) s.heap hm → Fly hm.get? (s.heap.objs.size :: outer.filterMap (·.frame)) e "TypeError" true .none s'.heap → s'.os = s.os → s'.gens = s.gens → R (.error (.ref e)) s') :
    codeAny (model prog w) A (.call (.ref f) ⟨[V1, V2], []⟩) R s := by
  refine callFn (binds := [("expected", V1), ("actual", V2)]) (fn.keep B.stays) (lim.keeps B.stays) hr (fun _ _ _ _ => rfl) (locs rfl) (fun s₁ F g => ?_) (by decide)
  have nL : s.heap.get? s.heap.objs.size = none := Heap.get?_none_of_le (Nat.le_refl _)
  have F' : Fr base s.heap.objs.size s₁.heap _ := ⟨F.ns, fun b o e => F.keep b o (B.stays b o e), hsz⟩
  refine sld_body (h₀ := s.heap) Z1 Z2 hq hlt hgt (by show A.units + 3 < 8000; omega) hh (Around.frames_deeper B.stack) B.frames B.stays nL hI F' (.of_keep g.keep) rfl rfl (fun s' t aM aU ms us n1 n2 kp os gens ht nt hM hU nM nU MU fi => ?_) fun e s' hT => ?_
  · exact hR s' t aM aU ms us n1 n2 kp (os.trans g.os) (gens.trans g.gens) ht nt hM hU nM nU MU fi
  · obtain ⟨hn, hm, m, Fm, kp, fl, FF, os, gens⟩ := hT
    refine leaving_ (L := s.heap.objs.size) (Around.frames_deeper B.stack) FF rfl fl fun h' fl' FF' => ?_
    exact hE hn hm _ e kp fl' (os.trans g.os) (gens.trans g.gens)
end

section
variable {prog : Program} {w : World} {A : Around} {E : Value → Shared → Prop} {s : Shared}

/-- xs.extend(ys), both lists, as a call -/
theorem extendCall {D b : Addr} {ms vs : List Value} {n k : Nat} {Q : Value → Shared → Prop} (hD : s.heap.get? D = some (listOf ms.toArray n)) (hb : s.heap.get? b = some (listOf vs.toArray k)) (hz : ms.length + vs.length ≤ 10000000)
    (h : ∀ s' n', ExL D s s' → s'.heap.get? D = some (listOf (ms ++ vs).toArray n') → Q .none s') : wpAny (model prog w) A (call (.builtin "list.extend") [.ref D, .ref b]) Q E s := by
  have hsz : ms.toArray.size + vs.toArray.size ≤ sizeLine := by rw [List.size_toArray, List.size_toArray, sizeLine_eq]; omega
  refine call_meets PySem.F.slot_list_extend ⟨_, hD, rfl⟩ PySem.F.entry_list_extend (PySem.F.args_list_extend_2 _ _) (AutoSeq1.list_extend_list_list_0 D ms.toArray n b vs.toArray k (extend_door hsz) (Nat.le_trans (Nat.le_add_right _ _) hsz) (Nat.le_trans hsz (Nat.le_succ _))) ⟨hD, hb, ?_⟩
  have e : ms.toArray ++ vs.toArray = (ms ++ vs).toArray := by simp
  refine h _ (if (ms.toArray ++ vs.toArray).size == ms.toArray.size then n else n + 1) ⟨fun c o nc q => ?_, rfl, rfl⟩ ?_
  · exact (Heap.get?_update_other _ _ (Ne.symm nc)).trans q
  · rw [Heap.get?_update_self _ hD (by rw [mapSeq_app]; rfl), mapSeq_app, e]
end

section
variable {prog : Program} {w : World} {α : Type} {S : List Addr} {h₀ : Heap} {Rep : Value → α → Prop} {X : List α} {vs : List Value}

/-- a list that stands -/
theorem sqList {l : Addr} {n : Nat} (hl : h₀.get? l = some (listOf vs.toArray n)) (hS : l ∉ S) (ha : All2 Rep vs X) (hz : X.length < 100000) : Sq prog w S h₀ Rep (.ref l) X where
  len := hz
  get := by
    intro A E s Q value x p i t kp hi h
    have hL : s.heap.IsList l vs.toArray := ⟨_, kp.keep _ _ hl hS, rfl, n, rfl⟩
    have hv : i < vs.length := by rw [ha.length]; exact hi
    refine tail_any hL.typeIs slot_list_getitem.lookup (wpAny_getItem_list (x := vs[i]) hL (by omega) (by omega) ?_ (h _ _ (.refl _) (ha.get i hv hi))) rfl
    simp [hv]
  out := by
    intro A E s S' Q value x p i t kp hd hi hb h
    have hL : s.heap.IsList l vs.toArray := ⟨_, kp.keep _ _ hl hS, rfl, n, rfl⟩
    refine tail_any hL.typeIs slot_list_getitem.lookup (getItem_list_out hd hL ?_ (by omega) h) rfl
    rw [List.size_toArray, ha.length]; omega
  cut := by
    intro A E s Q value lo p i t sl aM ms k kp hu hsl hi hM hms nM h
    have hL : s.heap.IsList l vs.toArray := ⟨_, kp.keep _ _ hl hS, rfl, n, rfl⟩
    have hv := ha.length
    refine tail_any hL.typeIs slot_list_getitem.lookup (wpAny_getItem_list_slice hL hsl (.int _ _) .none .none (by simp) ?_ (by rw [List.size_toArray, sizeLine_eq]; omega)) rfl
    have e : slicePick vs.toArray (some (i : Int)) none none = (vs.drop i).toArray := by rw [slicePick_from _ _ (by rw [List.size_toArray]; omega)]
    rw [e]
    refine extendCall (s := { s with heap := s.heap.push { cls := .type "list", data := .seq (vs.drop i).toArray } }) (Heap.get?_push_of_some _ hM) (Heap.get?_push_size _ rfl) (by rw [List.length_drop]; omega) fun s' n' g hM' => ?_
    refine h s' _ n' ?_ hM' (ha.drop i)
    exact ⟨fun c o nc q => g.keep c o nc (Heap.get?_push_of_some _ q), g.os, g.gens⟩
end

/-- ints -/
def RepI (v : Value) (x : Int) : Prop := ∃ t, v = .int x t
theorem intsAll {vs : List Value} {ns : List Int} (h : IntsAre vs ns) : All2 RepI vs ns := by
  induction h with
  | nil => exact .nil
  | cons _ _ _ ih => exact .cons ⟨_, rfl⟩ ih
theorem eqI {prog : Program} {w : World} {S : List Addr} {h₀ : Heap} : EqOk prog w S h₀ RepI (fun x y => x == y) := by
  rintro A E s Q v u x y _ _ ⟨t, rfl⟩ ⟨t', rfl⟩ h
  exact eq_int (h _ (.refl _))
theorem ltI {prog : Program} {w : World} {S : List Addr} {h₀ : Heap} : LtOk prog w S h₀ RepI (fun x y => some (decide (x < y))) := by
  rintro A E s Q v u x y _ _ _ ⟨t, rfl⟩ ⟨t', rfl⟩ h _
  exact lt_int (h _ rfl _ (.refl _))
theorem gtI {prog : Program} {w : World} {S : List Addr} {h₀ : Heap} : GtOk prog w S h₀ RepI (fun x y => some (decide (x < y))) (fun x y => decide (x > y)) := by
  rintro A E s Q v u x y _ _ _ ⟨t, rfl⟩ ⟨t', rfl⟩ _ h
  exact gt_int (h _ (.refl _))

abbrev No : Value → Shared → Prop := fun _ _ => False

/-- what stands at the places fp stands -/
def Stay (fp : List Addr) (h h' : Heap) : Prop := ∀ b ∈ fp, ∀ o, h.get? b = some o → h'.get? b = some o

/-- an iterator: its places, its items, its state -/
structure Iter (prog : Program) (w : World) (it : Addr) (fp : List Addr) (n : Nat) (V : Nat → Value → Prop) (P : Nat → Heap → Prop) : Prop where
  mem : it ∈ fp
  there : ∀ {k h}, P k h → h.get? it ≠ none
  keep : ∀ {k h h'}, P k h → Stay fp h h' → P k h'
  item : ∀ {A : Around} {E : Value → Shared → Prop} {s : Shared} {k : Nat} {Q : Option Value → Shared → Prop}, P k s.heap → k < n → (∀ v s', ExL it s s' → P (k + 1) s'.heap → V k v → Q (some v) s') → wpAny (model prog w) A (pyNext (.ref it)) Q E s
  fin : ∀ {A : Around} {E : Value → Shared → Prop} {s : Shared} {Q : Option Value → Shared → Prop}, A.handled = none → P n s.heap → (∀ s', ExL it s s' → Q none s') → wpAny (model prog w) A (pyNext (.ref it)) Q E s
  again : ∀ {A : Around} {E : Value → Shared → Prop} {s : Shared} {k : Nat} {Q : Value → Shared → Prop}, P k s.heap → Q (.ref it) s → wpAny (model prog w) A (pyIter (.ref it)) Q E s
  own : ∀ {s : Shared} {k : Nat} {M : Model} {A : Around} {E : Value → Shared → Prop} {x : Str} {p : Pos} {v : Value} {Q : Unit → Shared → Prop}, P k s.heap → Q () s → wpAny M A (letOwnedTupleGo (.Name x p) (.ref it) v) Q E s

section
variable {prog : Program} {w : World} {A : Around} {E : Value → Shared → Prop} {s : Shared}

theorem iterList {it l : Addr} {vs : List Value} (hil : it ≠ l) : Iter prog w it [it, l] vs.length (fun k v => vs[k]? = some v) (fun k h => h.IsListIter it l k ∧ h.IsList l vs.toArray) where
  mem := .head _
  there := by
    rintro k h ⟨⟨o, ho, r⟩, _⟩ q
    rw [ho] at q; cases q
  keep := by
    rintro k h h' ⟨⟨o, ho, r⟩, ⟨o', ho', r'⟩⟩ st
    exact ⟨⟨o, st it (.head _) o ho, r⟩, ⟨o', st l (.tail _ (.head _)) o' ho', r'⟩⟩
  item := by
    rintro A E s k Q ⟨hi, hl⟩ hk h
    have hx : vs.toArray[k]? = some vs[k] := by simp [hk]
    refine wpAny_pyNext_list_item hi hl hx fun h' hi' sb => h _ _ ⟨fun b o n e => (sb.2 b n).trans e, rfl, rfl⟩ ⟨hi', hl.extBut sb.extBut (Ne.symm hil)⟩ (by simp [hk])
  fin := by
    rintro A E s Q hh ⟨hi, hl⟩ h
    exact wpAny_pyNext_list_end hh hi hl (by simp) fun h' eb => h _ ⟨fun b o n e => eb b o n e, rfl, rfl⟩
  again := by
    rintro A E s k Q ⟨hi, _⟩ h
    exact wpAny_pyIter_listiter hi h
  own := by
    intro s k M A E x p v Q _ h
    exact wpAny_pure h

/-- iter(l) of a list -/
theorem pyIterList {l : Addr} {vs : List Value} {n : Nat} {Q : Value → Shared → Prop} (hl : s.heap.get? l = some (listOf vs.toArray n))
    (h : ∀ s' it, Grow s s' → s.heap.get? it = none → it ≠ l → (s'.heap.IsListIter it l 0 ∧ s'.heap.IsList l vs.toArray) → Q (.ref it) s') : wpAny (model prog w) A (pyIter (.ref l)) Q E s := by
  have hL : s.heap.IsList l vs.toArray := ⟨_, hl, rfl, n, rfl⟩
  exact wpAny_pyIter_list hL (h _ _ ⟨fun _ _ e => Heap.get?_push_of_some _ e, rfl, rfl⟩ (Heap.get?_none_of_le (Nat.le_refl _)) (Nat.ne_of_gt (Heap.lt_size hl)) ⟨⟨_, Heap.get?_push_size _ rfl, rfl, rfl⟩, hL.push _⟩)

/-- range(n) -/
theorem iterRange {it : Addr} {n : Nat} : Iter prog w it [it] n (fun k v => ∃ t, v = .int (k : Nat) t) (fun k h => IsRangeIter h it (k : Nat) ((n : Int) - (k : Nat)) 1) where
  mem := .head _
  there := by
    intro k h hi q
    rw [hi] at q; cases q
  keep := by
    intro k h h' hi st
    exact st it (.head _) _ hi
  item := by
    intro A E s k Q hi hk h
    refine wpAny_pyNext_range_item hi (by omega) fun h' hi' sb => h _ _ ⟨fun b o n e => (sb.2 b n).trans e, rfl, rfl⟩ ?_ ⟨_, rfl⟩
    have e : ((n : Int) - ((k + 1 : Nat) : Int)) = (n : Int) - (k : Nat) - 1 := by omega
    rw [e]; exact hi'
  fin := by
    intro A E s Q hh hi h
    exact wpAny_pyNext_range_end hh hi (by omega) fun h' eb => h _ ⟨fun b o n e => eb b o n e, rfl, rfl⟩
  again := by
    intro A E s k Q hi h
    have hT : s.TypeIs (.ref it) "range_iterator" := ⟨_, hi, rfl⟩
    refine wpAny_pyIter_slot hT PySem.F.slot_range_iterator_iter (wpAny_call_entry PySem.F.slot_range_iterator_iter hT PySem.F.entry_range_iterator_iter ?_ (PySem.F.args_range_iterator_iter_1 _))
    show wpAny _ _ (ret (.ref it)) _ _ s
    exact wpAny_pure ⟨_, rfl, "range_iterator", _, hT, PySem.F.slot_range_iterator_next.lookup, h⟩
  own := by
    intro s k M A E x p v Q _ h
    exact wpAny_pure h
end

section
variable {prog : Program} {w : World} {A : Around} {E : Value → Shared → Prop} {s : Shared}
/-- iter(range(n)) of a range that stands -/
theorem pyIterRange {r : Addr} {n : Nat} {t u v : Tok} {Q : Value → Shared → Prop} (hr : IsRange s.heap r 0 (n : Nat) 1 t u v) (hn : n < 1000000)
    (h : ∀ s' it, Grow s s' → s.heap.get? it = none → IsRangeIter s'.heap it ((0 : Nat) : Int) ((n : Int) - ((0 : Nat) : Int)) 1 → Q (.ref it) s') : wpAny (model prog w) A (pyIter (.ref r)) Q E s := by
  refine wpAny_pyIter_range hr (small_one (by decide) (by decide) (by omega) (by omega)) ?_
  rw [rangeSize_one]
  refine h _ _ ⟨fun _ _ e => Heap.get?_push_of_some _ e, rfl, rfl⟩ (Heap.get?_none_of_le (Nat.le_refl _)) ?_
  have e : (if (0 : Int) < (n : Int) then (n : Int) - 0 else 0) = (n : Int) - ((0 : Nat) : Int) := by split <;> omega
  rw [e]
  exact Heap.get?_push_size _ rfl
end

section
variable {prog : Program} {w : World} {A : Around} {s : Shared} {env : Env}

/-- a for over an iterator, by what holds after k items -/
theorem forIt {R : Result → Shared → Prop} {x : Str} {px : Pos} {body : List Stmt} {it : Addr} {fp : List Addr} {n : Nat} {V : Nat → Value → Prop} {P : Nat → Heap → Prop}
    (D : Iter prog w it fp n V P) (hh : A.handled = none) (p0 : P 0 s.heap) (I : Nat → Shared → Prop) (hI : ∀ k s₁ s₂, I k s₁ → ExL it s₁ s₂ → I k s₂) (h0 : I 0 s)
    (turn : ∀ k v s₁, k < n → V k v → P (k + 1) s₁.heap → I k s₁ → wpAny (model prog w) A (storeName env x v) (fun _ s₂ => wpAny (model prog w) A (execs body env)
      (fun f s₃ => (f = .next ∧ Stay fp s₁.heap s₃.heap ∧ I (k + 1) s₃) ∨ ∃ v, f = .ret v ∧ R (.ok (.ret v)) s₃) No s₂) No s₁)
    (hR : ∀ s', I n s' → R (.ok .next) s') : codeAny (model prog w) A (.forLoop (.Name x px) (.ref it) body [] env) R s := by
  refine codeAny_forLoop (fun c s₁ => ∃ k, k ≤ n ∧ c = n + 1 - k ∧ P k s₁.heap ∧ I k s₁) ?_ (n + 1) ⟨0, Nat.zero_le _, rfl, p0, h0⟩
  rintro c s₁ ⟨k, hk, rfl, hp, hi⟩
  rcases Nat.lt_or_eq_of_le hk with hk | rfl
  · refine D.item hp hk fun v s₂ g hp' hv => ?_
    refine wpAny_assign_Name (wpAny_mono (turn k v s₂ hk hv hp' (hI k s₁ s₂ hi g)) (fun _ s₃ h₃ => wpAny_mono h₃ (fun f s₄ h₄ => ?_) fun _ _ q => q.elim) fun _ _ q => q.elim)
    rcases h₄ with ⟨rfl, st, hi'⟩ | ⟨v, rfl, hr⟩
    · exact ⟨n + 1 - (k + 1), by omega, k + 1, by omega, rfl, D.keep hp' st, hi'⟩
    · exact hr
  · exact D.fin hh hp fun s₂ g => wpAny_execs_nil (hR s₂ (hI _ s₁ s₂ hi g))
end

/-- a comprehension's block -/
def compScope (scope : Scope) (env : Env) : Scope := { scope with names := scope.names.map fun (n, k) => if k == .free && env.scope.kind == .function && env.kindOf n == some .cell then (n, .cell) else (n, k) }
def compEnv (scope : Scope) (env : Env) (Lc : Addr) (cl : List (Str × Addr)) : Env :=
  { scope := compScope scope env, locals := Lc, globals := env.globals, cells := cl, qual := env.qual, func := none, code := env.code, frame := env.frame, builtins := env.builtins }

/-- what is done with a comprehension's list -/
def UseOk (prog : Program) (w : World) (A : Around) (E : Value → Shared → Prop) (use : Option (Value → Sem Unit)) (Q : Value → Shared → Prop) (Lc : Addr) (acc : Value) (s' : Shared) : Prop := match use with
  | none => ∀ s₂, ExL Lc s' s₂ → Q acc s₂
  | some u => wpAny (model prog w) A (u acc) (fun _ s₂ => (∃ m, s₂.heap.Ns Lc m) ∧ ∀ s₃, ExL Lc s₂ s₃ → Q .none s₃) E s'

section
variable {prog : Program} {w : World} {A : Around} {E : Value → Shared → Prop} {s : Shared} {env : Env}

theorem comprehension_ {e : Expr} {scope : Scope} {pos : Pos} {newAcc first : Sem Value} {g : Comprehension} {gs : List Comprehension} {cl : List (Str × Addr)} {use : Option (Value → Sem Unit)} {Q : Value → Shared → Prop}
    (hcl : clausesOf e = g :: gs) (hs : ∀ x, foldedSetIterable g.iter env x = pure x) (hclos : closureFor scope env = pure cl)
    (hcell : ∀ x ∈ scope.names, x.2 ≠ .cell) (hkind : scope.kind = .function)
    (hnames : ∀ x ∈ scope.names, x.2 = .local → (compScope scope env).names.lookup x.1 = some .local)
    (h : wpAny (model prog w) A first (fun x s₁ => wpAny (model prog w) A (pyIter x) (fun it s₂ => wpAny (model prog w) A newAcc (fun acc s₃ => ∀ s₄ Lc, Grow s₃ s₄ → s₃.heap.get? Lc = none → s₄.heap.Ns Lc (fun _ => none) →
        codeAny (model prog w) A (.compStart e 0 it acc (compEnv scope env Lc cl)) (fun r s' => (∃ f, r = .ok f) ∧ (∃ m, s'.heap.Ns Lc m) ∧ UseOk prog w A E use Q Lc acc s') s₄) E s₂) E s₁) E s) :
    wpAny (model prog w) A (comprehension e scope env pos newAcc false first use) Q E s := by
  unfold comprehension
  rw [hclos, hcl]
  refine wpAny_bind (wpAny_mono h (fun x s₁ h₁ => wpAny_bind (wpAny_standAt (wpAny_bind (wpAny_of_eq (hs x) (wpAny_bind (wpAny_holding (wpAny_mono h₁ (fun it s₂ h₂ =>
    wpAny_standIf (wpAny_bind (wpAny_mono h₂ (fun acc s₃ h₃ => wpAny_bind (wpAny_pure (wpAny_bind (wpAny_newFunctionEnv hcell (fun _ q => by cases q) (fun h' hns hsb => ?_) hkind)))) fun _ _ h' => h')))
      fun _ _ h' => h'))))))) fun _ _ h' => h')
  have h₄ := h₃ { s₃ with heap := h', toks := s₃.toks + ([] : List (Str × Value)).length } s₃.heap.objs.size ⟨fun b o e => hsb.extBut b o (Nat.ne_of_lt (Heap.lt_size e)) (Heap.get?_push_of_some _ e), rfl, rfl⟩ (Heap.get?_none_of_le (Nat.le_refl _)) hns
  have hv : ∀ x ∈ (scope.names.filter fun x => (x.2 == .local || x.2 == .cell) && x.1 != (".0" : Str)), x.2 = .local →
      Env.kindOf (compEnv scope env s₃.heap.objs.size cl) x.1 = some .local := fun x hx hl => hnames x (List.mem_filter.mp hx).1 hl
  dsimp only
  refine wpAny_holding (wpAny_bind (wpAny_attempt (wpAny_holding (wpAny_run (codeAny_mono h₄ fun r s' hr => ?_)))))
  obtain ⟨⟨f, rfl⟩, ⟨m, hn⟩, hr⟩ := hr
  cases use with
  | none =>
    exact wpAny_bind (wpAny_holding (wpAny_comp_letGo (cenv := compEnv scope env s₃.heap.objs.size cl) hkind _ s' m (fun x hx => hv x (List.mem_reverse.mp hx)) hn fun h' m' _ hs' => wpAny_pure (hr _ ⟨fun b o n q => (hs'.2 b n).trans q, rfl, rfl⟩)))
  | some u =>
    refine wpAny_bind (wpAny_rule (wpAny_bind (wpAny_holding (wpAny_mono hr (fun _ s'' hu => ?_) fun _ _ q => q))))
    obtain ⟨⟨m', hn'⟩, hu⟩ := hu
    refine wpAny_bind (wpAny_comp_letGo (cenv := compEnv scope env s₃.heap.objs.size cl) hkind _ s'' m' (fun x hx => hv x ?_) hn' fun h' m'' _ hs' => wpAny_pure (hu _ ⟨fun b o n q => (hs'.2 b n).trans q, rfl, rfl⟩))
    rcases List.mem_append.mp hx with hx | hx
    · exact List.mem_reverse.mp (List.mem_of_mem_drop hx)
    · exact List.mem_reverse.mp (List.mem_of_mem_take hx)
end

/-- the conditions of a clause -/
def conds (ifs : List Expr) (env : Env) : Sem Bool := forIn ifs true fun c ok => if ok = true then (do let b ← PySem.isTrue c env (eval c env); pure (ForInStep.yield b)) else pure (ForInStep.yield ok)

section
variable {prog : Program} {w : World} {A : Around} {E : Value → Shared → Prop} {s : Shared} {env : Env}

theorem conds_nil {Q : Bool → Shared → Prop} (h : Q true s) : wpAny (model prog w) A (conds [] env) Q E s := wpAny_pure h
theorem conds_one {c : Expr} {Q : Bool → Shared → Prop} (h : wpAny (model prog w) A (PySem.isTrue c env (eval c env)) Q E s) : wpAny (model prog w) A (conds [c] env) Q E s := by
  unfold conds
  rw [List.forIn_cons, if_pos rfl]
  exact wpAny_bind (wpAny_bind (wpAny_mono h (fun b s₁ h₁ => wpAny_pure (wpAny_pure h₁)) fun _ _ x => x))

theorem compLeaf {R : Result → Shared → Prop} {elt iter : Expr} {x : Str} {px : Pos} {ifs : List Expr} {gens : List Comprehension} {d : Nat} {scope : Scope} {pos : Pos} {acc : Value} {it : Addr} {fp : List Addr} {n : Nat} {V : Nat → Value → Prop} {P : Nat → Heap → Prop}
    (hg : gens[d]? = some ⟨.Name x px, iter, ifs, 0⟩) (hg' : gens[d + 1]? = none)
    (D : Iter prog w it fp n V P) (hh : A.handled = none) (p0 : P 0 s.heap) (I : Nat → Shared → Prop) (hI : ∀ k s₁ s₂, I k s₁ → ExL it s₁ s₂ → I k s₂) (h0 : I 0 s)
    (turn : ∀ k v s₁, k < n → V k v → P (k + 1) s₁.heap → I k s₁ → wpAny (model prog w) A (storeName env x v) (fun _ s₂ => wpAny (model prog w) A (conds ifs env) (fun ok s₃ =>
      if ok = true then wpAny (model prog w) A (eval elt env) (fun u s₄ => wpAny (model prog w) A (call (.builtin "list.append") [acc, u]) (fun _ s₅ => Stay fp s₁.heap s₅.heap ∧ I (k + 1) s₅) No s₄) No s₃
      else Stay fp s₁.heap s₃.heap ∧ I (k + 1) s₃) No s₂) No s₁)
    (hR : ∀ s', I n s' → R (.ok .next) s') : codeAny (model prog w) A (.compLoop (.ListComp elt gens scope pos) d (.ref it) acc env) R s := by
  refine codeAny_loop rfl (fun c s₁ => ∃ k, k ≤ n ∧ c = n + 1 - k ∧ P k s₁.heap ∧ I k s₁) ?_ (n + 1) ⟨0, Nat.zero_le _, rfl, p0, h0⟩
  rintro c s₁ ⟨k, hk, rfl, hp, hi⟩
  show wpAny _ _ ((compTurn (.ListComp elt gens scope pos) d (.ref it) acc env).onRaise (fun x => do noteFrame x env; theTreesLotGoes x)) _ _ s₁
  refine wpAny_noted ?_
  unfold compTurn
  dsimp only
  rw [hg]
  dsimp only
  refine wpAny_bind (wpAny_standAt ?_)
  rw [if_neg (by decide)]
  refine wpAny_bind ?_
  rcases Nat.lt_or_eq_of_le hk with hk | rfl
  · refine D.item hp hk fun v s₂ g hp' hv => ?_
    dsimp only
    refine wpAny_bind (D.own hp' (wpAny_bind (wpAny_assign_Name ?_)))
    refine wpAny_mono (turn k v s₂ hk hv hp' (hI k s₁ s₂ hi g)) (fun _ s₃ h₃ => ?_) fun _ _ q => q.elim
    refine wpAny_bind (wpAny_mono h₃ (fun ok s₄ h₄ => ?_) fun _ _ q => q.elim)
    rw [hg']
    cases ok with
    | true =>
      rw [if_pos rfl] at h₄ ⊢
      refine wpAny_bind (wpAny_bind (wpAny_mono h₄ (fun u s₅ h₅ => wpAny_bind (wpAny_mono h₅ (fun _ s₆ h₆ => wpAny_pure (wpAny_pure ⟨rfl, n + 1 - (k + 1), by omega, k + 1, by omega, rfl, D.keep hp' h₆.1, h₆.2⟩)) fun _ _ q => q.elim)) fun _ _ q => q.elim))
    | false =>
      rw [if_neg (by decide)] at h₄ ⊢
      exact wpAny_pure ⟨rfl, n + 1 - (k + 1), by omega, k + 1, by omega, rfl, D.keep hp' h₄.1, h₄.2⟩
  · exact D.fin hh hp fun s₂ g => wpAny_pure (hR s₂ (hI _ s₁ s₂ hi g))

theorem compInner {R : Result → Shared → Prop} {elt iter iter' t' : Expr} {x : Str} {px : Pos} {ifs ifs' : List Expr} {gens : List Comprehension} {d : Nat} {scope : Scope} {pos : Pos} {acc : Value} {it : Addr} {fp : List Addr} {n : Nat} {V : Nat → Value → Prop} {P : Nat → Heap → Prop}
    (hg : gens[d]? = some ⟨.Name x px, iter, ifs, 0⟩) (hg' : gens[d + 1]? = some ⟨t', iter', ifs', 0⟩) (hs : ∀ x, foldedSetIterable iter' env x = pure x)
    (D : Iter prog w it fp n V P) (hh : A.handled = none) (p0 : P 0 s.heap) (I : Nat → Shared → Prop) (hI : ∀ k s₁ s₂, I k s₁ → ExL it s₁ s₂ → I k s₂) (h0 : I 0 s)
    (turn : ∀ k v s₁, k < n → V k v → P (k + 1) s₁.heap → I k s₁ → wpAny (model prog w) A (storeName env x v) (fun _ s₂ => wpAny (model prog w) A (conds ifs env) (fun ok s₃ =>
      if ok = true then wpAny (model prog w) A (eval iter' env) (fun y s₄ => wpAny (model prog w) A (pyIter y) (fun it' s₅ =>
        codeAny (model prog w) A (.compStart (.ListComp elt gens scope pos) (d + 1) it' acc env) (fun r s₆ => (∃ f, r = .ok f) ∧ Stay fp s₁.heap s₆.heap ∧ I (k + 1) s₆) s₅) No s₄) No s₃
      else Stay fp s₁.heap s₃.heap ∧ I (k + 1) s₃) No s₂) No s₁)
    (hR : ∀ s', I n s' → R (.ok .next) s') : codeAny (model prog w) A (.compLoop (.ListComp elt gens scope pos) d (.ref it) acc env) R s := by
  refine codeAny_loop rfl (fun c s₁ => ∃ k, k ≤ n ∧ c = n + 1 - k ∧ P k s₁.heap ∧ I k s₁) ?_ (n + 1) ⟨0, Nat.zero_le _, rfl, p0, h0⟩
  rintro c s₁ ⟨k, hk, rfl, hp, hi⟩
  show wpAny _ _ ((compTurn (.ListComp elt gens scope pos) d (.ref it) acc env).onRaise (fun x => do noteFrame x env; theTreesLotGoes x)) _ _ s₁
  refine wpAny_noted ?_
  unfold compTurn
  dsimp only
  rw [hg]
  dsimp only
  refine wpAny_bind (wpAny_standAt ?_)
  rw [if_neg (by decide)]
  refine wpAny_bind ?_
  rcases Nat.lt_or_eq_of_le hk with hk | rfl
  · refine D.item hp hk fun v s₂ g hp' hv => ?_
    dsimp only
    refine wpAny_bind (D.own hp' (wpAny_bind (wpAny_assign_Name ?_)))
    refine wpAny_mono (turn k v s₂ hk hv hp' (hI k s₁ s₂ hi g)) (fun _ s₃ h₃ => ?_) fun _ _ q => q.elim
    refine wpAny_bind (wpAny_mono h₃ (fun ok s₄ h₄ => ?_) fun _ _ q => q.elim)
    rw [hg']
    cases ok with
    | true =>
      rw [if_pos rfl] at h₄ ⊢
      dsimp only
      refine wpAny_bind (wpAny_mono h₄ (fun y s₅ h₅ => ?_) fun _ _ q => q.elim)
      refine wpAny_bind (wpAny_standAt ?_)
      rw [if_neg (by decide), hs]
      refine wpAny_bind (wpAny_pure ?_)
      rw [if_neg (by decide)]
      refine wpAny_bind (wpAny_holding (wpAny_mono h₅ (fun it' s₆ h₆ => ?_) fun _ _ q => q.elim))
      refine wpAny_bind (wpAny_runOwn (codeAny_mono h₆ fun r s₇ h₇ => ?_))
      obtain ⟨⟨f, rfl⟩, st, hi'⟩ := h₇
      exact wpAny_pure ⟨rfl, n + 1 - (k + 1), by omega, k + 1, by omega, rfl, D.keep hp' st, hi'⟩
    | false =>
      rw [if_neg (by decide)] at h₄ ⊢
      exact wpAny_pure ⟨rfl, n + 1 - (k + 1), by omega, k + 1, by omega, rfl, D.keep hp' h₄.1, h₄.2⟩
  · exact D.fin hh hp fun s₂ g => wpAny_pure (hR s₂ (hI _ s₁ s₂ hi g))

theorem compStart_ {R : Result → Shared → Prop} {elt : Expr} {g : Comprehension} {gens : List Comprehension} {d : Nat} {scope : Scope} {pos : Pos} {acc : Value} {it : Addr} {fp : List Addr} {n k : Nat} {V : Nat → Value → Prop} {P : Nat → Heap → Prop}
    (hg : gens[d]? = some g) (ha : g.is_async = 0) (D : Iter prog w it fp n V P) (p0 : P k s.heap)
    (h : codeAny (model prog w) A (.compLoop (.ListComp elt gens scope pos) d (.ref it) acc env) R s) : codeAny (model prog w) A (.compStart (.ListComp elt gens scope pos) d (.ref it) acc env) R s := by
  refine codeAny_of_tree ?_
  show wpAny _ _ ((compStart (.ListComp elt gens scope pos) d (.ref it) acc env).onRaise (fun x => do noteFrame x env; standAt theWindowsPlace)) _ _ s
  refine wpAny_notedAt ?_
  unfold compStart
  have hc : clausesOf (.ListComp elt gens scope pos) = gens := rfl
  have e : (((clausesOf (.ListComp elt gens scope pos))[d]?).elim false fun x => x.is_async != 0) = false := by
    rw [hc, hg]; show (g.is_async != 0) = false; rw [ha]; rfl
  rw [e, if_neg (by decide)]
  refine wpAny_bind (wpAny_askSetting (wpAny_ite ?_))
  split
  · exact wpAny_pure (And.intro rfl h)
  · refine wpAny_bind (wpAny_rule ?_)
    rw [hc, hg]
    dsimp only
    refine wpAny_bind (wpAny_standAt (wpAny_bind (D.again p0 (wpAny_pure (And.intro rfl h)))))
end

section
variable {prog : Program} {w : World} {A : Around} {E : Value → Shared → Prop} {s : Shared} {env : Env} {m : Str → Option Value}

theorem ldE {x : Str} {v : Value} {pos : Pos} {Q : Value → Shared → Prop} (hn : s.heap.Ns env.locals m) (hv : m x = some v) (h : Q v s)
    (hk : env.scope.kind = .function := by rfl) (hl : env.kindOf x = some .local := by rfl) (hd : (x == ("__debug__" : Str)) = false := by decide) : wpAny (model prog w) A (eval (.Name x pos) env) Q E s :=
  wpAny_Name (wpAny_loadName_local hk hl hn hv h) hd
theorem stE {x : Str} {v : Value} {Q : Unit → Shared → Prop} (hn : s.heap.Ns env.locals m) (h : ∀ s', s'.heap.Ns env.locals (upd m x v) → ExL env.locals s s' → Q () s')
    (hk : env.scope.kind = .function := by rfl) (hl : env.kindOf x = some .local := by rfl) : wpAny (model prog w) A (storeName env x v) Q E s :=
  wpAny_storeName_local hl hn (fun _ hn' hs => h _ hn' ⟨fun b _ n e => (hs.2 b n).trans e, rfl, rfl⟩) (by rw [hk]; rfl)

/-- a captured name -/
theorem ldCell {x : Str} {v : Value} {pos : Pos} {a : Addr} {o : Obj} {Q : Value → Shared → Prop} (hc : env.cells.lookup x = some a) (ho : s.heap.get? a = some o) (hd' : o.data = .cell (some v)) (h : Q v s)
    (hk : env.scope.kind = .function := by rfl) (hl : env.kindOf x = some .cell := by rfl) (hd : (x == ("__debug__" : Str)) = false := by decide) : wpAny (model prog w) A (eval (.Name x pos) env) Q E s := by
  refine wpAny_Name ?_ hd
  have hb : env.blockKind = .function := by unfold Env.blockKind; rw [hk]; rfl
  have ha : env.scope.kind.isAnnotationScope = false := by rw [hk]; rfl
  unfold loadName
  rw [ha, hb, hl]
  simp only [Bool.false_and, Bool.false_eq_true, if_false]
  unfold cellOf
  rw [hc]
  refine wpAny_bind (wpAny_pure ?_)
  unfold cellGet
  refine wpAny_bind (wpAny_bind (wpAny_load ho ?_))
  rw [hd']
  exact wpAny_pure (wpAny_pure h)

theorem nameBE {x : Str} {v : Value} {pos : Pos} {base : Heap} {Q : Value → Shared → Prop} (hb : base.StaysIn s.heap) (B : Bn base x v) (h : Q v s) (eg : env.globals = mainGlobals := by rfl) (eb : env.builtins = builtinsNs := by rfl)
    (hk : env.scope.kind = .function := by rfl) (hx : env.kindOf x = some .globalImplicit := by rfl) (hd : (x == ("__debug__" : Str)) = false := by decide) : wpAny (model prog w) A (eval (.Name x pos) env) Q E s :=
  let ⟨_, _, g, n, b, v'⟩ := B
  Calls.Name_function_global hk hx (Calls.loadGlobal_builtin (env := env) (eg ▸ g.keeps hb) n (eb ▸ b.keeps hb) v' h) hd
end

/-- the place that a value names -/
def rf : Value → List Addr
  | .ref c => [c]
  | _ => []

section
variable {prog : Program} {w : World} {A : Around} {E : Value → Shared → Prop} {s : Shared} {env : Env} {α β : Type}

/-- where a comprehension's (or a loop's) items come from -/
structure Src (prog : Program) (w : World) (s s₂ : Shared) (RA : Value → α → Prop) (X : List α) (it : Addr) (fp : List Addr) (V : Nat → Value → Prop) (P : Nat → Heap → Prop) : Prop where
  D : Iter prog w it fp X.length V P
  p0 : P 0 s₂.heap
  g : Grow s s₂
  ni : s.heap.get? it = none
  ii : s₂.heap.get? it ≠ none
  fp : ∀ b ∈ fp, s₂.heap.get? b ≠ none
  ra : ∀ k v (hk : k < X.length), V k v → RA v X[k]

/-- the list that «[elt for x in .. if ..]» fills: the walk over its one clause -/
theorem compWalk {R : Result → Shared → Prop} {s₂ s₃ s₄ : Shared} {RA : Value → α → Prop} {RO : Value → β → Heap → Prop} {X : List α} {p : α → Bool} {f : α → β} {elt iter : Expr} {x : Str} {px : Pos} {ifs : List Expr} {gens : List Comprehension} {d : Nat} {scope : Scope} {pos : Pos} {it Lc Dl : Addr} {fp : List Addr} {V : Nat → Value → Prop} {P : Nat → Heap → Prop} {us₀ : List Value} {bs₀ : List β}
    (hg : gens[d]? = some ⟨.Name x px, iter, ifs, 0⟩) (hg' : gens[d + 1]? = none) (hh : A.handled = none)
    (mono : ∀ u b h h', RO u b h → (∀ c ∈ rf u, ∀ o, h.get? c = some o → h'.get? c = some o) → RO u b h')
    (S : Src prog w s s₂ RA X it fp V P) (g₄ : Grow s₂ s₄) (nD : s.heap.get? Dl = none) (nL : s.heap.get? Lc = none) (fD : Dl ∉ fp) (fL : Lc ∉ fp) (LD : Lc ≠ Dl) (eL : env.locals = Lc)
    (hns : ∃ m, s₄.heap.Ns Lc m) (hD : ∃ j, s₄.heap.get? Dl = some (listOf us₀.toArray j)) (a₀ : All2 (fun u b => RO u b s₄.heap) us₀ bs₀) (o₀ : ∀ u ∈ us₀, ∀ c ∈ rf u, s₄.heap.get? c ≠ none ∧ c ≠ it ∧ c ≠ Lc ∧ c ≠ Dl) (hz : us₀.length + X.length < 1000000)
    (hk : env.scope.kind = .function) (hl : env.kindOf x = some .local)
    (hcond : ∀ v a s₁ m, Grow s s₁ → RA v a → s₁.heap.Ns Lc m → m x = some v → wpAny (model prog w) A (conds ifs env) (fun ok s₂ => Grow s₁ s₂ ∧ ok = p a) No s₁)
    (helt : ∀ v a s₁ m, Grow s s₁ → RA v a → p a = true → s₁.heap.Ns Lc m → m x = some v → wpAny (model prog w) A (eval elt env) (fun u s₂ => Grow s₁ s₂ ∧ RO u (f a) s₂.heap ∧ ∀ c ∈ rf u, s₂.heap.get? c ≠ none ∧ (s₁.heap.get? c = none ∨ s.heap.get? c ≠ none)) No s₁)
    (hR : ∀ s' us j, (∀ b o, b ≠ it → b ≠ Lc → b ≠ Dl → s₄.heap.get? b = some o → s'.heap.get? b = some o) → s'.os = s₄.os → s'.gens = s₄.gens → (∃ m, s'.heap.Ns Lc m) → s'.heap.get? Dl = some (listOf us.toArray j) → All2 (fun u b => RO u b s'.heap) us (bs₀ ++ (X.filter p).map f) →
      (∀ u ∈ us, ∀ c ∈ rf u, s'.heap.get? c ≠ none ∧ c ≠ it ∧ c ≠ Lc ∧ c ≠ Dl) → us.length ≤ us₀.length + X.length → R (.ok .next) s') :
    codeAny (model prog w) A (.compLoop (.ListComp elt gens scope pos) d (.ref it) (.ref Dl) env) R s₄ := by
  subst eL
  have iD : it ≠ Dl := fun q => fD (q ▸ S.D.mem)
  have iL : it ≠ env.locals := fun q => fL (q ▸ S.D.mem)
  have gs₄ : Grow s s₄ := S.g.trans g₄
  have toAll : ∀ {h h' : Heap} {us : List Value} {bs : List β}, All2 (fun u b => RO u b h) us bs → (∀ u ∈ us, ∀ c ∈ rf u, ∀ o, h.get? c = some o → h'.get? c = some o) → All2 (fun u b => RO u b h') us bs := by
    intro h h' us bs ha
    induction ha with
    | nil => exact fun _ => .nil
    | cons r _ ih => exact fun hh => .cons (mono _ _ _ _ r (hh _ (.head _))) (ih fun u hu => hh u (.tail _ hu))
  have stay : ∀ {h h' : Heap} {c : Addr}, (∀ o, h.get? c = some o → h'.get? c = some o) → h.get? c ≠ none → h'.get? c ≠ none := by
    intro h h' c k n q
    cases e : h.get? c with
    | none => exact n e
    | some o => rw [k o e] at q; cases q
  -- the invariant
  refine compLeaf hg hg' S.D hh (S.D.keep S.p0 fun b _ o e => g₄.keep b o e)
    (fun k s₁ => (∀ b o, b ≠ it → b ≠ env.locals → b ≠ Dl → s₄.heap.get? b = some o → s₁.heap.get? b = some o) ∧ s₁.os = s₄.os ∧ s₁.gens = s₄.gens ∧ (∃ m, s₁.heap.Ns env.locals m) ∧
      ∃ us j, s₁.heap.get? Dl = some (listOf us.toArray j) ∧ All2 (fun u b => RO u b s₁.heap) us (bs₀ ++ ((X.take k).filter p).map f) ∧ (∀ u ∈ us, ∀ c ∈ rf u, s₁.heap.get? c ≠ none ∧ c ≠ it ∧ c ≠ env.locals ∧ c ≠ Dl) ∧ us.length ≤ us₀.length + k)
    ?_ ?_ ?_ ?_
  · -- the iterator turns
    rintro k s₁ s₂ ⟨h1, h2, h3, ⟨m, h4⟩, us, j, h5, h6, h7, h8⟩ g
    have kc : ∀ u ∈ us, ∀ c ∈ rf u, ∀ o, s₁.heap.get? c = some o → s₂.heap.get? c = some o := fun u hu c hc o e => g.keep c o (h7 u hu c hc).2.1 e
    refine ⟨fun b o n1 n2 n3 e => g.keep b o n1 (h1 b o n1 n2 n3 e), g.os.trans h2, g.gens.trans h3, ?_, us, j, g.keep _ _ (Ne.symm iD) h5, toAll h6 kc, fun u hu c hc => ⟨stay (kc u hu c hc) (h7 u hu c hc).1, (h7 u hu c hc).2⟩, h8⟩
    obtain ⟨o, es, ep, ho, r⟩ := h4
    exact ⟨m, o, es, ep, g.keep _ _ (Ne.symm iL) ho, r⟩
  · -- the start
    obtain ⟨j, hD⟩ := hD
    exact ⟨fun b o _ _ _ e => e, rfl, rfl, hns, us₀, j, hD, by simpa using a₀, o₀, by omega⟩
  · -- a turn
    rintro k v s₁ hkn hv hp ⟨h1, h2, h3, ⟨m, h4⟩, us, j, h5, h6, h7, h8⟩
    have ra := S.ra k v hkn hv
    have git := S.D.there hp
    refine stE h4 (fun s₂ hn₂ g₂ => ?_) hk hl
    have gs : ∀ {s' : Shared}, ExL env.locals s₁ s' → Grow s s' := fun {s'} g => by
      refine ⟨fun b o e => g.keep b o (fun q => by rw [q, nL] at e; cases e) (h1 b o (fun q => by rw [q, S.ni] at e; cases e) (fun q => by rw [q, nL] at e; cases e) (fun q => by rw [q, nD] at e; cases e) (gs₄.keep b o e)), ?_, ?_⟩
      · exact g.os.trans (h2.trans gs₄.os)
      · exact g.gens.trans (h3.trans gs₄.gens)
    have gs₂ := gs g₂
    refine wpAny_mono (hcond v X[k] s₂ _ gs₂ ra hn₂ upd_same) (fun ok s₃ h₃ => ?_) fun _ _ q => q
    obtain ⟨g₃, rfl⟩ := h₃
    have tk : X.take (k + 1) = X.take k ++ [X[k]] := by rw [List.take_succ_eq_append_getElem hkn]
    have e₁₃ : ExL env.locals s₁ s₃ := g₂.trans g₃.exL
    have kc : ∀ u ∈ us, ∀ c ∈ rf u, ∀ o, s₁.heap.get? c = some o → s₃.heap.get? c = some o := fun u hu c hc o e => e₁₃.keep c o (h7 u hu c hc).2.2.1 e
    cases hpk : p X[k] with
    | false =>
      rw [if_neg (by decide)]
      refine ⟨fun b hb o e => e₁₃.keep b o (fun q => fL (q ▸ hb)) e, fun b o n1 n2 n3 e => e₁₃.keep b o n2 (h1 b o n1 n2 n3 e), e₁₃.os.trans h2, e₁₃.gens.trans h3, ⟨_, hn₂.keeps g₃.keep⟩, us, j, e₁₃.keep _ _ (Ne.symm LD) h5, ?_, fun u hu c hc => ⟨stay (kc u hu c hc) (h7 u hu c hc).1, (h7 u hu c hc).2⟩, by omega⟩
      rw [tk, List.filter_append]
      have : [X[k]].filter p = [] := by simp [hpk]
      rw [this, List.append_nil]
      exact toAll h6 kc
    | true =>
      rw [if_pos rfl]
      refine wpAny_mono (helt v X[k] s₃ _ (gs₂.trans g₃) ra hpk (hn₂.keeps g₃.keep) upd_same) (fun u s₅ h₅ => ?_) fun _ _ q => q
      obtain ⟨g₅, ro, fr⟩ := h₅
      have e₁₅ : ExL env.locals s₁ s₅ := e₁₃.trans g₅.exL
      have h5' := e₁₅.keep _ _ (Ne.symm LD) h5
      refine append_at h5' (fun h' sb hD' => ?_) (by rw [List.size_toArray, sizeLine_eq]; omega)
      have k5 : ∀ b o, b ≠ Dl → s₅.heap.get? b = some o → h'.get? b = some o := fun b o n e => (sb.2 b n).trans e
      have ncu : ∀ c ∈ rf u, c ≠ it ∧ c ≠ env.locals ∧ c ≠ Dl := fun c hc => by
        rcases (fr c hc).2 with q | q
        · have nx : ∀ {d : Addr}, s₃.heap.get? d ≠ none → c ≠ d := fun n e => n (e ▸ q)
          refine ⟨nx (stay (fun o e => e₁₃.keep it o iL e) git), nx ?_, nx ?_⟩
          · obtain ⟨o, _, _, ho, _⟩ := hn₂.keeps g₃.keep
            rw [ho]; exact fun q => by cases q
          · rw [e₁₃.keep _ _ (Ne.symm LD) h5]; exact fun q => by cases q
        · refine ⟨fun e => q (e ▸ S.ni), fun e => q (e ▸ nL), fun e => q (e ▸ nD)⟩
      have e' : us.toArray.push u = (us ++ [u]).toArray := by simp
      rw [e'] at hD'
      refine ⟨fun b hb o e => k5 b o (fun q => fD (q ▸ hb)) (e₁₅.keep b o (fun q => fL (q ▸ hb)) e), fun b o n1 n2 n3 e => k5 b o n3 (e₁₅.keep b o n2 (h1 b o n1 n2 n3 e)), e₁₅.os.trans h2, e₁₅.gens.trans h3, ?_, us ++ [u], _, hD', ?_, ?_, ?_⟩
      · obtain ⟨o, es, ep, ho, r⟩ := hn₂.keeps (fun b o e => g₅.keep b o (g₃.keep b o e))
        exact ⟨_, o, es, ep, k5 _ _ LD ho, r⟩
      · rw [tk, List.filter_append, List.map_append, ← List.append_assoc]
        refine (toAll h6 fun u hu c hc o e => k5 c o (h7 u hu c hc).2.2.2 (e₁₅.keep c o (h7 u hu c hc).2.2.1 e)).append ?_
        have : [X[k]].filter p = [X[k]] := by simp [hpk]
        rw [this]
        exact .cons (mono _ _ _ _ ro fun c hc o e => k5 c o (ncu c hc).2.2 e) .nil
      · intro u' hu c hc
        rcases List.mem_append.mp hu with hu | hu
        · exact ⟨stay (fun o e => k5 c o (h7 u' hu c hc).2.2.2 (e₁₅.keep c o (h7 u' hu c hc).2.2.1 e)) (h7 u' hu c hc).1, (h7 u' hu c hc).2⟩
        · rw [List.mem_singleton.mp hu] at hc
          exact ⟨stay (fun o e => k5 c o (ncu c hc).2.2 e) (fr c hc).1, ncu c hc⟩
      · simp; omega
  · -- the end
    rintro s' ⟨h1, h2, h3, h4, us, j, h5, h6, h7, h8⟩
    rw [List.take_length] at h6
    exact hR s' us j h1 h2 h3 h4 h5 h6 h7 h8
end

section
variable {prog : Program} {w : World} {A : Around} {E : Value → Shared → Prop} {s : Shared} {env : Env} {α β : Type}

theorem namesOk {sc sc' : List (Str × NameKind)} (h : (sc.all fun y => y.2 != .local || sc'.lookup y.1 == some .local) = true) : ∀ y ∈ sc, y.2 = .local → sc'.lookup y.1 = some .local := fun y hy q => by
  have := List.all_eq_true.mp h y hy
  rw [q] at this
  simpa using this

/-- the walk of «[elt for x in .. if ..]» with what is done with its list -/
theorem listCompU {RA : Value → α → Prop} {RO : Value → β → Heap → Prop} {X : List α} {p : α → Bool} {f : α → β} {elt iter : Expr} {x : Str} {px : Pos} {ifs : List Expr} {scope : Scope} {pos ip : Pos} {cl : List (Str × Addr)} {use : Option (Value → Sem Unit)} {Q : Value → Shared → Prop}
    (hs : ∀ y, foldedSetIterable iter env y = pure y) (hclos : closureFor scope env = pure cl) (hcell : ∀ y ∈ scope.names, y.2 ≠ .cell) (hkind : scope.kind = .function)
    (hnames : ∀ y ∈ scope.names, y.2 = .local → (compScope scope env).names.lookup y.1 = some .local) (hx : (compScope scope env).names.lookup x = some .local)
    (hh : A.handled = none)
    (mono : ∀ u b h h', RO u b h → (∀ c ∈ rf u, ∀ o, h.get? c = some o → h'.get? c = some o) → RO u b h')
    (hsrc : wpAny (model prog w) A (eval iter env) (fun y s₁ => wpAny (model prog w) A (pyIter y) (fun itv s₂ => ∃ it fp V P, itv = .ref it ∧ Src prog w s s₂ RA X it fp V P) E s₁) E s) (hz : X.length < 1000000)
    (hcond : ∀ v a s₁ Lc m, Grow s s₁ → RA v a → s₁.heap.Ns Lc m → m x = some v → wpAny (model prog w) A (conds ifs (compEnv scope env Lc cl)) (fun ok s₂ => Grow s₁ s₂ ∧ ok = p a) No s₁)
    (helt : ∀ v a s₁ Lc m, Grow s s₁ → RA v a → p a = true → s₁.heap.Ns Lc m → m x = some v → wpAny (model prog w) A (eval elt (compEnv scope env Lc cl)) (fun u s₂ => Grow s₁ s₂ ∧ RO u (f a) s₂.heap ∧ ∀ c ∈ rf u, s₂.heap.get? c ≠ none ∧ (s₁.heap.get? c = none ∨ s.heap.get? c ≠ none)) No s₁)
    (hQ : ∀ s' Lc D us j, Grow s s' → s.heap.get? D = none → s.heap.get? Lc = none → Lc ≠ D → (∃ m, s'.heap.Ns Lc m) → s'.heap.get? D = some (listOf us.toArray j) → All2 (fun u b => RO u b s'.heap) us ((X.filter p).map f) → us.length ≤ X.length →
      (∀ u ∈ us, ∀ c ∈ rf u, s'.heap.get? c ≠ none ∧ c ≠ D ∧ c ≠ Lc) → UseOk prog w A E use Q Lc (.ref D) s') :
    wpAny (model prog w) A (comprehension (.ListComp elt [⟨.Name x px, iter, ifs, 0⟩] scope pos) scope env ip (newList []) false (eval iter env) use) Q E s := by
  refine comprehension_ (g := ⟨.Name x px, iter, ifs, 0⟩) (gs := []) rfl hs hclos hcell hkind hnames (wpAny_mono hsrc (fun y s₁ h₁ => wpAny_mono h₁ (fun itv s₂ h₂ => ?_) fun _ _ q => q) fun _ _ q => q)
  obtain ⟨it, fp, V, P, rfl, S⟩ := h₂
  refine newList_ fun s₃ D g₃ gD nD => ?_
  intro s₄ Lc g₄ nL hns
  have keepS : ∀ {a : Addr}, s₂.heap.get? a = none → s.heap.get? a = none := fun {a} q => by
    cases e : s.heap.get? a with
    | none => rfl
    | some o => rw [S.g.keep _ _ e] at q; cases q
  have nL₂ : s₂.heap.get? Lc = none := by
    cases e : s₂.heap.get? Lc with
    | none => rfl
    | some o => rw [g₃.keep _ _ e] at nL; cases nL
  have LD : Lc ≠ D := fun q => by rw [q, gD] at nL; cases nL
  have hg : ([⟨.Name x px, iter, ifs, 0⟩] : List Comprehension)[0]? = some ⟨.Name x px, iter, ifs, 0⟩ := rfl
  refine compStart_ hg rfl S.D (S.D.keep S.p0 fun b _ o e => g₄.keep b o (g₃.keep b o e)) ?_
  refine compWalk (s₂ := s₂) (s₃ := s₃) (us₀ := []) (bs₀ := []) (Lc := Lc) hg rfl hh mono S (g₃.trans g₄) (keepS nD) (keepS nL₂) (fun q => S.fp _ q nD) (fun q => S.fp _ q nL₂) LD rfl ⟨_, hns⟩ ⟨0, g₄.keep _ _ gD⟩ .nil (fun u hu => by cases hu) (by simpa using hz) hkind hx
    (fun v a s₁ m => hcond v a s₁ Lc m) (fun v a s₁ m => helt v a s₁ Lc m) fun s' us j k1 k2 k3 hm hD ha hf hl => ?_
  have gs : Grow s s' := ⟨fun b o e => k1 b o (fun q => by rw [q, S.ni] at e; cases e) (fun q => by rw [q, keepS nL₂] at e; cases e) (fun q => by rw [q, keepS nD] at e; cases e) (g₄.keep b o (g₃.keep b o (S.g.keep b o e))), k2.trans (g₄.os.trans (g₃.os.trans S.g.os)), k3.trans (g₄.gens.trans (g₃.gens.trans S.g.gens))⟩
  exact ⟨⟨_, rfl⟩, hm, hQ s' Lc D us j gs (keepS nD) (keepS nL₂) LD hm hD ha (by simpa using hl) fun u hu c hc => ⟨(hf u hu c hc).1, (hf u hu c hc).2.2.2, (hf u hu c hc).2.2.1⟩⟩

/-- «[elt for x in .. if ..]» as a value -/
theorem listComp1 {RA : Value → α → Prop} {RO : Value → β → Heap → Prop} {X : List α} {p : α → Bool} {f : α → β} {elt iter : Expr} {x : Str} {px : Pos} {ifs : List Expr} {scope : Scope} {pos : Pos} {cl : List (Str × Addr)} {Q : Value → Shared → Prop}
    (hh : A.handled = none)
    (mono : ∀ u b h h', RO u b h → (∀ c ∈ rf u, ∀ o, h.get? c = some o → h'.get? c = some o) → RO u b h')
    (hsrc : wpAny (model prog w) A (eval iter env) (fun y s₁ => wpAny (model prog w) A (pyIter y) (fun itv s₂ => ∃ it fp V P, itv = .ref it ∧ Src prog w s s₂ RA X it fp V P) E s₁) E s) (hz : X.length < 1000000)
    (hcond : ∀ v a s₁ Lc m, Grow s s₁ → RA v a → s₁.heap.Ns Lc m → m x = some v → wpAny (model prog w) A (conds ifs (compEnv scope env Lc cl)) (fun ok s₂ => Grow s₁ s₂ ∧ ok = p a) No s₁)
    (helt : ∀ v a s₁ Lc m, Grow s s₁ → RA v a → p a = true → s₁.heap.Ns Lc m → m x = some v → wpAny (model prog w) A (eval elt (compEnv scope env Lc cl)) (fun u s₂ => Grow s₁ s₂ ∧ RO u (f a) s₂.heap ∧ ∀ c ∈ rf u, s₂.heap.get? c ≠ none ∧ (s₁.heap.get? c = none ∨ s.heap.get? c ≠ none)) No s₁)
    (hQ : ∀ s' D us j, Grow s s' → s.heap.get? D = none → s'.heap.get? D = some (listOf us.toArray j) → All2 (fun u b => RO u b s'.heap) us ((X.filter p).map f) → us.length ≤ X.length → (∀ u ∈ us, ∀ c ∈ rf u, s'.heap.get? c ≠ none ∧ c ≠ D) → Q (.ref D) s')
    (hs : ∀ y, foldedSetIterable iter env y = pure y := by intro _; rfl) (hclos : closureFor scope env = pure cl := by rfl) (hcell : ∀ y ∈ scope.names, y.2 ≠ .cell := by decide) (hkind : scope.kind = .function := by rfl)
    (hnames : (scope.names.all fun y => y.2 != .local || (compScope scope env).names.lookup y.1 == some .local) = true := by rfl) (hx : (compScope scope env).names.lookup x = some .local := by rfl) :
    wpAny (model prog w) A (eval (.ListComp elt [⟨.Name x px, iter, ifs, 0⟩] scope pos) env) Q E s := by
  rw [eval_ListComp]
  refine listCompU (use := none) hs hclos hcell hkind (namesOk hnames) hx hh mono hsrc hz hcond helt fun s' Lc D us j g nD nL LD hm hD ha hl hf => ?_
  intro s'' e
  have kc : ∀ u ∈ us, ∀ c ∈ rf u, ∀ o, s'.heap.get? c = some o → s''.heap.get? c = some o := fun u hu c hc o q => e.keep c o (hf u hu c hc).2.2 q
  have toAll : ∀ {us : List Value} {bs : List β}, All2 (fun u b => RO u b s'.heap) us bs → (∀ u ∈ us, ∀ c ∈ rf u, ∀ o, s'.heap.get? c = some o → s''.heap.get? c = some o) → All2 (fun u b => RO u b s''.heap) us bs := by
    intro us bs ha
    induction ha with
    | nil => exact fun _ => .nil
    | cons r _ ih => exact fun hh => .cons (mono _ _ _ _ r (hh _ (.head _))) (ih fun u hu => hh u (.tail _ hu))
  refine hQ s'' D us j ⟨fun b o q => e.keep b o (fun q' => by rw [q', nL] at q; cases q) (g.keep b o q), e.os.trans g.os, e.gens.trans g.gens⟩ nD (e.keep _ _ (Ne.symm LD) hD) (toAll ha kc) hl fun u hu c hc => ⟨fun q => ?_, (hf u hu c hc).2.1⟩
  cases q' : s'.heap.get? c with
  | none => exact (hf u hu c hc).1 q'
  | some o => rw [kc u hu c hc o q'] at q; cases q

/-- the items of a list that stands -/
theorem srcList {RA : Value → α → Prop} {X : List α} {vs : List Value} {l : Addr} {n : Nat} {s₁ : Shared} (g : Grow s s₁) (hl : s₁.heap.get? l = some (listOf vs.toArray n)) (ha : All2 RA vs X) :
    wpAny (model prog w) A (pyIter (.ref l)) (fun itv s₂ => ∃ it fp V P, itv = .ref it ∧ Src prog w s s₂ RA X it fp V P) E s₁ := by
  refine pyIterList hl fun s₂ it g₂ ni nil st => ⟨it, [it, l], fun k v => vs[k]? = some v, fun k h => h.IsListIter it l k ∧ h.IsList l vs.toArray, rfl, ?_⟩
  have D := iterList (prog := prog) (w := w) (vs := vs) nil
  have e := ha.length
  refine ⟨by rw [← e]; exact D, st, g.trans g₂, ?_, D.there st, ?_, fun k v hk hv => ?_⟩
  · cases q : s.heap.get? it with
    | none => rfl
    | some o => rw [g.keep _ _ q] at ni; cases ni
  · intro b hb q
    rcases List.mem_cons.mp hb with rfl | hb
    · exact D.there st q
    · rw [List.mem_singleton.mp hb, g₂.keep _ _ hl] at q; cases q
  · have hk' : k < vs.length := by omega
    have : v = vs[k] := by rw [List.getElem?_eq_getElem hk'] at hv; exact (Option.some.inj hv).symm
    rw [this]
    exact ha.get k hk' hk

/-- the numbers below n -/
theorem srcRange {n : Nat} {r : Addr} {t u v : Tok} {s₁ : Shared} (g : Grow s s₁) (hr : IsRange s₁.heap r 0 (n : Nat) 1 t u v) (hn : n < 1000000) :
    wpAny (model prog w) A (pyIter (.ref r)) (fun itv s₂ => ∃ it fp V P, itv = .ref it ∧ Src prog w s s₂ (fun v (k : Nat) => ∃ t, v = .int (k : Nat) t) (List.range n) it fp V P) E s₁ := by
  refine pyIterRange hr hn fun s₂ it g₂ ni st => ⟨it, [it], fun k v => ∃ t, v = .int (k : Nat) t, fun k h => IsRangeIter h it (k : Nat) ((n : Int) - (k : Nat)) 1, rfl, ?_⟩
  have D := iterRange (prog := prog) (w := w) (it := it) (n := n)
  refine ⟨by rw [List.length_range]; exact D, st, g.trans g₂, ?_, D.there st, ?_, fun k v hk hv => ?_⟩
  · cases q : s.heap.get? it with
    | none => rfl
    | some o => rw [g.keep _ _ q] at ni; cases ni
  · intro b hb q
    rw [List.mem_singleton.mp hb] at q
    exact D.there st q
  · simpa using hv
end

theorem entry_set_eq' : entryFor table "set.__eq__" = some Builtin.«frozenset.__eq__» :=
  entryFor_alias (id' := "frozenset.__eq__") (by kernel_rfl) rfl (by decide +kernel) (by kernel_rfl)
theorem entry_set_lt' : entryFor table "set.__lt__" = some Builtin.«frozenset.__lt__» :=
  entryFor_alias (id' := "frozenset.__lt__") (by kernel_rfl) rfl (by decide +kernel) (by kernel_rfl)
theorem entry_set_gt' : entryFor table "set.__gt__" = some Builtin.«frozenset.__gt__» :=
  entryFor_alias (id' := "frozenset.__gt__") (by kernel_rfl) rfl (by decide +kernel) (by kernel_rfl)
theorem sub_set_set : isSubtype (.type "set") (.type "set") = pure true := by rw [isSubtype_type]; kernel_rfl
theorem sub_set_fro : isSubtype (.type "set") (.type "frozenset") = pure false := by rw [isSubtype_type]; kernel_rfl

section
variable {prog : Program} {w : World} {A : Around} {E : Value → Shared → Prop} {s : Shared} {a b : Addr} {S S' : Int → Bool} {n n' : Nat}

theorem sizeOf_ {Q : Nat → Shared → Prop} (hS : s.heap.SetOf (intKind prog w) a S n) (h : Q n s) : wpAny (model prog w) A (Builtin.Frozenset.sizeOf a) Q E s := by
  obtain ⟨o, es, ep, t, ho, _, hd, _, _, _, hf, hn⟩ := hS
  unfold Builtin.Frozenset.sizeOf
  refine wpAny_bind (wpAny_setEntries_of ho hd hf (wpAny_pure ?_))
  rw [hn]; exact h

theorem quietEq_ {v : Value} {Q : Bool → Shared → Prop} (hv : ∀ c, v ≠ .ref c) (h : Q true s) : wpAny (model prog w) A (Builtin.Frozenset.quietEq v) Q E s := by
  unfold Builtin.Frozenset.quietEq
  cases v <;> first | exact wpAny_pure h | exact absurd rfl (hv _)

theorem isAnySet_ {Q : Bool → Shared → Prop} (hb : s.heap.SetOf (intKind prog w) b S' n') (h : Q true s) : wpAny (model prog w) A (Builtin.Frozenset.isAnySet (.ref b)) Q E s := by
  unfold Builtin.Frozenset.isAnySet
  show wpAny _ _ (isInstance (.ref b) (.type "set") >>= fun c => _) _ _ _
  refine wpAny_bind (wpAny_isInstance (T := "set") (b := true) hb.typeIs sub_set_set ?_)
  exact wpAny_pure h

theorem ltSet {Q : Value → Shared → Prop} (ha : s.heap.SetOf (intKind prog w) a S n) (hb : s.heap.SetOf (intKind prog w) b S' n') (hn : n' ≤ n) (hu : A.units < cLine) (h : Q (.bool false) s) :
    wpAny (model prog w) A (compareOp .Lt (.ref a) (.ref b)) Q E s := by
  refine cmp_ofLt (wpAny_richCompare_same_room ha.typeIs hb.typeIs PySem.F.slot_set_lt (wpAny_call_entry PySem.F.slot_set_lt ha.typeIs entry_set_lt' ?_ (PySem.F.args_set_lt_2 _ _)) hu)
  refine wpAny_bind (wpAny_of_eq (a := (Value.ref a, Value.ref b)) rfl ?_)
  refine wpAny_bind (isAnySet_ hb ?_)
  rw [if_neg (by decide)]
  refine wpAny_bind (wpAny_pure (wpAny_bind (wpAny_pure (wpAny_bind (sizeOf_ ha (wpAny_bind (sizeOf_ hb ?_)))))))
  dsimp only
  rw [if_pos hn]
  exact wpAny_pure ⟨_, rfl, by simp, h⟩

theorem gtSet {Q : Value → Shared → Prop} (ha : s.heap.SetOf (intKind prog w) a S n) (hb : s.heap.SetOf (intKind prog w) b S' n') (hn : n ≤ n') (hu : A.units < cLine) (h : Q (.bool false) s) :
    wpAny (model prog w) A (compareOp .Gt (.ref a) (.ref b)) Q E s := by
  refine cmp_ofGt (wpAny_richCompare_same_room ha.typeIs hb.typeIs PySem.F.slot_set_gt (wpAny_call_entry PySem.F.slot_set_gt ha.typeIs entry_set_gt' ?_ (PySem.F.args_set_gt_2 _ _)) hu)
  refine wpAny_bind (wpAny_of_eq (a := (Value.ref a, Value.ref b)) rfl ?_)
  refine wpAny_bind (isAnySet_ hb ?_)
  rw [if_neg (by decide)]
  refine wpAny_bind (wpAny_pure (wpAny_bind (wpAny_pure (wpAny_bind (sizeOf_ ha (wpAny_bind (sizeOf_ hb ?_)))))))
  dsimp only
  rw [if_pos hn]
  exact wpAny_pure ⟨_, rfl, by simp, h⟩

theorem walkUnseen_ {o : Obj} {es : Array (Int × Value)} {ep : Nat} {t : SetTable} {Q : List (Int × Value) → Shared → Prop} (ho : s.heap.get? a = some o) (hd : o.data = .set es ep t) (hf : t.fits es.size = true) (hel : ElemsOf (intKind prog w) es.toList)
    (hb : s.heap.SetOf (intKind prog w) b S' n') (h : Q es.toList s) : wpAny (model prog w) A (Builtin.Frozenset.walkUnseen a b) Q E s := by
  obtain ⟨o', es', ep', t', ho', _, hd', hel', _, _, hf', _⟩ := hb
  unfold Builtin.Frozenset.walkUnseen
  refine wpAny_bind (wpAny_setEntries_of ho hd hf (wpAny_bind (wpAny_setEntries_of ho' hd' hf' (wpAny_bind ?_))))
  refine wpAny_forIn_list _ (fun l c s₁ => s₁ = s ∧ c.1 = none ∧ ∀ e ∈ l, ∀ r, e.2 ≠ .ref r) _ ?_ ?_ _ _ ⟨rfl, rfl, ?_⟩
  · rintro ⟨hh, x⟩ rest c s₁ ⟨rfl, hc, hl⟩
    refine wpAny_bind (quietEq_ (fun r => hl _ (.head _) r) ?_)
    rw [if_neg (by decide)]
    exact wpAny_pure ⟨rfl, rfl, fun e he => hl e (.tail _ he)⟩
  · rintro c s₁ ⟨rfl, hc, _⟩
    dsimp only
    rw [hc]
    exact wpAny_pure h
  · intro e he r q
    have : ∃ k, (intKind prog w).is k e.2 = true := by
      rcases List.mem_append.mp he with he | he
      · obtain ⟨⟨k, hk, _⟩, _⟩ := hel e he; exact ⟨k, hk⟩
      · obtain ⟨⟨k, hk, _⟩, _⟩ := hel' e he; exact ⟨k, hk⟩
    obtain ⟨k, hk⟩ := this
    rw [q] at hk
    simp [intKind, Value.isInt] at hk

theorem subsetOf_ {what : String} {Q : Bool → Shared → Prop} (ha : s.heap.SetOf (intKind prog w) a S n) (hb : s.heap.SetOf (intKind prog w) b S' n') (hn : n ≤ n') (r : Bool) (hr : r = true ↔ ∀ k, S k = true → S' k = true) (h : Q r s) :
    wpAny (model prog w) A (Builtin.Frozenset.subsetOf what a b) Q E s := by
  obtain ⟨o, es, ep, t, ho, hx, hd, hel, hmem, hlt, hf, hsz⟩ := id ha
  unfold Builtin.Frozenset.subsetOf
  refine wpAny_bind (sizeOf_ ha (wpAny_bind (sizeOf_ hb ?_)))
  rw [if_neg (by omega)]
  refine wpAny_bind (wpAny_setEpoch_of ho hd hf (wpAny_bind (walkUnseen_ ho hd hf hel hb (wpAny_bind ?_))))
  refine wpAny_forIn_list _ (fun l c s₁ => s₁ = s ∧ c.1 = none ∧ (∀ e ∈ l, e ∈ es.toList) ∧ ∀ e ∈ es.toList, e ∈ l ∨ ∀ k, (intKind prog w).is k e.2 = true → S' k = true) _ ?_ ?_ _ _ ⟨rfl, rfl, fun _ q => q, fun e q => .inl q⟩
  · rintro ⟨hh, x⟩ rest c s₁ ⟨rfl, hc, hl, hl'⟩
    obtain ⟨⟨k, hk, hhash⟩, hsc⟩ := hel _ (hl _ (.head _))
    have hhash' : hh = (intKind prog w).hash k := hhash
    subst hhash'
    refine wpAny_bind (wpAny_holding (wpAny_setFind_of hk hsc hb fun r' hr' => ?_))
    cases hS : S' k with
    | false =>
      rw [hS] at hr'
      have : r'.isNone = true := by cases r' <;> simp_all
      rw [if_pos this]
      refine wpAny_pure ?_
      dsimp only
      have : r = false := by
        cases hq : r with
        | false => rfl
        | true =>
          have := hr.mp hq k ((hmem k).mpr ⟨_, hl _ (.head _), hk⟩)
          rw [hS] at this; cases this
      rw [this] at h
      exact wpAny_pure h
    | true =>
      rw [hS] at hr'
      have : r'.isNone = false := by cases r' <;> simp_all
      rw [if_neg (by rw [this]; decide)]
      unfold Builtin.Frozenset.unchanged
      refine wpAny_bind (wpAny_bind (wpAny_setEpoch_of ho hd hf ?_))
      rw [if_neg (by simp)]
      refine wpAny_pure (wpAny_pure ⟨rfl, rfl, fun e he => hl e (.tail _ he), fun e he => ?_⟩)
      rcases hl' e he with q | q
      · rcases List.mem_cons.mp q with rfl | q
        · exact .inr fun k' hk' => by rw [(intKind prog w).inj _ _ _ hk' hk]; exact hS
        · exact .inl q
      · exact .inr q
  · rintro c s₁ ⟨rfl, hc, _, hl⟩
    dsimp only
    rw [hc]
    have : r = true := hr.mpr fun k hk => by
      obtain ⟨e, he, hke⟩ := (hmem k).mp hk
      rcases hl e he with q | q
      · cases q
      · exact q k hke
    rw [this] at h
    exact wpAny_pure h

theorem rcSet {r : Bool} {Q : Value → Shared → Prop} (ha : s.heap.SetOf (intKind prog w) a S n) (hb : s.heap.SetOf (intKind prog w) b S' n) (hr : r = true ↔ ∀ k, S k = true → S' k = true) (hu : A.units < cLine) (h : Q (.bool r) s) :
    wpAny (model prog w) A (richCompare .Eq (.ref a) (.ref b)) Q E s := by
  refine wpAny_richCompare_same_room ha.typeIs hb.typeIs PySem.F.slot_set_eq (wpAny_call_entry PySem.F.slot_set_eq ha.typeIs entry_set_eq' ?_ (PySem.F.args_set_eq_2 _ _)) hu
  refine wpAny_bind (wpAny_of_eq (a := (Value.ref a, Value.ref b)) rfl ?_)
  refine wpAny_bind (isAnySet_ hb ?_)
  rw [if_neg (by decide)]
  refine wpAny_bind (wpAny_pure (wpAny_bind (wpAny_pure (wpAny_bind (sizeOf_ ha (wpAny_bind (sizeOf_ hb ?_)))))))
  dsimp only
  rw [if_neg (by simp)]
  refine wpAny_bind (wpAny_bind ?_)
  show wpAny _ _ (isInstance (.ref a) (.type "frozenset") >>= fun c => _) _ _ _
  refine wpAny_bind (wpAny_isInstance (T := "set") (b := false) ha.typeIs sub_set_fro ?_)
  refine wpAny_pure ?_
  rw [if_neg (by decide)]
  refine subsetOf_ ha hb (Nat.le_refl _) r hr ?_
  exact wpAny_pure ⟨_, rfl, by simp, h⟩
end

theorem setAny {prog prog' : Program} {w w' : World} {h : Heap} {a : Addr} {S : Int → Bool} {n : Nat} (x : h.SetOf (intKind prog w) a S n) : h.SetOf (intKind prog' w') a S n := x

open PySem.SeqAt in
theorem eqAtSet {A : Around} {s : Shared} {a b : Addr} {S S' : Int → Bool} {n : Nat} {prog : Program} {w : World} {r : Bool} (ha : s.heap.SetOf (intKind prog w) a S n) (hb : s.heap.SetOf (intKind prog w) b S' n) (hr : r = true ↔ ∀ k, S k = true → S' k = true) (hu : A.units < cLine) :
    EqAt A s (.ref a) (.ref b) r := by
  by_cases hab : a = b
  · subst hab
    have e : S = S' := by
      obtain ⟨o, es, ep, t, ho, hx, hd, hel, hmem, hlt, hf, hsz⟩ := ha
      obtain ⟨o', es', ep', t', ho', hx', hd', hel', hmem', hlt', hf', hsz'⟩ := hb
      rw [ho] at ho'; cases ho'; rw [hd] at hd'; cases hd'
      funext k
      have : S k = true ↔ S' k = true := (hmem k).trans (hmem' k).symm
      cases h1 : S k <;> cases h2 : S' k <;> simp_all
    have : r = true := hr.mpr fun k hk => by rw [← e]; exact hk
    rw [this]; exact EqAt.same _
  · exact EqAt.of_refs hab fun prog' w' E Q hq => rcSet (setAny (prog' := prog') (w' := w') ha) (setAny hb) hr hu hq

section
variable {prog : Program} {w : World} {A : Around} {E : Value → Shared → Prop} {s : Shared} {env : Env}

theorem inMain_ {Q : Bool → Shared → Prop} (hc : ∃ c o vs, env.code = .ref c ∧ s.heap.get? c = some o ∧ o.data = .fields vs) (h : ∀ b, Q b s) : wpAny (model prog w) A (inMainModule env) Q E s := by
  obtain ⟨c, o, vs, e, ho, hd⟩ := hc
  unfold inMainModule
  try dsimp only
  rw [e]
  split
  · exact wpAny_pure (h _)
  · refine wpAny_bind (wpAny_fieldsOf ho hd ?_)
    split
    · exact wpAny_bind (wpAny_askSetting (wpAny_pure (h _)))
    · exact wpAny_pure (h _)

theorem setAdd_ {a : Addr} {S : Int → Bool} {n : Nat} {k : Int} {t : Tok} {Q : Bool → Shared → Prop} (hS : s.heap.SetOf (intKind prog w) a S n) (hb : n + 1 < scanBound)
    (h : ∀ s', ExL a s s' → s'.heap.SetOf (intKind prog w) a (fun k' => S k' || decide (k' = k)) (if S k then n else n + 1) → Q (!S k) s') : wpAny (model prog w) A (setAdd a (.int k t)) Q E s := by
  unfold setAdd
  refine wpAny_holding (wpAny_bind ((intKind prog w).pyHash (k := k) (by simp [intKind, Value.isInt]) ?_))
  refine wpAny_setAddHashed_of (s := { s with toks := s.toks + 1 }) (by simp [intKind, Value.isInt]) rfl hS hb fun h' hsb hS' => h _ ⟨fun b o n e => (hsb.2 b n).trans e, rfl, rfl⟩ hS'

/-- «{a, b}» of two ints -/
theorem setLit2 {e1 e2 : Expr} {pos : Pos} {n1 n2 : Int} {Q : Value → Shared → Prop} (hc : ∃ c o vs, env.code = .ref c ∧ s.heap.get? c = some o ∧ o.data = .fields vs) (hne : n1 ≠ n2)
    (h1 : ∀ s₁, Grow s s₁ → wpAny (model prog w) A (eval e1 env) (fun v s₂ => Grow s₁ s₂ ∧ ∃ t, v = .int n1 t) E s₁)
    (h2 : ∀ s₁, Grow s s₁ → wpAny (model prog w) A (eval e2 env) (fun v s₂ => Grow s₁ s₂ ∧ ∃ t, v = .int n2 t) E s₁)
    (hQ : ∀ s' D, Grow s s' → s.heap.get? D = none → s'.heap.SetOf (intKind prog w) D (fun k => decide (k = n1) || decide (k = n2)) 2 → Q (.ref D) s')
    (hp : [e1, e2].all kdsPlain = true := by rfl) :
    wpAny (model prog w) A (eval (.Set [e1, e2] 0 pos) env) Q E s := by
  rw [arm_eval_Set]
  refine wpAny_bind (wpAny_standAt ?_)
  refine wpAny_bind (inMain_ hc fun b => ?_)
  rw [kds_star _ hp, List.map_map]
  refine kds_core (ts := (evalEach [e1, e2] env).map fun t => do let v ← t; standAt pos; pure v) rfl ?_ ?_ ?_ fun led => ?_
  · refine List.findIdx?_eq_none_iff.mpr fun x hx => ?_
    obtain ⟨t, _, rfl⟩ := List.mem_map.mp hx
    rfl
  · rw [List.length_map, kds_len]; simp
  · rw [List.map_map]; try rfl
  · refine kds_all pos [e1, e2] _ _ ?_
    have g0 : Grow s { s with heap := s.heap.push { cls := .type "set", dict := none, data := .set #[] 0 (.fresh 0 0 led) } } := ⟨fun _ _ e => Heap.get?_push_of_some _ e, rfl, rfl⟩
    have S0 : (s.heap.push { cls := .type "set", dict := none, data := .set #[] 0 (.fresh 0 0 led) }).SetOf (intKind prog w) s.heap.objs.size (fun _ => false) 0 :=
      ⟨_, #[], 0, _, Heap.get?_push_size _ rfl, ⟨rfl, rfl, rfl⟩, rfl, fun e he => by simp at he, fun k => by simp, by decide, by rfl, rfl⟩
    refine wpAny_mono (h1 _ g0) (fun v s₁ ⟨g1, t1, e1⟩ => wpAny_mono (h2 s₁ (g0.trans g1)) (fun u s₂ ⟨g2, t2, e2⟩ => ?_) fun _ _ q => q) fun _ _ q => q
    subst e1 e2
    have keepSet : ∀ {h h' : Heap} {a : Addr} {S : Int → Bool} {n : Nat}, h.SetOf (intKind prog w) a S n → (∀ b o, h.get? b = some o → h'.get? b = some o) → h'.SetOf (intKind prog w) a S n := by
      rintro h h' a S n ⟨o, es, ep, t, ho, r⟩ k
      exact ⟨o, es, ep, t, k _ _ ho, r⟩
    have S2 := keepSet (keepSet S0 g1.keep) g2.keep
    refine kds_fill_cons (setAdd_ S2 (by decide) fun s₃ x₃ S3 => kds_fill_cons (setAdd_ S3 (by decide) fun s₄ x₄ S4 => kds_fill_nil rfl ?_))
    have nD : s.heap.get? s.heap.objs.size = none := Heap.get?_none_of_le (Nat.le_refl _)
    have g := g0.trans (g1.trans g2)
    refine hQ s₄ _ ⟨fun b o e => ?_, x₄.os.trans (x₃.os.trans g.os), x₄.gens.trans (x₃.gens.trans g.gens)⟩ nD ?_
    · have nb : b ≠ s.heap.objs.size := fun q => by rw [q, nD] at e; cases e
      exact x₄.keep b o nb (x₃.keep b o nb (g.keep b o e))
    · have e : (if (false || decide (n2 = n1)) = true then (if (false : Bool) = true then 0 else 0 + 1) else (if (false : Bool) = true then 0 else 0 + 1) + 1) = 2 := by
        rw [if_neg (by simpa using fun q => hne q.symm)]; rfl
      have f : (fun k' : Int => (fun k' => (false || decide (k' = n1))) k' || decide (k' = n2)) = fun k => decide (k = n1) || decide (k = n2) := by funext k; simp
      rw [e, f] at S4
      exact S4
end

/-- e is the int n at s -/
def EvI (prog : Program) (w : World) (A : Around) (env : Env) (e : Expr) (n : Int) (s : Shared) : Prop := wpAny (model prog w) A (eval e env) (fun v s' => Grow s s' ∧ ∃ t, v = .int n t) No s

section
variable {prog : Program} {w : World} {A : Around} {E : Value → Shared → Prop} {s : Shared} {env : Env} {e e1 e2 : Expr} {a b n : Int} {pos : Pos} {m : Str → Option Value}

theorem EvI.use {Q : Value → Shared → Prop} (h : EvI prog w A env e n s) (hQ : ∀ s' t, Grow s s' → Q (.int n t) s') : wpAny (model prog w) A (eval e env) Q E s :=
  wpAny_mono h (fun v s' ⟨g, t, q⟩ => by rw [q]; exact hQ s' t g) fun _ _ q => q.elim
theorem EvI.const {k : Nat} : EvI prog w A env (.Constant (.int n) k pos) n s := wpAny_Constant_int ⟨Grow.toks _ _, _, rfl⟩
theorem EvI.name {x : Str} {t : Tok} (hn : s.heap.Ns env.locals m) (hv : m x = some (.int n t))
    (hk : env.scope.kind = .function := by rfl) (hl : env.kindOf x = some .local := by rfl) (hd : (x == ("__debug__" : Str)) = false := by decide) : EvI prog w A env (.Name x pos) n s :=
  ldE hn hv ⟨.refl _, t, rfl⟩ hk hl hd
theorem EvI.neg (h : EvI prog w A env e n s) : EvI prog w A env (.UnaryOp .USub e pos) (-n) s :=
  wpAny_UnaryOp (h.use fun s' t g => PySem.P.neg_int ⟨g.trans (Grow.toks _ _), _, rfl⟩)
theorem EvI.sub (h1 : EvI prog w A env e1 a s) (h2 : ∀ s', Grow s s' → EvI prog w A env e2 b s') : EvI prog w A env (.BinOp e1 .Sub e2 pos) (a - b) s :=
  wpAny_BinOp (h1.use fun s₁ t g => (h2 s₁ g).use fun s₂ u g' => PySem.P.sub_int ⟨(g.trans g').trans (Grow.toks _ _), _, rfl⟩)
theorem EvI.add (h1 : EvI prog w A env e1 a s) (h2 : ∀ s', Grow s s' → EvI prog w A env e2 b s') : EvI prog w A env (.BinOp e1 .Add e2 pos) (a + b) s :=
  wpAny_BinOp (h1.use fun s₁ t g => (h2 s₁ g).use fun s₂ u g' => PySem.P.add_int ⟨(g.trans g').trans (Grow.toks _ _), _, rfl⟩)
theorem EvI.mod {k : Nat} {p : Pos} (h1 : EvI prog w A env e1 a s) (hb : b ≠ 0) : EvI prog w A env (.BinOp e1 .Mod (.Constant (.int b) k p) pos) (a.fmod b) s :=
  wpAny_BinOp (h1.use fun s₁ t g => (EvI.const (s := s₁)).use fun s₂ u g' => mod_int' hb ⟨(g.trans g').trans (Grow.toks _ _), _, rfl⟩)
theorem EvI.div {k : Nat} {p : Pos} (h1 : EvI prog w A env e1 a s) (hb : b ≠ 0) (hs : b.natAbs < 1073741824) : EvI prog w A env (.BinOp e1 .FloorDiv (.Constant (.int b) k p) pos) (a.fdiv b) s :=
  wpAny_BinOp (h1.use fun s₁ t g => (EvI.const (s := s₁)).use fun s₂ u g' => floordiv_int hb ⟨(g.trans g').trans (Grow.toks _ _), _, rfl⟩ (.inl (PyProof.noPylong_small hs)))
theorem EvI.max {x : Str} {p p1 : Pos} (hh : A.handled = none) (hb : wpAny (model prog w) A (eval (.Name x p) env) (fun v s' => v = .builtin "max" ∧ s' = s) No s)
    (h1 : EvI prog w A env e1 a s) (h2 : ∀ s', Grow s s' → EvI prog w A env e2 b s')
    (hc : eval (.Call (.Name x p) [e1, e2] [] p1) env = (do callWith p1 (← eval (.Name x p) env) [] (backTo p1 (starEach [e1, e2] env)) (backToKw p1 (keywordEach [] env))) := by rfl)
    (q1 : starEach [e1, e2] env = (false, eval e1 env) :: starEach [e2] env := by rfl) (q2 : starEach [e2] env = (false, eval e2 env) :: starEach [] env := by rfl) :
    EvI prog w A env (.Call (.Name x p) [e1, e2] [] p1) (if b > a then b else a) s := by
  refine Call_ (wpAny_mono hb (fun v s' ⟨q, q'⟩ => ?_) fun _ _ q => q) hc
  subst q q'
  refine callWith_builtin1 (spliced_more (h1.use fun s₁ t g => spliced_more ((h2 s₁ g).use fun s₂ u g' => spliced_none ?_) q2) q1) q1 (by rw [q2]; rfl)
  refine max_two_ints hh fun h' tk k => ?_
  have g2 : Grow s' { s₂ with heap := h', toks := tk } := ⟨fun c o e => k c o (g'.keep c o (g.keep c o e)), g'.os.trans g.os, g'.gens.trans g.gens⟩
  by_cases hc : b > a
  · rw [if_pos hc, if_pos hc]; exact ⟨g2, _, rfl⟩
  · rw [if_neg hc, if_neg hc]; exact ⟨g2, _, rfl⟩
end

theorem All2.mono {α β : Type} {R R' : α → β → Prop} {as : List α} {bs : List β} (h : All2 R as bs) (k : ∀ a b, a ∈ as → R a b → R' a b) : All2 R' as bs := by
  induction h with
  | nil => exact .nil
  | cons r _ ih => exact .cons (k _ _ (.head _) r) (ih fun a b ha => k a b (.tail _ ha))
theorem All2.snoc {α β : Type} {R : α → β → Prop} {as : List α} {bs : List β} {b : β} (h : All2 R as (bs ++ [b])) : ∃ as' a, as = as' ++ [a] ∧ All2 R as' bs ∧ R a b := by
  induction bs generalizing as with
  | nil =>
    cases h with
    | cons r q => cases q; exact ⟨[], _, rfl, .nil, r⟩
  | cons c bs ih =>
    cases h with
    | cons r q =>
      obtain ⟨as', a, rfl, h1, h2⟩ := ih q
      exact ⟨_ :: as', a, rfl, .cons r h1, h2⟩

theorem flat_sub {γ : Type} {X Y : List (List γ)} (h : X.Sublist Y) : X.flatten.length ≤ Y.flatten.length := by
  induction h with
  | slnil => exact Nat.le_refl _
  | cons a _ ih => simp only [List.flatten_cons, List.length_append]; omega
  | cons_cons a _ ih => simp only [List.flatten_cons, List.length_append]; omega
theorem flat_le {γ : Type} (X : List (List γ)) (p : List γ → Bool) (k : Nat) (hk : k < X.length) : ((X.take k).filter p).flatten.length + X[k].length ≤ X.flatten.length := by
  have e : (X.take k ++ [X[k]]).Sublist X := by
    rw [← List.take_succ_eq_append_getElem hk]; exact List.take_sublist _ _
  have e' : ((X.take k).filter p ++ [X[k]]).Sublist X := ((List.filter_sublist).append (List.Sublist.refl _)).trans e
  have := flat_sub e'
  simpa using this

section
variable {prog : Program} {w : World} {A : Around} {E : Value → Shared → Prop} {s : Shared} {env : Env} {γ : Type}

/-- rows: lists that stand in h -/
def RL (RB : Value → γ → Prop) (h : Heap) (v : Value) (a : List γ) : Prop := ∃ c vs n, v = .ref c ∧ h.get? c = some (listOf vs.toArray n) ∧ All2 RB vs a

/-- the walk of «[y for x in .. if .. for y in x]» -/
theorem listComp2U {RB : Value → γ → Prop} {X : List (List γ)} {p : List γ → Bool} {iter : Expr} {x y : Str} {px py q1 q2 : Pos} {ifs : List Expr} {scope : Scope} {pos ip : Pos} {cl : List (Str × Addr)} {use : Option (Value → Sem Unit)} {Q : Value → Shared → Prop}
    (hs : ∀ z, foldedSetIterable iter env z = pure z) (hs' : ∀ Lc z, foldedSetIterable (.Name x q2) (compEnv scope env Lc cl) z = pure z) (hclos : closureFor scope env = pure cl) (hcell : ∀ y ∈ scope.names, y.2 ≠ .cell) (hkind : scope.kind = .function)
    (hnames : ∀ y ∈ scope.names, y.2 = .local → (compScope scope env).names.lookup y.1 = some .local) (hx : (compScope scope env).names.lookup x = some .local) (hy : (compScope scope env).names.lookup y = some .local)
    (dx : (x == ("__debug__" : Str)) = false) (dy : (y == ("__debug__" : Str)) = false)
    (hh : A.handled = none) (plain : ∀ u b, RB u b → rf u = [])
    (hsrc : wpAny (model prog w) A (eval iter env) (fun y s₁ => wpAny (model prog w) A (pyIter y) (fun itv s₂ => ∃ it fp V P, itv = .ref it ∧ Src prog w s s₂ (RL RB s.heap) X it fp V P) E s₁) E s) (hz : X.flatten.length < 1000000)
    (hcond : ∀ v a s₁ Lc m, Grow s s₁ → RL RB s.heap v a → s₁.heap.Ns Lc m → m x = some v → wpAny (model prog w) A (conds ifs (compEnv scope env Lc cl)) (fun ok s₂ => Grow s₁ s₂ ∧ ok = p a) No s₁)
    (hQ : ∀ s' Lc D us j, Grow s s' → s.heap.get? D = none → s.heap.get? Lc = none → Lc ≠ D → (∃ m, s'.heap.Ns Lc m) → s'.heap.get? D = some (listOf us.toArray j) → All2 RB us (X.filter p).flatten → UseOk prog w A E use Q Lc (.ref D) s') :
    wpAny (model prog w) A (comprehension (.ListComp (.Name y q1) [⟨.Name x px, iter, ifs, 0⟩, ⟨.Name y py, .Name x q2, [], 0⟩] scope pos) scope env ip (newList []) false (eval iter env) use) Q E s := by
  refine comprehension_ (g := ⟨.Name x px, iter, ifs, 0⟩) (gs := [⟨.Name y py, .Name x q2, [], 0⟩]) rfl hs hclos hcell hkind hnames (wpAny_mono hsrc (fun yv s₁ h₁ => wpAny_mono h₁ (fun itv s₂ h₂ => ?_) fun _ _ q => q) fun _ _ q => q)
  obtain ⟨it, fp, V, P, rfl, S⟩ := h₂
  refine newList_ fun s₃ D g₃ gD nD => ?_
  intro s₄ Lc g₄ nL hns
  have keepS : ∀ {a : Addr}, s₂.heap.get? a = none → s.heap.get? a = none := fun {a} q => by
    cases e : s.heap.get? a with
    | none => rfl
    | some o => rw [S.g.keep _ _ e] at q; cases q
  have nL₂ : s₂.heap.get? Lc = none := by
    cases e : s₂.heap.get? Lc with
    | none => rfl
    | some o => rw [g₃.keep _ _ e] at nL; cases nL
  have LD : Lc ≠ D := fun q => by rw [q, gD] at nL; cases nL
  have nDs := keepS nD
  have nLs := keepS nL₂
  have fD : D ∉ fp := fun q => S.fp _ q nD
  have fL : Lc ∉ fp := fun q => S.fp _ q nL₂
  have iD : it ≠ D := fun q => fD (q ▸ S.D.mem)
  have iL : it ≠ Lc := fun q => fL (q ▸ S.D.mem)
  have hg : ([⟨.Name x px, iter, ifs, 0⟩, ⟨.Name y py, .Name x q2, [], 0⟩] : List Comprehension)[0]? = some ⟨.Name x px, iter, ifs, 0⟩ := rfl
  have hg1 : ([⟨.Name x px, iter, ifs, 0⟩, ⟨.Name y py, .Name x q2, [], 0⟩] : List Comprehension)[1]? = some ⟨.Name y py, .Name x q2, [], 0⟩ := rfl
  have gs₄ : Grow s s₄ := S.g.trans (g₃.trans g₄)
  have fp₄ : ∀ b ∈ fp, s₄.heap.get? b ≠ none := fun b hb q => by
    cases e : s₂.heap.get? b with
    | none => exact S.fp b hb e
    | some o => rw [g₄.keep _ _ (g₃.keep _ _ e)] at q; cases q
  refine compStart_ hg rfl S.D (S.D.keep S.p0 fun b _ o e => g₄.keep b o (g₃.keep b o e)) ?_
  refine compInner hg hg1 (hs' Lc) S.D hh (S.D.keep S.p0 fun b _ o e => g₄.keep b o (g₃.keep b o e))
    (fun k s₁ => (∀ b o, b ≠ it → b ≠ Lc → b ≠ D → s₄.heap.get? b = some o → s₁.heap.get? b = some o) ∧ s₁.os = s₄.os ∧ s₁.gens = s₄.gens ∧ (∃ m, s₁.heap.Ns Lc m) ∧
      ∃ us j, s₁.heap.get? D = some (listOf us.toArray j) ∧ All2 RB us ((X.take k).filter p).flatten) ?_ ?_ ?_ ?_
  · rintro k s₁ s₂ ⟨h1, h2, h3, ⟨m, o, es, ep, ho, r⟩, us, j, h5, h6⟩ g
    exact ⟨fun b o n1 n2 n3 e => g.keep b o n1 (h1 b o n1 n2 n3 e), g.os.trans h2, g.gens.trans h3, ⟨m, o, es, ep, g.keep _ _ (Ne.symm iL) ho, r⟩, us, j, g.keep _ _ (Ne.symm iD) h5, h6⟩
  · exact ⟨fun b o _ _ _ e => e, rfl, rfl, ⟨_, hns⟩, [], 0, g₄.keep _ _ gD, by simpa using All2.nil⟩
  · rintro k v s₁ hkn hv hp ⟨h1, h2, h3, ⟨m, h4⟩, us, j, h5, h6⟩
    have ra := S.ra k v hkn hv
    have git := S.D.there hp
    have tk : X.take (k + 1) = X.take k ++ [X[k]] := by rw [List.take_succ_eq_append_getElem hkn]
    refine stE (env := compEnv scope env Lc cl) h4 (fun s₂ hn₂ g₂ => ?_) hkind hx
    have g₂' : ExL Lc s₁ s₂ := g₂
    have gs₂ : Grow s s₂ := by
      refine ⟨fun b o e => g₂'.keep b o (fun q => by rw [q, nLs] at e; cases e) (h1 b o (fun q => by rw [q, S.ni] at e; cases e) (fun q => by rw [q, nLs] at e; cases e) (fun q => by rw [q, nDs] at e; cases e) (gs₄.keep b o e)), ?_, ?_⟩
      · exact g₂.os.trans (h2.trans gs₄.os)
      · exact g₂.gens.trans (h3.trans gs₄.gens)
    refine wpAny_mono (hcond v X[k] s₂ Lc _ gs₂ ra hn₂ upd_same) (fun ok s₃ h₃ => ?_) fun _ _ q => q
    obtain ⟨g₃', rfl⟩ := h₃
    have e₁₃ : ExL Lc s₁ s₃ := g₂'.trans g₃'.exL
    cases hpk : p X[k] with
    | false =>
      rw [if_neg (by decide)]
      refine ⟨fun b hb o e => e₁₃.keep b o (fun q => fL (q ▸ hb)) e, fun b o n1 n2 n3 e => e₁₃.keep b o n2 (h1 b o n1 n2 n3 e), e₁₃.os.trans h2, e₁₃.gens.trans h3, ⟨_, hn₂.keeps g₃'.keep⟩, us, j, e₁₃.keep _ _ (Ne.symm LD) h5, ?_⟩
      rw [tk, List.filter_append]
      have : [X[k]].filter p = [] := by simp [hpk]
      rw [this, List.append_nil]; exact h6
    | true =>
      rw [if_pos rfl]
      have hn₃ := hn₂.keeps g₃'.keep
      refine ldE (env := compEnv scope env Lc cl) hn₃ upd_same ?_ hkind hx dx
      obtain ⟨c, vs, n, rfl, hc, hav⟩ := ra
      have gs₃ := gs₂.trans g₃'
      have hc₃ := gs₃.keep _ _ hc
      refine pyIterList hc₃ fun s₅ it' g₅ ni' nil' st' => ?_
      have D' := iterList (prog := prog) (w := w) (vs := vs) nil'
      refine compStart_ hg1 rfl D' st' ?_
      have el := hav.length
      have lt := flat_le X p k hkn
      have h5' := g₅.keep _ _ (e₁₃.keep _ _ (Ne.symm LD) h5)
      have hcD : c ≠ D := fun q => by rw [q, nDs] at hc; cases hc
      have hcL : c ≠ Lc := fun q => by rw [q, nLs] at hc; cases hc
      have iD' : it' ≠ D := fun q => by rw [q, e₁₃.keep _ _ (Ne.symm LD) h5] at ni'; cases ni'
      have iL' : it' ≠ Lc := fun q => by
        obtain ⟨o, _, _, ho, _⟩ := hn₃
        rw [q] at ni'; rw [show s₃.heap.get? Lc = some o from ho] at ni'; cases ni'
      have ni : s.heap.get? it' = none := by
        cases q : s.heap.get? it' with
        | none => rfl
        | some o => rw [gs₃.keep _ _ q] at ni'; cases ni'
      have S' : Src prog w s s₅ RB X[k] it' [it', c] (fun k v => vs[k]? = some v) (fun k h => h.IsListIter it' c k ∧ h.IsList c vs.toArray) := by
        refine ⟨by rw [← el]; exact D', st', gs₃.trans g₅, ni, D'.there st', ?_, fun i u hi hu => ?_⟩
        · intro b hb q
          rcases List.mem_cons.mp hb with rfl | hb
          · exact D'.there st' q
          · rw [List.mem_singleton.mp hb, g₅.keep _ _ hc₃] at q; cases q
        · have hk' : i < vs.length := by omega
          have : u = vs[i] := by rw [List.getElem?_eq_getElem hk'] at hu; exact (Option.some.inj hu).symm
          rw [this]
          exact hav.get i hk' hi
      refine compWalk (s := s) (s₂ := s₅) (s₃ := s₅) (s₄ := s₅) (us₀ := us) (RO := fun u b _ => RB u b) (X := X[k]) (p := fun _ => true) (f := fun b => b) (Lc := Lc) hg1 rfl hh (fun _ _ _ _ r _ => r) S' (.refl _) nDs nLs ?_ ?_ LD rfl ⟨_, hn₃.keeps g₅.keep⟩ ⟨j, h5'⟩ h6 ?_ ?_ hkind hy ?_ ?_ ?_
      · intro q
        rcases List.mem_cons.mp q with q | q
        · exact iD' q.symm
        · exact hcD (List.mem_singleton.mp q).symm
      · intro q
        rcases List.mem_cons.mp q with q | q
        · exact iL' q.symm
        · exact hcL (List.mem_singleton.mp q).symm
      · intro u hu c hc
        have : ∀ {us : List Value} {bs : List γ}, All2 RB us bs → ∀ u ∈ us, rf u = [] := by
          intro us bs h
          induction h with
          | nil => intro u hu; cases hu
          | cons r _ ih =>
            intro u hu
            rcases List.mem_cons.mp hu with rfl | hu
            · exact plain _ _ r
            · exact ih u hu
        rw [this h6 u hu] at hc; cases hc
      · rw [h6.length]; omega
      · intro v a s₁ m' _ _ _ _
        exact conds_nil ⟨.refl _, rfl⟩
      · intro v a s₁ m' g' rv _ hn' hv'
        refine ldE (env := compEnv scope env Lc cl) hn' hv' ⟨.refl _, rv, fun c hc => ?_⟩ hkind hy dy
        rw [plain _ _ rv] at hc; cases hc
      · intro s' us' j' k1 k2 k3 hm hD ha _ _
        have g15 : ∀ b o, b ≠ Lc → s₁.heap.get? b = some o → s₅.heap.get? b = some o := fun b o n e => g₅.keep b o (e₁₃.keep b o n e)
        have ni1 : ∀ b o, b ≠ Lc → s₁.heap.get? b = some o → b ≠ it' := fun b o n e q => by
          have := e₁₃.keep b o n e
          rw [q, ni'] at this; cases this
        refine ⟨⟨_, rfl⟩, fun b hb o e => ?_, fun b o n1 n2 n3 e => ?_, k2.trans (g₅.os.trans (e₁₃.os.trans h2)), k3.trans (g₅.gens.trans (e₁₃.gens.trans h3)), hm, us', j', hD, ?_⟩
        · have nb : b ≠ Lc := fun q => fL (q ▸ hb)
          exact k1 b o (ni1 b o nb e) nb (fun q => fD (q ▸ hb)) (g15 b o nb e)
        · have e1 := h1 b o n1 n2 n3 e
          exact k1 b o (ni1 b o n2 e1) n2 n3 (g15 b o n2 e1)
        · rw [tk, List.filter_append, List.flatten_append]
          have q1 : [X[k]].filter p = [X[k]] := by simp [hpk]
          rw [q1]
          have q2 : (X[k].filter fun _ => true).map (fun b => b) = [X[k]].flatten := by simp
          rw [q2] at ha; exact ha
  · rintro s' ⟨h1, h2, h3, hm, us, j, h5, h6⟩
    rw [List.take_length] at h6
    have gs : Grow s s' := ⟨fun b o e => h1 b o (fun q => by rw [q, S.ni] at e; cases e) (fun q => by rw [q, nLs] at e; cases e) (fun q => by rw [q, nDs] at e; cases e) (gs₄.keep b o e), h2.trans gs₄.os, h3.trans gs₄.gens⟩
    exact ⟨⟨_, rfl⟩, hm, hQ s' Lc D us j gs nDs nLs LD hm h5 h6⟩

/-- «[y for x in .. if .. for y in x]» as a value -/
theorem listComp2 {RB : Value → γ → Prop} {X : List (List γ)} {p : List γ → Bool} {iter : Expr} {x y : Str} {px py q1 q2 : Pos} {ifs : List Expr} {scope : Scope} {pos : Pos} {cl : List (Str × Addr)} {Q : Value → Shared → Prop}
    (hh : A.handled = none) (plain : ∀ u b, RB u b → rf u = [])
    (hsrc : wpAny (model prog w) A (eval iter env) (fun y s₁ => wpAny (model prog w) A (pyIter y) (fun itv s₂ => ∃ it fp V P, itv = .ref it ∧ Src prog w s s₂ (RL RB s.heap) X it fp V P) E s₁) E s) (hz : X.flatten.length < 1000000)
    (hcond : ∀ v a s₁ Lc m, Grow s s₁ → RL RB s.heap v a → s₁.heap.Ns Lc m → m x = some v → wpAny (model prog w) A (conds ifs (compEnv scope env Lc cl)) (fun ok s₂ => Grow s₁ s₂ ∧ ok = p a) No s₁)
    (hQ : ∀ s' D us j, Grow s s' → s.heap.get? D = none → s'.heap.get? D = some (listOf us.toArray j) → All2 RB us (X.filter p).flatten → Q (.ref D) s')
    (hs : ∀ z, foldedSetIterable iter env z = pure z := by intro _; rfl) (hs' : ∀ Lc z, foldedSetIterable (.Name x q2) (compEnv scope env Lc cl) z = pure z := by intro _ _; rfl) (hclos : closureFor scope env = pure cl := by rfl) (hcell : ∀ y ∈ scope.names, y.2 ≠ .cell := by decide) (hkind : scope.kind = .function := by rfl)
    (hnames : (scope.names.all fun y => y.2 != .local || (compScope scope env).names.lookup y.1 == some .local) = true := by rfl) (hx : (compScope scope env).names.lookup x = some .local := by rfl) (hy : (compScope scope env).names.lookup y = some .local := by rfl)
    (dx : (x == ("__debug__" : Str)) = false := by decide) (dy : (y == ("__debug__" : Str)) = false := by decide) :
    wpAny (model prog w) A (eval (.ListComp (.Name y q1) [⟨.Name x px, iter, ifs, 0⟩, ⟨.Name y py, .Name x q2, [], 0⟩] scope pos) env) Q E s := by
  rw [eval_ListComp]
  refine listComp2U (use := none) hs hs' hclos hcell hkind (namesOk hnames) hx hy dx dy hh plain hsrc hz hcond fun s' Lc D us j g nD nL LD hm hD ha => ?_
  intro s'' e
  exact hQ s'' D us j ⟨fun b o q => e.keep b o (fun q' => by rw [q', nL] at q; cases q) (g.keep b o q), e.os.trans g.os, e.gens.trans g.gens⟩ nD (e.keep _ _ (Ne.symm LD) hD) ha
end

section
variable {prog : Program} {w : World} {A : Around} {E : Value → Shared → Prop} {s : Shared} {name : Str} {fscope : Scope} {L a : Addr} {cd : Value} {base : Heap} {m : Str → Option Value} {α β γ : Type}

/-- «y = [..]» -/
theorem assignU {y : Str} {py spos pos : Pos} {elt : Expr} {g : Comprehension} {gs : List Comprehension} {scope : Scope} {env : Env} {Q : Flow → Shared → Prop} (ga : g.is_async = 0)
    (h : ∀ ip, wpAny (model prog w) A (comprehension (.ListComp elt (g :: gs) scope pos) scope env ip (newList []) false (eval g.iter env) (some (assign (.Name y py) env))) (fun _ s' => Q .next s') E s)
    (hsw : swapsWith (.ListComp elt (g :: gs) scope pos) (some (.Name y py)) spos.line env = pure true := by rfl) :
    wpAny (model prog w) A (exec (.Assign [.Name y py] (.ListComp elt (g :: gs) scope pos) spos) env) Q E s := by
  rw [exec_Assign_Name_used _ _ _ _ hsw]
  refine wpAny_bind (wpAny_standAt (wpAny_bind ?_))
  obtain ⟨t, it, ifs, as⟩ := g
  obtain rfl : as = 0 := ga
  show wpAny _ A (do let _ ← comprehension (.ListComp elt (⟨t, it, ifs, 0⟩ :: gs) scope pos) scope env _ (newList []) false (eval it env) (some (assign (.Name y py) env))) _ _ s
  exact wpAny_bind (wpAny_mono (h _) (fun _ s' hq => wpAny_pure (wpAny_pure hq)) fun _ _ e => e)

theorem useAssign {y : Str} {py : Pos} {Lc D : Addr} {s' : Shared} {Q : Value → Shared → Prop} (F : Fr base L s.heap m) (g : Grow s s') (nL : s.heap.get? Lc = none) (hm : ∃ m, s'.heap.Ns Lc m)
    (h : ∀ s₃, Fr base L s₃.heap (upd m y (.ref D)) → ExL L s s₃ → (∀ b o, b ≠ L → b ≠ Lc → s'.heap.get? b = some o → s₃.heap.get? b = some o) → Q .none s₃)
    (hk : fscope.kind = .function) (hl : (envOf name fscope L a cd).kindOf y = some .local) : UseOk prog w A E (some (assign (.Name y py) (envOf name fscope L a cd))) Q Lc (.ref D) s' := by
  have LL : Lc ≠ L := fun q => by
    obtain ⟨o, _, _, e, _⟩ := F.ns
    rw [← q, nL] at e; cases e
  have bL : base.get? Lc = none := by
    cases q : base.get? Lc with
    | none => rfl
    | some o => rw [F.keep _ _ q] at nL; cases nL
  show wpAny _ A (assign (.Name y py) (envOf name fscope L a cd) (.ref D)) _ _ _
  refine wpAny_assign_Name (st_ (frGrow F g) (fun s₂ F₂ g₂ => ⟨?_, fun s₃ g₃ => h s₃ (frExL F₂ g₃ (Ne.symm LL) bL) ?_ fun b o n1 n2 e => g₃.keep b o n2 (g₂.keep b o n1 e)⟩) hk hl)
  · obtain ⟨m', o, es, ep, ho, r⟩ := hm
    exact ⟨m', o, es, ep, g₂.keep _ _ LL ho, r⟩
  · exact ⟨fun b o n e => g₃.keep b o (fun q => by rw [q, nL] at e; cases e) (g₂.keep b o n (g.keep b o e)), g₃.os.trans (g₂.os.trans g.os), g₃.gens.trans (g₂.gens.trans g.gens)⟩

theorem assignComp2 {RB : Value → γ → Prop} {X : List (List γ)} {p : List γ → Bool} {iter : Expr} {x y z : Str} {px py pz spos q1 q2 : Pos} {ifs : List Expr} {scope : Scope} {pos : Pos} {cl : List (Str × Addr)} {Q : Flow → Shared → Prop} (F : Fr base L s.heap m)
    (hh : A.handled = none) (plain : ∀ u b, RB u b → rf u = [])
    (hsrc : wpAny (model prog w) A (eval iter (envOf name fscope L a cd)) (fun y s₁ => wpAny (model prog w) A (pyIter y) (fun itv s₂ => ∃ it fp V P, itv = .ref it ∧ Src prog w s s₂ (RL RB s.heap) X it fp V P) E s₁) E s) (hz : X.flatten.length < 1000000)
    (hcond : ∀ v a' s₁ Lc m', Grow s s₁ → RL RB s.heap v a' → s₁.heap.Ns Lc m' → m' x = some v → wpAny (model prog w) A (conds ifs (compEnv scope (envOf name fscope L a cd) Lc cl)) (fun ok s₂ => Grow s₁ s₂ ∧ ok = p a') No s₁)
    (hQ : ∀ s' D us j, Fr base L s'.heap (upd m z (.ref D)) → ExL L s s' → s.heap.get? D = none → s'.heap.get? D = some (listOf us.toArray j) → All2 RB us (X.filter p).flatten → Q .next s')
    (hsw : swapsWith (.ListComp (.Name y q1) [⟨.Name x px, iter, ifs, 0⟩, ⟨.Name y py, .Name x q2, [], 0⟩] scope pos) (some (.Name z pz)) spos.line (envOf name fscope L a cd) = pure true := by rfl)
    (hk : fscope.kind = .function := by rfl) (hl : (envOf name fscope L a cd).kindOf z = some .local := by rfl)
    (hs : ∀ z, foldedSetIterable iter (envOf name fscope L a cd) z = pure z := by intro _; rfl) (hs' : ∀ Lc z, foldedSetIterable (.Name x q2) (compEnv scope (envOf name fscope L a cd) Lc cl) z = pure z := by intro _ _; rfl) (hclos : closureFor scope (envOf name fscope L a cd) = pure cl := by rfl) (hcell : ∀ y ∈ scope.names, y.2 ≠ .cell := by decide) (hkind : scope.kind = .function := by rfl)
    (hnames : (scope.names.all fun y => y.2 != .local || (compScope scope (envOf name fscope L a cd)).names.lookup y.1 == some .local) = true := by rfl) (hx : (compScope scope (envOf name fscope L a cd)).names.lookup x = some .local := by rfl) (hy : (compScope scope (envOf name fscope L a cd)).names.lookup y = some .local := by rfl)
    (dx : (x == ("__debug__" : Str)) = false := by decide) (dy : (y == ("__debug__" : Str)) = false := by decide) :
    wpAny (model prog w) A (exec (.Assign [.Name z pz] (.ListComp (.Name y q1) [⟨.Name x px, iter, ifs, 0⟩, ⟨.Name y py, .Name x q2, [], 0⟩] scope pos) spos) (envOf name fscope L a cd)) Q E s := by
  refine assignU rfl (fun ip => ?_) hsw
  refine listComp2U hs hs' hclos hcell hkind (namesOk hnames) hx hy dx dy hh plain hsrc hz hcond fun s' Lc D us j g nD nL LD hm hD ha => ?_
  have DL : D ≠ L := fun q => by
    obtain ⟨o, _, _, e, _⟩ := F.ns
    rw [← q, nD] at e; cases e
  exact useAssign F g nL hm (fun s₃ F₃ g₃ k₃ => hQ s₃ D us j F₃ g₃ nD (k₃ _ _ DL (Ne.symm LD) hD) ha) hk hl

theorem assignComp1 {RA : Value → α → Prop} {RO : Value → β → Heap → Prop} {X : List α} {p : α → Bool} {f : α → β} {elt iter : Expr} {x z : Str} {px pz spos : Pos} {ifs : List Expr} {scope : Scope} {pos : Pos} {cl : List (Str × Addr)} {Q : Flow → Shared → Prop} (F : Fr base L s.heap m)
    (hh : A.handled = none)
    (mono : ∀ u b h h', RO u b h → (∀ c ∈ rf u, ∀ o, h.get? c = some o → h'.get? c = some o) → RO u b h') (nodict : ∀ u b h, RO u b h → ∀ c ∈ rf u, ∀ o es n, h.get? c = some o → o.data ≠ .dict es n)
    (hsrc : wpAny (model prog w) A (eval iter (envOf name fscope L a cd)) (fun y s₁ => wpAny (model prog w) A (pyIter y) (fun itv s₂ => ∃ it fp V P, itv = .ref it ∧ Src prog w s s₂ RA X it fp V P) E s₁) E s) (hz : X.length < 1000000)
    (hcond : ∀ v a' s₁ Lc m', Grow s s₁ → RA v a' → s₁.heap.Ns Lc m' → m' x = some v → wpAny (model prog w) A (conds ifs (compEnv scope (envOf name fscope L a cd) Lc cl)) (fun ok s₂ => Grow s₁ s₂ ∧ ok = p a') No s₁)
    (helt : ∀ v a' s₁ Lc m', Grow s s₁ → RA v a' → p a' = true → s₁.heap.Ns Lc m' → m' x = some v → wpAny (model prog w) A (eval elt (compEnv scope (envOf name fscope L a cd) Lc cl)) (fun u s₂ => Grow s₁ s₂ ∧ RO u (f a') s₂.heap ∧ ∀ c ∈ rf u, s₂.heap.get? c ≠ none ∧ (s₁.heap.get? c = none ∨ s.heap.get? c ≠ none)) No s₁)
    (hQ : ∀ s' D us j, Fr base L s'.heap (upd m z (.ref D)) → ExL L s s' → s.heap.get? D = none → s'.heap.get? D = some (listOf us.toArray j) → All2 (fun u b => RO u b s'.heap) us ((X.filter p).map f) → us.length ≤ X.length → (∀ u ∈ us, ∀ c ∈ rf u, s'.heap.get? c ≠ none ∧ c ≠ D ∧ c ≠ L) → Q .next s')
    (hsw : swapsWith (.ListComp elt [⟨.Name x px, iter, ifs, 0⟩] scope pos) (some (.Name z pz)) spos.line (envOf name fscope L a cd) = pure true := by rfl)
    (hk : fscope.kind = .function := by rfl) (hl : (envOf name fscope L a cd).kindOf z = some .local := by rfl)
    (hs : ∀ y, foldedSetIterable iter (envOf name fscope L a cd) y = pure y := by intro _; rfl) (hclos : closureFor scope (envOf name fscope L a cd) = pure cl := by rfl) (hcell : ∀ y ∈ scope.names, y.2 ≠ .cell := by decide) (hkind : scope.kind = .function := by rfl)
    (hnames : (scope.names.all fun y => y.2 != .local || (compScope scope (envOf name fscope L a cd)).names.lookup y.1 == some .local) = true := by rfl) (hx : (compScope scope (envOf name fscope L a cd)).names.lookup x = some .local := by rfl) :
    wpAny (model prog w) A (exec (.Assign [.Name z pz] (.ListComp elt [⟨.Name x px, iter, ifs, 0⟩] scope pos) spos) (envOf name fscope L a cd)) Q E s := by
  refine assignU rfl (fun ip => ?_) hsw
  refine listCompU hs hclos hcell hkind (namesOk hnames) hx hh mono hsrc hz hcond helt fun s' Lc D us j g nD nL LD hm hD ha hl' hf => ?_
  have DL : D ≠ L := fun q => by
    obtain ⟨o, _, _, e, _⟩ := F.ns
    rw [← q, nD] at e; cases e
  have nl : ∀ {us : List Value} {bs : List β}, All2 (fun u b => RO u b s'.heap) us bs → ∀ u ∈ us, ∀ c ∈ rf u, c ≠ L := by
    intro us bs h
    induction h with
    | nil => intro u hu; cases hu
    | cons r _ ih =>
      intro u hu c hc
      rcases List.mem_cons.mp hu with rfl | hu
      · intro q
        obtain ⟨es, n, o, ho, hd⟩ := frDict (frGrow F g)
        exact nodict _ _ _ r c hc o es n (by rw [q]; exact ho) hd
      · exact ih u hu c hc
  refine useAssign F g nL hm (fun s₃ F₃ g₃ k₃ => hQ s₃ D us j F₃ g₃ nD (k₃ _ _ DL (Ne.symm LD) hD) (ha.mono fun u b hu r => mono _ _ _ _ r fun c hc o e => k₃ c o (nl ha u hu c hc) (hf u hu c hc).2.2 e) hl' fun u hu c hc => ⟨fun q => ?_, (hf u hu c hc).2.1, nl ha u hu c hc⟩) hk hl
  cases q' : s'.heap.get? c with
  | none => exact (hf u hu c hc).1 q'
  | some o => rw [k₃ c o (nl ha u hu c hc) (hf u hu c hc).2.2 q'] at q; cases q
end
open PySem PySem.W PyProof.Rows PySem.Calls PySem.SeqAt

/-- equality item by item -/
def eqList {α β : Type} (eq : α → β → Bool) : List α → List β → Bool
  | [], [] => true
  | x :: xs, y :: ys => eq x y && eqList eq xs ys
  | _, _ => false
theorem eqList_iff {α : Type} {eq : α → α → Bool} (h : ∀ x y, eq x y = true ↔ x = y) : ∀ xs ys, eqList eq xs ys = true ↔ xs = ys
  | [], [] => by simp [eqList]
  | x :: xs, y :: ys => by simp [eqList, h, eqList_iff h xs ys]
  | [], _ :: _ => by simp [eqList]
  | _ :: _, [] => by simp [eqList]
theorem eqList_all {α β : Type} {eq : α → β → Bool} : ∀ (xs : List α) (ys : List β), eqList eq xs ys = true ↔ All2 (fun x y => eq x y = true) xs ys
  | [], [] => by simp [eqList]; exact .nil
  | x :: xs, y :: ys => by
    simp only [eqList, Bool.and_eq_true, eqList_all xs ys]
    exact ⟨fun h => .cons h.1 h.2, fun h => by cases h with | cons a b => exact ⟨a, b⟩⟩
  | [], _ :: _ => by simp [eqList]; intro h; cases h
  | _ :: _, [] => by simp [eqList]; intro h; cases h
theorem eqList_len {α β : Type} {eq : α → β → Bool} : ∀ (xs : List α) (ys : List β), xs.length ≠ ys.length → eqList eq xs ys = false
  | [], [], h => absurd rfl h
  | x :: xs, y :: ys, h => by simp only [eqList, eqList_len xs ys (fun q => h (by simp [q])), Bool.and_false]
  | [], _ :: _, _ => rfl
  | _ :: _, [], _ => rfl
theorem eqList_range {α β : Type} {eq : α → β → Bool} : ∀ (xs : List α) (ys : List β) (e : Nat → Bool), xs.length = ys.length → (∀ j (h1 : j < xs.length) (h2 : j < ys.length), e j = eq xs[j] ys[j]) → (List.range xs.length).all e = eqList eq xs ys
  | [], [], _, _, _ => rfl
  | x :: xs, y :: ys, e, h, he => by
    rw [List.length_cons, List.range_succ_eq_map, List.all_cons, List.all_map, eqList, he 0 (by simp) (by simp)]
    congr 1
    exact eqList_range xs ys _ (by simpa using h) fun j h1 h2 => he (j + 1) (by simpa using h1) (by simpa using h2)
  | [], _ :: _, _, h, _ => by simp at h
  | _ :: _, [], _, h, _ => by simp at h

section
variable {α β : Type} {A : Around} {s : Shared} {l b : Addr} {us vs : List Value} {n k : Nat} {R : Value → α → Prop} {R' : Value → β → Prop} {X : List α} {Y : List β} {eq : α → β → Bool}

theorem isL (hl : s.heap.get? l = some (listOf us.toArray n)) : s.heap.IsList l us.toArray := ⟨_, hl, rfl, n, rfl⟩

theorem rcList (hl : s.heap.get? l = some (listOf us.toArray n)) (hb : s.heap.get? b = some (listOf vs.toArray k)) (hu : A.units < cLine) (ha : All2 R us X) (ha' : All2 R' vs Y) (he : ∀ u x v y, R u x → R' v y → EqAt A.in1 s u v (eq x y)) :
    RcAt A s (.ref l) (.ref b) (eqList eq X Y) := by
  by_cases hz : us.length = vs.length
  · have e1 := ha.length
    have e2 := ha'.length
    have := RcAt.lists (e := fun j => if h : j < X.length then (if h' : j < Y.length then eq X[j] Y[j] else false) else false) (isL hl) (isL hb) (by simpa using hz) hu fun j h1 h2 => by
      have h1' : j < us.length := by simpa using h1
      have h2' : j < vs.length := by simpa using h2
      have h3 : j < X.length := by omega
      have h4 : j < Y.length := by omega
      rw [dif_pos h3, dif_pos h4]
      simpa using he _ _ _ _ (ha.get j h1' h3) (ha'.get j h2' h4)
    rw [List.size_toArray, e1, eqList_range (eq := eq) X Y _ (by omega) fun j h1 h2 => by rw [dif_pos h1, dif_pos h2]] at this
    exact this
  · rw [eqList_len X Y (by rw [← ha.length, ← ha'.length]; exact hz)]
    exact RcAt.lists_lengths (isL hl) (isL hb) (by simpa using hz) hu

theorem neList (hl : s.heap.get? l = some (listOf us.toArray n)) (hb : s.heap.get? b = some (listOf vs.toArray k)) (hu : A.units < cLine) (ha : All2 R us X) (ha' : All2 R' vs Y) (he : ∀ u x v y, R u x → R' v y → EqAt A.in1 s u v (eq x y)) :
    RcNeAt A s (.ref l) (.ref b) (!eqList eq X Y) := by
  by_cases hz : us.length = vs.length
  · have e1 := ha.length
    have e2 := ha'.length
    have := RcNeAt.lists (e := fun j => if h : j < X.length then (if h' : j < Y.length then eq X[j] Y[j] else false) else false) (isL hl) (isL hb) (by simpa using hz) hu fun j h1 h2 => by
      have h1' : j < us.length := by simpa using h1
      have h2' : j < vs.length := by simpa using h2
      have h3 : j < X.length := by omega
      have h4 : j < Y.length := by omega
      rw [dif_pos h3, dif_pos h4]
      simpa using he _ _ _ _ (ha.get j h1' h3) (ha'.get j h2' h4)
    rw [List.size_toArray, e1, eqList_range (eq := eq) X Y _ (by omega) fun j h1 h2 => by rw [dif_pos h1, dif_pos h2]] at this
    exact this
  · rw [eqList_len X Y (by rw [← ha.length, ← ha'.length]; exact hz)]
    exact RcNeAt.lists_lengths (isL hl) (isL hb) (by simpa using hz) hu

theorem eqAtList (hl : s.heap.get? l = some (listOf us.toArray n)) (hb : s.heap.get? b = some (listOf vs.toArray k)) (hne : l ≠ b) (hu : A.units < cLine) (ha : All2 R us X) (ha' : All2 R' vs Y) (he : ∀ u x v y, R u x → R' v y → EqAt A.in1 s u v (eq x y)) :
    EqAt A s (.ref l) (.ref b) (eqList eq X Y) := EqAt.of_refs hne (rcList hl hb hu ha ha' he)

/-- a list against the empty one -/
theorem neEmpty (hl : s.heap.get? l = some (listOf us.toArray n)) (hb : s.heap.get? b = some (listOf [].toArray k)) (hu : A.units < cLine) : RcNeAt A s (.ref l) (.ref b) (!us.isEmpty) := by
  cases us with
  | nil => exact RcNeAt.lists (e := fun _ => true) (isL hl) (isL hb) rfl hu fun j h1 => absurd h1 (by simp)
  | cons u us => exact RcNeAt.lists_lengths (isL hl) (isL hb) (by simp) hu
theorem rcEmpty (hl : s.heap.get? l = some (listOf us.toArray n)) (hb : s.heap.get? b = some (listOf [].toArray k)) (hu : A.units < cLine) : RcAt A s (.ref l) (.ref b) us.isEmpty := by
  cases us with
  | nil => exact RcAt.lists (e := fun _ => true) (isL hl) (isL hb) rfl hu fun j h1 => absurd h1 (by simp)
  | cons u us => exact RcAt.lists_lengths (isL hl) (isL hb) (by simp) hu
end

/-- e is the value v at s -/
def EvV (prog : Program) (w : World) (A : Around) (env : Env) (e : Expr) (v : Value) (s : Shared) : Prop := wpAny (model prog w) A (eval e env) (fun u s' => Grow s s' ∧ u = v) No s

section
variable {prog : Program} {w : World} {A : Around} {E : Value → Shared → Prop} {s : Shared} {env : Env} {e e1 e2 : Expr} {a b n : Int} {pos : Pos} {m : Str → Option Value} {v : Value}

theorem EvV.use {Q : Value → Shared → Prop} (h : EvV prog w A env e v s) (hQ : ∀ s', Grow s s' → Q v s') : wpAny (model prog w) A (eval e env) Q E s :=
  wpAny_mono h (fun u s' ⟨g, q⟩ => by rw [q]; exact hQ s' g) fun _ _ q => q.elim
theorem EvV.name {x : Str} (hn : s.heap.Ns env.locals m) (hv : m x = some v)
    (hk : env.scope.kind = .function := by rfl) (hl : env.kindOf x = some .local := by rfl) (hd : (x == ("__debug__" : Str)) = false := by decide) : EvV prog w A env (.Name x pos) v s :=
  ldE hn hv ⟨.refl _, rfl⟩ hk hl hd
/-- xs[-1] -/
theorem EvV.last {D : Addr} {vs : List Value} {k j : Nat} {p1 p2 : Pos} (h : EvV prog w A env e (.ref D) s) (hD : s.heap.get? D = some (listOf (vs ++ [v]).toArray j)) (hz : vs.length < 1000000) :
    EvV prog w A env (.Subscript e (.UnaryOp .USub (.Constant (.int 1) k p1) p2) pos) v s := by
  refine Subscript_ (h.use fun s₁ g₁ => (EvI.neg EvI.const).use fun s₂ t g₂ => ?_)
  have hL := isL (g₂.keep _ _ (g₁.keep _ _ hD))
  refine tail_any hL.typeIs slot_list_getitem.lookup (wpAny_getItem_list_neg (x := v) hL (by decide) (by simp; omega) (by decide) ?_ ⟨g₁.trans g₂, rfl⟩) (by with_unfolding_all rfl)
  simp only [List.size_toArray, List.length_append, List.length_cons, List.length_nil]
  have q : ((-1 : Int) + ((vs.length + (0 + 1) : Nat) : Int)).toNat = vs.length := by omega
  rw [q]; simp
/-- xs[0] -/
theorem EvV.head {D : Addr} {vs : List Value} {k j : Nat} {p1 : Pos} (h : EvV prog w A env e (.ref D) s) (hD : s.heap.get? D = some (listOf (v :: vs).toArray j)) :
    EvV prog w A env (.Subscript e (.Constant (.int 0) k p1) pos) v s := by
  refine Subscript_ (h.use fun s₁ g₁ => (EvI.const (n := 0)).use fun s₂ t g₂ => ?_)
  have hL := isL (g₂.keep _ _ (g₁.keep _ _ hD))
  exact tail_any hL.typeIs slot_list_getitem.lookup (wpAny_getItem_list (x := v) hL (by decide) (by decide) (by simp) ⟨g₁.trans g₂, rfl⟩) (by with_unfolding_all rfl)
theorem EvV.int {t : Tok} (h : EvV prog w A env e (.int n t) s) : EvI prog w A env e n s := wpAny_mono h (fun u s' ⟨g, q⟩ => ⟨g, t, q⟩) fun _ _ q => q

/-- «o.append(e)» as a statement -/
theorem appendAny {o : Expr} {pl : Sem Bool} {p1 p2 p3 : Pos} {D : Addr} {ms : List Value} {n : Nat} {Q : Flow → Shared → Prop} (ho : EvV prog w A env o (.ref D) s) (hD : s.heap.get? D = some (listOf ms.toArray n)) (hsz : ms.length < 1000000)
    (he : ∀ s₁, Grow s s₁ → wpAny (model prog w) A (eval e env) (fun v s₂ => Grow s₁ s₂ ∧ ∀ s', ExL D s₂ s' → s'.heap.get? D = some (listOf (ms ++ [v]).toArray (n + 1)) → Q .next s') E s₁)
    (hc : eval (.Call (.Attribute o "append" p1) [e] [] p2) env = (do
      let ov ← eval o env
      standAt p1.atName
      let (f, first) ← holding [ov] (getMethod ov "append" pl)
      callWith p2 f first (backTo p2 (starEach [e] env)) []) := by rfl)
    (hs : starEach [e] env = [(false, eval e env)] := by rfl) (hi : interactive env = false := by rfl) :
    wpAny (model prog w) A (exec (.Expr (.Call (.Attribute o "append" p1) [e] [] p2) p3) env) Q E s := by
  refine wpAny_Expr_any (MethodCall_ (ho.use fun s₀ g₀ => ?_) hc) hi rfl
  have hD₀ := g₀.keep _ _ hD
  refine getMethod_builtin ⟨_, hD₀, rfl⟩ PySem.F.plainAttrs_list slot_list_append PySem.F.type_list_append (fun x q => by cases q; exact ⟨_, hD₀, rfl⟩) ?_
  refine callWith_method1 (spliced_more (wpAny_mono (he s₀ g₀) (fun v s₁ ⟨g, h⟩ => spliced_none ?_) fun _ _ x => x) hs) hs rfl
  refine append_at (g.keep _ _ hD₀) (fun h' sb hD' => h _ ⟨fun b o n q => (sb.2 b n).trans q, rfl, rfl⟩ ?_) ?_
  · have q : ms.toArray.push v = (ms ++ [v]).toArray := by simp
    rw [q] at hD'; exact hD'
  · rw [List.size_toArray, sizeLine_eq]; omega

theorem mulAny {l : Addr} {items : Array Value} {k : Nat} {x : Int} {u : Tok} {Q : Value → Shared → Prop}
    (hl : s.heap.get? l = some { cls := .type "list", dict := none, data := .seq items k, slots := #[] })
    (hlo : -(2 ^ 63 : Int) ≤ x) (hhi : x < 2 ^ 63) (hsz : items.size * x.toNat ≤ 2 ^ 24)
    (h : Q (.ref s.heap.objs.size) { s with heap := s.heap.push { cls := .type "list", data := .seq (List.foldl (fun x1 x2 => x1 ++ x2) #[] (List.replicate (if items.isEmpty = true then 0 else x.toNat) items)) } }) :
    wpAny (model prog w) A (binaryOp .Mult (.ref l) (.int x u)) Q E s :=
  wpAny_binaryOp_repeat_ref (T := "list") (U := "int") (by decide) ⟨_, hl, rfl⟩ (fun s' => typeIs_int s' x u) noFill_list_mul F.fills_int_mul F.slot_int_rmul repeat_list F.slot_int_index.lookup
    (call_meets F.slot_int_rmul (typeIs_int s x u) F.entry_int_rmul (F.args_int_rmul_2 _ _) (int___rmul___int_list x u l items k)
      ⟨hl, rfl, ⟨_, hl, rfl⟩, call_meets F.slot_list_mul ⟨_, hl, rfl⟩ F.entry_list_mul (F.args_list_mul_2 _ _)
        (AutoListH.list___mul___list_int_3 l items k x u (by simp [Builtin.List.listFitsIndex]; omega) (by omega) (by simp [Builtin.List.listTooLong, sizeLine]; omega))
        ⟨hl, h⟩⟩)

/-- «[v] * x» -/
theorem mulList {l : Addr} {x : Nat} {u : Tok} {j : Nat} {Q : Value → Shared → Prop} (hl : s.heap.get? l = some (listOf [v].toArray j)) (hx : x < 1000000)
    (h : ∀ s' D, Grow s s' → s.heap.get? D = none → s'.heap.get? D = some (listOf (List.replicate x v).toArray 0) → Q (.ref D) s') : wpAny (model prog w) A (binaryOp .Mult (.ref l) (.int (x : Nat) u)) Q E s := by
  refine mulAny hl (by omega) (by omega) (by simp; omega) (h _ _ ⟨fun _ _ e => Heap.get?_push_of_some _ e, rfl, rfl⟩ (Heap.get?_none_of_le (Nat.le_refl _)) ?_)
  have q : ∀ (k : Nat) (acc : Array Value), List.foldl (fun x1 x2 => x1 ++ x2) acc (List.replicate k [v].toArray) = acc ++ (List.replicate k v).toArray := by
    intro k
    induction k with
    | zero => intro acc; simp
    | succ k ih => intro acc; rw [List.replicate_succ, List.foldl_cons, ih, List.replicate_succ]; apply Array.toList_inj.mp; simp
  have e : (if ([v].toArray).isEmpty = true then 0 else (x : Int).toNat) = x := by simp
  refine (Heap.get?_push_size s.heap rfl).trans ?_
  rw [q, e]
  simp

/-- «on.extend([e1] * e2)» as a statement -/
theorem extendMul {o : Expr} {pl : Sem Bool} {p1 p2 p3 q1 q2 : Pos} {D : Addr} {ms : List Value} {k x : Nat} {Q : Flow → Shared → Prop} (ho : EvV prog w A env o (.ref D) s) (hD : s.heap.get? D = some (listOf ms.toArray k)) (hsz : ms.length + x < 1000000)
    (h1 : ∀ s₁, Grow s s₁ → EvI prog w A env e1 a s₁) (h2 : ∀ s₁, Grow s s₁ → EvI prog w A env e2 (x : Nat) s₁)
    (hQ : ∀ s' k' t, ExL D s s' → s'.heap.get? D = some (listOf (ms ++ List.replicate x (Value.int a t)).toArray k') → Q .next s')
    (hc : eval (.Call (.Attribute o "extend" p1) [.BinOp (.List [e1] q1) .Mult e2 q2] [] p2) env = (do
      let ov ← eval o env
      standAt p1.atName
      let (f, first) ← holding [ov] (getMethod ov "extend" pl)
      callWith p2 f first (backTo p2 (starEach [.BinOp (.List [e1] q1) .Mult e2 q2] env)) []) := by rfl)
    (hs : starEach [e1] env = [(false, eval e1 env)] := by rfl) (hi : interactive env = false := by rfl) :
    wpAny (model prog w) A (exec (.Expr (.Call (.Attribute o "extend" p1) [.BinOp (.List [e1] q1) .Mult e2 q2] [] p2) p3) env) Q E s := by
  refine wpAny_Expr_any (MethodCall_ (ho.use fun s₀ g₀ => ?_) hc) hi rfl
  have hD₀ := g₀.keep _ _ hD
  refine getMethod_builtin ⟨_, hD₀, rfl⟩ PySem.F.plainAttrs_list PySem.F.slot_list_extend PySem.F.type_list_extend (fun x q => by cases q; exact ⟨_, hD₀, rfl⟩) ?_
  refine callWith_method1 (spliced_more (wpAny_BinOp (List_ (spliced_more ((h1 s₀ g₀).use fun s₁ t g₁ => spliced_none (newList_ fun s₂ l g₂ hl _ => ?_)) hs))) rfl) rfl rfl
  refine (h2 s₂ ((g₀.trans g₁).trans g₂)).use fun s₃ t' g₃ => ?_
  refine mulList (g₃.keep _ _ hl) (by omega) fun s₄ B g₄ _ hB => spliced_none ?_
  have g := (g₁.trans g₂).trans (g₃.trans g₄)
  refine extendCall (g.keep _ _ hD₀) hB (by rw [List.length_replicate]; omega) fun s' n' g' hD' => hQ s' n' t ((g₀.trans g).exL.trans g') hD'

/-- «(n0, .., n4)[e]» -/
theorem EvI.tup5 {n0 n1 n2 n3 n4 : Int} {k0 k1 k2 k3 k4 kk : Nat} {p0 p1 p2 p3 p4 pt q : Pos} {op : Operator} (h : ∀ s', Grow s s' → EvI prog w A env (.BinOp e1 op e2 q) n s') (hn : 0 ≤ n) (hn' : n < 5)
    (hs : starEach [.Constant (.int n0) k0 p0, .Constant (.int n1) k1 p1, .Constant (.int n2) k2 p2, .Constant (.int n3) k3 p3, .Constant (.int n4) k4 p4] env = [(false, eval (.Constant (.int n0) k0 p0) env), (false, eval (.Constant (.int n1) k1 p1) env), (false, eval (.Constant (.int n2) k2 p2) env), (false, eval (.Constant (.int n3) k3 p3) env), (false, eval (.Constant (.int n4) k4 p4) env)] := by rfl) :
    EvI prog w A env (.Subscript (.Tuple [.Constant (.int n0) k0 p0, .Constant (.int n1) k1 p1, .Constant (.int n2) k2 p2, .Constant (.int n3) k3 p3, .Constant (.int n4) k4 p4] kk pt) (.BinOp e1 op e2 q) pos) ([n0, n1, n2, n3, n4].getD n.toNat 0) s := by
  refine Subscript_ (Tuple_ ?_)
  refine spliced_more (EvI.const.use fun s₁ t1 g₁ => spliced_more (EvI.const.use fun s₂ t2 g₂ => spliced_more (EvI.const.use fun s₃ t3 g₃ => spliced_more (EvI.const.use fun s₄ t4 g₄ => spliced_more (EvI.const.use fun s₅ t5 g₅ => spliced_none (newTuple_ fun s₆ T g₆ hT _ => ?_)) rfl) rfl) rfl) rfl) hs
  have g := g₁.trans (g₂.trans (g₃.trans (g₄.trans (g₅.trans g₆))))
  refine (h s₆ g).use fun s₇ t7 g₇ => ?_
  have hT' : IsTup s₇.heap T [.int n0 t1, .int n1 t2, .int n2 t3, .int n3 t4, .int n4 t5].toArray := ⟨_, g₇.keep _ _ hT, rfl, _, rfl⟩
  obtain ⟨i, rfl⟩ : ∃ i : Nat, n = (i : Nat) := ⟨n.toNat, by omega⟩
  have hi : i < 5 := by omega
  refine item_tupleT (j := i) hT' (by omega) (by omega) (by unfold seqIndex?; have h5 : ([Value.int n0 t1, .int n1 t2, .int n2 t3, .int n3 t4, .int n4 t5] : List Value).length = 5 := rfl; rw [h5]; match i, hi with | 0, _ => rfl | 1, _ => rfl | 2, _ => rfl | 3, _ => rfl | 4, _ => rfl) (List.getElem?_eq_getElem (by simpa using hi)) ⟨g.trans g₇, ?_⟩ (by with_unfolding_all rfl)
  match i, hi with
  | 0, _ => exact ⟨_, rfl⟩
  | 1, _ => exact ⟨_, rfl⟩
  | 2, _ => exact ⟨_, rfl⟩
  | 3, _ => exact ⟨_, rfl⟩
  | 4, _ => exact ⟨_, rfl⟩
end

/-- all but two objects stand -/
structure Ex2 (a b : Addr) (s s' : Shared) : Prop where
  keep : ∀ c o, c ≠ a → c ≠ b → s.heap.get? c = some o → s'.heap.get? c = some o
  os : s'.os = s.os
  gens : s'.gens = s.gens
theorem ExL.ex2l {a b : Addr} {s s' : Shared} (g : ExL a s s') : Ex2 a b s s' := ⟨fun c o n _ e => g.keep c o n e, g.os, g.gens⟩
theorem ExL.ex2r {a b : Addr} {s s' : Shared} (g : ExL b s s') : Ex2 a b s s' := ⟨fun c o _ n e => g.keep c o n e, g.os, g.gens⟩
theorem Ex2.trans {a b : Addr} {s s' s'' : Shared} (x : Ex2 a b s s') (y : Ex2 a b s' s'') : Ex2 a b s s'' := ⟨fun c o n n' e => y.keep c o n n' (x.keep c o n n' e), y.os.trans x.os, y.gens.trans x.gens⟩

section
variable {prog : Program} {w : World} {A : Around} {E : Value → Shared → Prop} {s : Shared} {α : Type}

theorem srcListF {RA : Value → α → Prop} {X : List α} {vs : List Value} {l : Addr} {n : Nat} {s₁ : Shared} (g : Grow s s₁) (hl : s₁.heap.get? l = some (listOf vs.toArray n)) (ha : All2 RA vs X) :
    wpAny (model prog w) A (pyIter (.ref l)) (fun itv s₂ => ∃ it V P, itv = .ref it ∧ Src prog w s s₂ RA X it [it, l] V P) E s₁ := by
  refine pyIterList hl fun s₂ it g₂ ni nil st => ⟨it, fun k v => vs[k]? = some v, fun k h => h.IsListIter it l k ∧ h.IsList l vs.toArray, rfl, ?_⟩
  have D := iterList (prog := prog) (w := w) (vs := vs) nil
  have e := ha.length
  refine ⟨by rw [← e]; exact D, st, g.trans g₂, ?_, D.there st, ?_, fun k v hk hv => ?_⟩
  · cases q : s.heap.get? it with
    | none => rfl
    | some o => rw [g.keep _ _ q] at ni; cases ni
  · intro b hb q
    rcases List.mem_cons.mp hb with rfl | hb
    · exact D.there st q
    · rw [List.mem_singleton.mp hb, g₂.keep _ _ hl] at q; cases q
  · have hk' : k < vs.length := by omega
    have : v = vs[k] := by rw [List.getElem?_eq_getElem hk'] at hv; exact (Option.some.inj hv).symm
    rw [this]
    exact ha.get k hk' hk

/-- the same, for a list of which no more is known -/
theorem srcListI {RA : Value → α → Prop} {X : List α} {vs : List Value} {l : Addr} {s₁ : Shared} (g : Grow s s₁) (hL : s₁.heap.IsList l vs.toArray) (ha : All2 RA vs X) :
    wpAny (model prog w) A (pyIter (.ref l)) (fun itv s₂ => ∃ it V P, itv = .ref it ∧ Src prog w s s₂ RA X it [it, l] V P) E s₁ := by
  obtain ⟨o, ho, r⟩ := id hL
  refine wpAny_pyIter_list hL ⟨_, fun k v => vs[k]? = some v, fun k h => h.IsListIter s₁.heap.objs.size l k ∧ h.IsList l vs.toArray, rfl, ?_⟩
  have nil : s₁.heap.objs.size ≠ l := Nat.ne_of_gt (Heap.lt_size ho)
  have D := iterList (prog := prog) (w := w) (vs := vs) nil
  have e := ha.length
  refine ⟨by rw [← e]; exact D, ⟨⟨_, Heap.get?_push_size _ rfl, rfl, rfl⟩, hL.push _⟩, g.trans ⟨fun _ _ e => Heap.get?_push_of_some _ e, rfl, rfl⟩, ?_, ?_, ?_, fun k v hk hv => ?_⟩
  · cases q : s.heap.get? s₁.heap.objs.size with
    | none => rfl
    | some o => exact absurd (Heap.lt_size (g.keep _ _ q)) (Nat.lt_irrefl _)
  · rw [Heap.get?_push_size _ rfl]; exact fun q => by cases q
  · intro b hb q
    rcases List.mem_cons.mp hb with rfl | hb
    · rw [Heap.get?_push_size _ rfl] at q; cases q
    · rw [List.mem_singleton.mp hb, Heap.get?_push_of_some _ ho] at q; cases q
  · have hk' : k < vs.length := by omega
    have : v = vs[k] := by rw [List.getElem?_eq_getElem hk'] at hv; exact (Option.some.inj hv).symm
    rw [this]
    exact ha.get k hk' hk

theorem srcRangeF {n : Nat} {r : Addr} {t u v : Tok} {s₁ : Shared} (g : Grow s s₁) (hr : IsRange s₁.heap r 0 (n : Nat) 1 t u v) (hn : n < 1000000) :
    wpAny (model prog w) A (pyIter (.ref r)) (fun itv s₂ => ∃ it V P, itv = .ref it ∧ Src prog w s s₂ (fun v (k : Nat) => ∃ t, v = .int (k : Nat) t) (List.range n) it [it] V P) E s₁ := by
  refine pyIterRange hr hn fun s₂ it g₂ ni st => ⟨it, fun k v => ∃ t, v = .int (k : Nat) t, fun k h => IsRangeIter h it (k : Nat) ((n : Int) - (k : Nat)) 1, rfl, ?_⟩
  have D := iterRange (prog := prog) (w := w) (it := it) (n := n)
  refine ⟨by rw [List.length_range]; exact D, st, g.trans g₂, ?_, D.there st, ?_, fun k v hk hv => ?_⟩
  · cases q : s.heap.get? it with
    | none => rfl
    | some o => rw [g.keep _ _ q] at ni; cases ni
  · intro b hb q
    rw [List.mem_singleton.mp hb] at q
    exact D.there st q
  · simpa using hv
end

section
variable {prog : Program} {w : World} {A : Around} {E : Value → Shared → Prop} {s : Shared} {name : Str} {fscope : Scope} {L a : Addr} {cd : Value} {base : Heap} {m : Str → Option Value} {α : Type}

/-- a for-loop in a function -/
theorem forS {RA : Value → α → Prop} {X : List α} {fps : Addr → List Addr} {x : Str} {px pos : Pos} {iter : Expr} {body : List Stmt} {Q : Flow → Shared → Prop} (F : Fr base L s.heap m) (hh : A.handled = none)
    (hsrc : wpAny (model prog w) A (eval iter (envOf name fscope L a cd)) (fun y s₁ => wpAny (model prog w) A (pyIter y) (fun itv s₂ => ∃ it V P, itv = .ref it ∧ Src prog w s s₂ RA X it (fps it) V P) E s₁) E s)
    (hfp : ∀ it, s.heap.get? it = none → L ∉ fps it)
    (J : Addr → Nat → Shared → (Str → Option Value) → Prop)
    (hJ : ∀ it k s₁ s₂ m', s.heap.get? it = none → J it k s₁ m' → Ex2 it L s₁ s₂ → J it k s₂ m')
    (h0 : ∀ it s₁, s.heap.get? it = none → Grow s s₁ → J it 0 s₁ m)
    (turn : ∀ it k v s₁ m₁ (hk : k < X.length), s.heap.get? it = none → it ≠ L → s₁.heap.get? it ≠ none → (∀ b ∈ fps it, s₁.heap.get? b ≠ none) → RA v X[k] → Fr base L s₁.heap (upd m₁ x v) → J it k s₁ m₁ →
      wpAny (model prog w) A (execs body (envOf name fscope L a cd)) (fun f s₃ => (f = .next ∧ Stay (fps it) s₁.heap s₃.heap ∧ ∃ m₃, Fr base L s₃.heap m₃ ∧ J it (k + 1) s₃ m₃) ∨ ∃ v, f = .ret v ∧ Q (.ret v) s₃) No s₁)
    (hQ : ∀ it s' m', s.heap.get? it = none → Fr base L s'.heap m' → J it X.length s' m' → Q .next s')
    (hk : fscope.kind = .function := by rfl) (hl : (envOf name fscope L a cd).kindOf x = some .local := by rfl)
    (hs : ∀ x, foldedSetIterable iter (envOf name fscope L a cd) x = pure x := by intro _; rfl) :
    wpAny (model prog w) A (exec (.For (.Name x px) iter body [] pos) (envOf name fscope L a cd)) Q E s := by
  refine wpAny_For (wpAny_mono hsrc (fun y s₁ h₁ => wpAny_mono h₁ (fun itv s₂ h₂ => ?_) fun _ _ e => e) fun _ _ e => e) hs
  obtain ⟨it, V, P, rfl, S⟩ := h₂
  have ni := S.ni
  have iL : it ≠ L := fun q => hfp it ni (q ▸ S.D.mem)
  have fL := hfp it ni
  have bi : base.get? it = none := by
    cases q : base.get? it with
    | none => rfl
    | some o => rw [F.keep _ _ q] at ni; cases ni
  refine forIt (R := fun r s' => match r with | .ok f => Q f s' | .error e => cameBackBy (model prog w) A (envOf name fscope L a cd) E e s') S.D hh S.p0 (fun k s₁ => (∀ b ∈ fps it, b ≠ it → s₁.heap.get? b ≠ none) ∧ ∃ m₁, Fr base L s₁.heap m₁ ∧ J it k s₁ m₁) ?_ ⟨fun b hb _ => S.fp b hb, m, frGrow F S.g, h0 it s₂ ni S.g⟩ ?_ ?_
  · rintro k s₁ s₃ ⟨hf, m₁, F₁, j₁⟩ g
    refine ⟨fun b hb n q => ?_, m₁, frExL F₁ g (Ne.symm iL) bi, hJ it k s₁ s₃ m₁ ni j₁ g.ex2l⟩
    cases e : s₁.heap.get? b with
    | none => exact hf b hb n e
    | some o => rw [g.keep _ _ n e] at q; cases q
  · rintro k v s₁ hk' hv hp ⟨hf, m₁, F₁, j₁⟩
    have git := S.D.there hp
    refine st_ F₁ (fun s₂ F₂ g₂ => ?_) hk hl
    have k12 : ∀ b, b ≠ L → s₁.heap.get? b ≠ none → s₂.heap.get? b ≠ none := fun b n e q => by
      cases e' : s₁.heap.get? b with
      | none => exact e e'
      | some o => rw [g₂.keep _ _ n e'] at q; cases q
    refine wpAny_mono (turn it k v s₂ m₁ hk' ni iL (k12 it iL git) (fun b hb => k12 b (fun q => fL (q ▸ hb)) ?_) (S.ra k v hk' hv) F₂ (hJ it k s₁ s₂ m₁ ni j₁ g₂.ex2r)) (fun f s₃ h₃ => ?_) fun _ _ q => q
    · by_cases q : b = it
      · rw [q]; exact git
      · exact hf b hb q
    · rcases h₃ with ⟨rfl, st, m₃, F₃, j₃⟩ | h₃
      · refine .inl ⟨rfl, fun b hb o e => st b hb o (g₂.keep b o (fun q => fL (q ▸ hb)) e), fun b hb n q => ?_, m₃, F₃, j₃⟩
        cases e : s₁.heap.get? b with
        | none => exact hf b hb n e
        | some o => rw [st b hb o (g₂.keep b o (fun q => fL (q ▸ hb)) e)] at q; cases q
      · exact .inr h₃
  · rintro s' ⟨_, m', F', j'⟩
    exact hQ it s' m' ni F' j'
end

section
variable {prog : Program} {w : World} {A : Around} {E : Value → Shared → Prop} {s : Shared} {env : Env} {e lo : Expr} {pos p : Pos} {D : Addr} {vs : List Value} {j k : Nat}

/-- xs[lo:] -/
theorem sliceFrom {Q : Value → Shared → Prop} (h : EvV prog w A env e (.ref D) s) (hD : s.heap.get? D = some (listOf vs.toArray j)) (hz : vs.length < 1000000) (hk : ∀ s₁, Grow s s₁ → EvI prog w A env lo (k : Nat) s₁)
    (hQ : ∀ s' B, Grow s s' → s.heap.get? B = none → s'.heap.get? B = some (listOf (vs.drop k).toArray 0) → Q (.ref B) s') : wpAny (model prog w) A (eval (.Subscript e (.Slice (some lo) none none p) pos) env) Q E s := by
  refine Subscript_ (h.use fun s₁ g₁ => wpAny_Slice ?_)
  rw [evalPart_some, evalPart_none]
  refine (hk s₁ g₁).use fun s₂ t g₂ => wpAny_pure (wpAny_pure ?_)
  have g₃ : Grow s₂ { s₂ with heap := s₂.heap.push { cls := .type "slice", data := .fields #[.int (k : Nat) t, .none, .none] } } := ⟨fun _ _ e => Heap.get?_push_of_some _ e, rfl, rfl⟩
  have g := g₁.trans (g₂.trans g₃)
  have hL := isL (g.keep _ _ hD)
  refine tail_any hL.typeIs slot_list_getitem.lookup (wpAny_getItem_list_slice hL (Heap.IsSliceOf.new ..) (.int _ _) .none .none (by simp) ?_ (by rw [List.size_toArray, sizeLine_eq]; omega)) rfl
  have e : slicePick vs.toArray (some (k : Int)) none none = (vs.drop k).toArray := by rw [slicePick_from']
  rw [e]
  refine hQ _ _ ⟨fun _ _ e => Heap.get?_push_of_some _ (g.keep _ _ e), g.os, g.gens⟩ ?_ (Heap.get?_push_size _ rfl)
  cases q : s.heap.get? (s₂.heap.push { cls := .type "slice", data := .fields #[.int (k : Nat) t, .none, .none] }).objs.size with
  | none => rfl
  | some o => exact absurd (Heap.lt_size (g.keep _ _ q)) (Nat.lt_irrefl _)

/-- xs[:] -/
theorem sliceAll {Q : Value → Shared → Prop} (h : EvV prog w A env e (.ref D) s) (hD : s.heap.get? D = some (listOf vs.toArray j)) (hz : vs.length < 1000000)
    (hQ : ∀ s' B, Grow s s' → s.heap.get? B = none → s'.heap.get? B = some (listOf vs.toArray 0) → Q (.ref B) s') : wpAny (model prog w) A (eval (.Subscript e (.Slice none none none p) pos) env) Q E s := by
  refine Subscript_ (h.use fun s₁ g₁ => wpAny_Slice ?_)
  simp only [evalPart_none]
  refine wpAny_pure (wpAny_pure (wpAny_pure ?_))
  have g₃ : Grow s₁ { s₁ with heap := s₁.heap.push { cls := .type "slice", data := .fields #[.none, .none, .none] } } := ⟨fun _ _ e => Heap.get?_push_of_some _ e, rfl, rfl⟩
  have g := g₁.trans g₃
  have hL := isL (g.keep _ _ hD)
  refine tail_any hL.typeIs slot_list_getitem.lookup (wpAny_getItem_list_slice hL (Heap.IsSliceOf.new ..) .none .none .none (by simp) ?_ (by rw [List.size_toArray, sizeLine_eq]; omega)) rfl
  rw [slicePick_all]
  refine hQ _ _ ⟨fun _ _ e => Heap.get?_push_of_some _ (g.keep _ _ e), g.os, g.gens⟩ ?_ (Heap.get?_push_size _ rfl)
  cases q : s.heap.get? (s₁.heap.push { cls := .type "slice", data := .fields #[.none, .none, .none] }).objs.size with
  | none => rfl
  | some o => exact absurd (Heap.lt_size (g.keep _ _ q)) (Nat.lt_irrefl _)

/-- len(xs) -/
theorem EvI.len {x : Str} {p1 : Pos} (hb : wpAny (model prog w) A (eval (.Name x p) env) (fun v s' => v = .builtin "len" ∧ s' = s) No s) (h : EvV prog w A env e (.ref D) s) (hD : s.heap.get? D = some (listOf vs.toArray j)) (hz : vs.length < 1000000)
    (hc : eval (.Call (.Name x p) [e] [] p1) env = (do callWith p1 (← eval (.Name x p) env) [] (backTo p1 (starEach [e] env)) (backToKw p1 (keywordEach [] env))) := by rfl)
    (q1 : starEach [e] env = (false, eval e env) :: starEach [] env := by rfl) :
    EvI prog w A env (.Call (.Name x p) [e] [] p1) (vs.length : Nat) s := by
  refine Call_ (wpAny_mono hb (fun v s' ⟨q, q'⟩ => ?_) fun _ _ q => q) hc
  subst q q'
  refine callWith_builtin1 (spliced_more (h.use fun s₁ g => spliced_none ?_) q1) q1 rfl
  refine len_list (isL (g.keep _ _ hD)) (by rw [List.size_toArray]; omega) ?_
  rw [List.size_toArray]
  exact ⟨g.trans (Grow.toks _ _), _, rfl⟩
end

section
variable {prog : Program} {w : World} {A : Around} {E : Value → Shared → Prop} {s : Shared}
open MeetsSeq MeetsSeq2 MeetsSeq3

theorem loopLt (l b : Addr) (x y : Int) (tx ty : Tok) (n n2 : Nat) : Meets (Builtin.«list.__lt__» ⟨[.ref l, .ref b], []⟩)
    (fun _ R s => s.heap.get? l = some (listOf #[.int x tx] n) ∧ s.heap.get? b = some (listOf #[.int y ty] n2) ∧ R (.ok (.ret (.bool (decide (x < y))))) s) := by
  intro prog w A R s h
  obtain ⟨hp, g, d, tk, os⟩ := s; obtain ⟨hl, hb, h⟩ := h
  have f3 := AutoSeq1.sub_list_list
  wp_walk using PySem.AutoSeq1.wpAny_loadPart' hl, PySem.AutoSeq1.wpAny_loadPart' hb
  refine ⟨plainId_quiet plain_eq_loop _, codeAny_builtin entry_eq_loop ?_⟩
  rw [Around.under_plainId plain_eq_loop _]
  wp_walk using PySem.AutoSeq1.wpAny_loadPart' hl, PySem.AutoSeq1.wpAny_loadPart' hb
  refine EqAt.int_int x tx y ty prog w _ _ ?_
  by_cases e : x = y
  · rw [show (x == y) = true by simpa using e, if_pos rfl]
    wp_walk
    refine ⟨plainId_quiet plain_eq_loop _, codeAny_builtin entry_eq_loop ?_⟩
    rw [Around.under_plainId plain_eq_loop _]
    wp_walk using PySem.AutoSeq1.wpAny_loadPart' hl, PySem.AutoSeq1.wpAny_loadPart' hb
    rw [show decide (x < y) = false by simp; omega] at h
    exact h
  · rw [show (x == y) = false by simpa using e, if_neg (by decide)]
    refine wpAny_bind (listItems_at hl rfl (wpAny_bind (listItems_at hb rfl ?_)))
    show wpAny _ _ (compareOp .Lt (.int x tx) (.int y ty) >>= fun r => ret r) _ _ _
    exact wpAny_bind (PyProof.Rows.lt_int (wpAny_pure h))

theorem loopGt (l b : Addr) (x y : Int) (tx ty : Tok) (n n2 : Nat) : Meets (Builtin.«list.__gt__» ⟨[.ref l, .ref b], []⟩)
    (fun _ R s => s.heap.get? l = some (listOf #[.int x tx] n) ∧ s.heap.get? b = some (listOf #[.int y ty] n2) ∧ R (.ok (.ret (.bool (decide (x > y))))) s) := by
  intro prog w A R s h
  obtain ⟨hp, g, d, tk, os⟩ := s; obtain ⟨hl, hb, h⟩ := h
  have f3 := AutoSeq1.sub_list_list
  wp_walk using PySem.AutoSeq1.wpAny_loadPart' hl, PySem.AutoSeq1.wpAny_loadPart' hb
  refine ⟨plainId_quiet plain_eq_loop _, codeAny_builtin entry_eq_loop ?_⟩
  rw [Around.under_plainId plain_eq_loop _]
  wp_walk using PySem.AutoSeq1.wpAny_loadPart' hl, PySem.AutoSeq1.wpAny_loadPart' hb
  refine EqAt.int_int x tx y ty prog w _ _ ?_
  by_cases e : x = y
  · rw [show (x == y) = true by simpa using e, if_pos rfl]
    wp_walk
    refine ⟨plainId_quiet plain_eq_loop _, codeAny_builtin entry_eq_loop ?_⟩
    rw [Around.under_plainId plain_eq_loop _]
    wp_walk using PySem.AutoSeq1.wpAny_loadPart' hl, PySem.AutoSeq1.wpAny_loadPart' hb
    rw [show decide (x > y) = false by simp; omega] at h
    exact h
  · rw [show (x == y) = false by simpa using e, if_neg (by decide)]
    refine wpAny_bind (listItems_at hl rfl (wpAny_bind (listItems_at hb rfl ?_)))
    show wpAny _ _ (compareOp .Gt (.int x tx) (.int y ty) >>= fun r => ret r) _ _ _
    exact wpAny_bind (PyProof.Rows.gt_int (wpAny_pure h))

theorem ltL1 {l b : Addr} {x y : Int} {tx ty : Tok} {n n2 : Nat} {Q : Value → Shared → Prop} (hl : s.heap.get? l = some (listOf #[.int x tx] n)) (hb : s.heap.get? b = some (listOf #[.int y ty] n2)) (hu : A.units < cLine) (h : Q (.bool (decide (x < y))) s) :
    wpAny (model prog w) A (compareOp .Lt (.ref l) (.ref b)) Q E s :=
  cmp_ofLt (richCompare_meets_room (op := .Lt) ⟨_, hl, rfl⟩ ⟨_, hb, rfl⟩ PySem.F.slot_list_lt PySem.F.entry_list_lt (PySem.F.args_list_lt_2 _ _) (loopLt l b x y tx ty n n2) ⟨hl, hb, show Value.bool _ ≠ Value.notImplemented ∧ Q _ s from ⟨(fun x => nomatch x), h⟩⟩ hu)
theorem gtL1 {l b : Addr} {x y : Int} {tx ty : Tok} {n n2 : Nat} {Q : Value → Shared → Prop} (hl : s.heap.get? l = some (listOf #[.int x tx] n)) (hb : s.heap.get? b = some (listOf #[.int y ty] n2)) (hu : A.units < cLine) (h : Q (.bool (decide (x > y))) s) :
    wpAny (model prog w) A (compareOp .Gt (.ref l) (.ref b)) Q E s :=
  cmp_ofGt (richCompare_meets_room (op := .Gt) ⟨_, hl, rfl⟩ ⟨_, hb, rfl⟩ PySem.F.slot_list_gt PySem.F.entry_list_gt (PySem.F.args_list_gt_2 _ _) (loopGt l b x y tx ty n n2) ⟨hl, hb, show Value.bool _ ≠ Value.notImplemented ∧ Q _ s from ⟨(fun x => nomatch x), h⟩⟩ hu)

/-- lists that hold the very same items -/
theorem neSame {l b : Addr} {us : List Value} {n k : Nat} (hl : s.heap.get? l = some (listOf us.toArray n)) (hb : s.heap.get? b = some (listOf us.toArray k)) (hu : A.units < cLine) : RcNeAt A s (.ref l) (.ref b) false := by
  have := RcNeAt.lists (e := fun _ => true) (isL hl) (isL hb) rfl hu fun j h1 h2 => EqAt.same _
  have e : ((List.range us.toArray.size).all fun _ => true) = true := by simp
  rw [e] at this; exact this
theorem eqSame {l b : Addr} {us : List Value} {n k : Nat} (hl : s.heap.get? l = some (listOf us.toArray n)) (hb : s.heap.get? b = some (listOf us.toArray k)) (hu : A.units < cLine) : RcAt A s (.ref l) (.ref b) true := by
  have := RcAt.lists (e := fun _ => true) (isL hl) (isL hb) rfl hu fun j h1 h2 => EqAt.same _
  have e : ((List.range us.toArray.size).all fun _ => true) = true := by simp
  rw [e] at this; exact this
end

section
variable {prog : Program} {w : World} {A : Around} {E : Value → Shared → Prop} {s : Shared} {env : Env} {e e1 e2 : Expr} {pos p : Pos} {v : Value}

/-- xs[e], an index that is there -/
theorem EvV.item {D : Addr} {vs : List Value} {j i : Nat} {sl : Expr} (h : EvV prog w A env e (.ref D) s) (hD : s.heap.get? D = some (listOf vs.toArray j)) (hi : vs[i]? = some v) (hz : i < 1000000) (hs : ∀ s₁, Grow s s₁ → EvI prog w A env sl (i : Nat) s₁)
    (hq : ∀ t, subscripted sl false (.ref D) (.int (i : Nat) t) = operate [.ref D, .int (i : Nat) t] (getItem (.ref D) (.int (i : Nat) t)) := by intro _; with_unfolding_all rfl) : EvV prog w A env (.Subscript e sl pos) v s := by
  refine Subscript_ (h.use fun s₁ g₁ => (hs s₁ g₁).use fun s₂ t g₂ => ?_)
  have hL := isL (g₂.keep _ _ (g₁.keep _ _ hD))
  exact tail_any hL.typeIs slot_list_getitem.lookup (wpAny_getItem_list (x := v) hL (by omega) (by omega) (by simpa using hi) ⟨g₁.trans g₂, rfl⟩) (hq t)

/-- divmod(e, 3)[w] -/
theorem EvI.divmod {x : Str} {a b : Int} {k i : Nat} {p1 p2 p3 : Pos} {y : Str} {m : Str → Option Value} {t : Tok} (hb : wpAny (model prog w) A (eval (.Name x p) env) (fun v s' => v = .builtin "divmod" ∧ s' = s) No s)
    (h1 : EvI prog w A env e1 a s) (h0 : b ≠ 0) (hs : b.natAbs < 1073741824) (hn : s.heap.Ns env.locals m) (hv : m y = some (.int (i : Nat) t)) (hi : i < 2)
    (hk : env.scope.kind = .function := by rfl) (hl : env.kindOf y = some .local := by rfl) (hd : (y == ("__debug__" : Str)) = false := by decide)
    (hc : eval (.Call (.Name x p) [e1, .Constant (.int b) k p2] [] p1) env = (do callWith p1 (← eval (.Name x p) env) [] (backTo p1 (starEach [e1, .Constant (.int b) k p2] env)) (backToKw p1 (keywordEach [] env))) := by rfl)
    (q1 : starEach [e1, .Constant (.int b) k p2] env = (false, eval e1 env) :: starEach [.Constant (.int b) k p2] env := by rfl) (q2 : starEach [.Constant (.int b) k p2] env = (false, eval (.Constant (.int b) k p2) env) :: starEach [] env := by rfl) :
    EvI prog w A env (.Subscript (.Call (.Name x p) [e1, .Constant (.int b) k p2] [] p1) (.Name y p3) pos) (if i = 0 then a.fdiv b else a.fmod b) s := by
  refine Subscript_ (Call_ (wpAny_mono hb (fun v s' ⟨q, q'⟩ => ?_) fun _ _ q => q) hc)
  subst q q'
  refine callWith_builtin1 (spliced_more (h1.use fun s₁ t1 g₁ => spliced_more (EvI.const.use fun s₂ t2 g₂ => spliced_none ?_) q2) q1) q1 (by rw [q2]; rfl)
  refine divmod_int h0 ?_ (.inl (PyProof.noPylong_small hs))
  have g₃ : Grow s₂ { s₂ with toks := s₂.toks + 1 + 1, heap := s₂.heap.push { cls := .type "tuple", data := .seq #[.int (a.fdiv b) s₂.toks, .int (a.fmod b) (s₂.toks + 1)] } } := ⟨fun _ _ e => Heap.get?_push_of_some _ e, rfl, rfl⟩
  have g := g₁.trans (g₂.trans g₃)
  refine ldE (hn.keeps g.keep) hv ?_ hk hl hd
  have hT : IsTup (s₂.heap.push { cls := .type "tuple", data := .seq #[.int (a.fdiv b) s₂.toks, .int (a.fmod b) (s₂.toks + 1)] }) s₂.heap.objs.size [Value.int (a.fdiv b) s₂.toks, .int (a.fmod b) (s₂.toks + 1)].toArray := ⟨_, Heap.get?_push_size _ rfl, rfl, _, rfl⟩
  have hi' : i = 0 ∨ i = 1 := by omega
  rcases hi' with rfl | rfl
  · exact item_tupleT (j := 0) (l := [Value.int (a.fdiv b) s₂.toks, .int (a.fmod b) (s₂.toks + 1)]) hT (by decide) (by decide) (by rfl) rfl ⟨g, _, rfl⟩ (by with_unfolding_all rfl)
  · exact item_tupleT (j := 1) (l := [Value.int (a.fdiv b) s₂.toks, .int (a.fmod b) (s₂.toks + 1)]) hT (by decide) (by decide) (by rfl) rfl ⟨g, _, rfl⟩ (by with_unfolding_all rfl)

/-- range(len(xs)) as what is walked over -/
theorem rangeLen {D : Addr} {vs : List Value} {j : Nat} {x y : Str} {p1 p2 p3 : Pos} (hr : wpAny (model prog w) A (eval (.Name x p) env) (fun v s' => v = .type "range" ∧ s' = s) No s)
    (hn : ∀ s₁, Grow s s₁ → wpAny (model prog w) A (eval (.Name y p1) env) (fun v s' => v = .builtin "len" ∧ s' = s₁) No s₁) (h : ∀ s₁, Grow s s₁ → EvV prog w A env e (.ref D) s₁) (hD : s.heap.get? D = some (listOf vs.toArray j)) (hz : vs.length < 1000000)
    (hc : eval (.Call (.Name x p) [.Call (.Name y p1) [e] [] p2] [] p3) env = (do callWith p3 (← eval (.Name x p) env) [] (backTo p3 (starEach [.Call (.Name y p1) [e] [] p2] env)) (backToKw p3 (keywordEach [] env))) := by rfl)
    (q1 : starEach [.Call (.Name y p1) [e] [] p2] env = (false, eval (.Call (.Name y p1) [e] [] p2) env) :: starEach [] env := by rfl)
    (hc' : eval (.Call (.Name y p1) [e] [] p2) env = (do callWith p2 (← eval (.Name y p1) env) [] (backTo p2 (starEach [e] env)) (backToKw p2 (keywordEach [] env))) := by rfl)
    (q1' : starEach [e] env = (false, eval e env) :: starEach [] env := by rfl) :
    wpAny (model prog w) A (eval (.Call (.Name x p) [.Call (.Name y p1) [e] [] p2] [] p3) env) (fun v s₁ => ∃ r t u w', v = .ref r ∧ Grow s s₁ ∧ IsRange s₁.heap r 0 (vs.length : Nat) 1 t u w') E s := by
  refine Call_ (wpAny_mono hr (fun v s' ⟨q, q'⟩ => ?_) fun _ _ q => q.elim) hc
  subst q q'
  refine callWith_type1 (spliced_more ((EvI.len (hn s' (.refl _)) (h s' (.refl _)) hD hz hc' q1').use fun s₁ t g => spliced_none ?_) q1) q1 rfl
  refine call_range_1 ⟨_, _, _, _, rfl, g.trans ⟨fun _ _ e => Heap.get?_push_of_some _ e, rfl, rfl⟩, Heap.get?_push_size _ rfl⟩
end

/-- the order of a sort: a rank for each item that it meets -/
structure Ord (prog : Program) (w : World) (A : Around) (s : Shared) (κ : SortKind) (key : Keyed → Int) (P : Keyed → Prop) : Prop where
  lt : ∀ {E : Value → Shared → Prop} {Q : Bool → Shared → Prop} {x y : Keyed}, P x → P y → Q (decide (key x < key y)) s → wpAny (model prog w) A (keyLt' κ x.1 y.1) Q E s

def kk (key : Keyed → Int) (xs : Array Keyed) (i : Nat) : Int := match xs[i]? with
  | some p => key p
  | none => 0
def Up (key : Keyed → Int) (xs : Array Keyed) (a b : Nat) : Prop := ∀ i j, a ≤ i → i ≤ j → j < b → kk key xs i ≤ kk key xs j
def Down (key : Keyed → Int) (xs : Array Keyed) (a b : Nat) : Prop := ∀ i j, a ≤ i → i ≤ j → j < b → kk key xs j ≤ kk key xs i
/-- the same items, and outside a..b the same places -/
def Turn (xs ys : Array Keyed) (a b : Nat) : Prop := ys.Perm xs ∧ ∀ k, k < a ∨ b ≤ k → ys[k]? = xs[k]?

theorem kk_congr {key : Keyed → Int} {xs ys : Array Keyed} {i j : Nat} (h : xs[i]? = ys[j]?) : kk key xs i = kk key ys j := by unfold kk; rw [h]
theorem kk_at {key : Keyed → Int} {xs : Array Keyed} {i : Nat} {x : Keyed} (h : xs[i]? = some x) : kk key xs i = key x := by unfold kk; rw [h]

section
variable {key : Keyed → Int} {xs ys zs : Array Keyed} {a b : Nat}
theorem Turn.refl : Turn xs xs a b := ⟨Array.Perm.refl _, fun _ _ => rfl⟩
theorem Turn.trans (h : Turn xs ys a b) (k : Turn ys zs a b) : Turn xs zs a b := ⟨k.1.trans h.1, fun i hi => (k.2 i hi).trans (h.2 i hi)⟩
theorem Turn.size (h : Turn xs ys a b) : ys.size = xs.size := h.1.size_eq
theorem Turn.mono {a' b' : Nat} (h : Turn xs ys a b) (ha : a' ≤ a) (hb : b ≤ b') : Turn xs ys a' b' := ⟨h.1, fun k hk => h.2 k (by omega)⟩
theorem Turn.up {c d : Nat} (h : Turn xs ys a b) (u : Up key xs c d) (hd : d ≤ a) : Up key ys c d := fun i j h1 h2 h3 => by
  rw [kk_congr (h.2 i (by omega)), kk_congr (h.2 j (by omega))]; exact u i j h1 h2 h3
theorem turn_mirror {i j : Nat} (hj : j ≤ xs.size) (ha : a ≤ i) (hb : j ≤ b) : Turn xs (mirror xs i j ((j - i) / 2)) a b :=
  ⟨mirror_perm _ _ _ _, fun k hk => by rw [getElem?_mirror_all hj, if_neg (by omega)]⟩
theorem kk_mirror {i j : Nat} (hj : j ≤ xs.size) (k : Nat) : kk key (mirror xs i j ((j - i) / 2)) k = if i ≤ k ∧ k < j then kk key xs (i + j - 1 - k) else kk key xs k := by
  have e := getElem?_mirror_all (i := i) hj k
  by_cases h1 : i ≤ k ∧ k < j
  · rw [if_pos h1] at e ⊢; exact kk_congr e
  · rw [if_neg h1] at e ⊢; exact kk_congr e
theorem kk_mirror_eq {i j : Nat} (hj : j ≤ xs.size) (he : ∀ k, i ≤ k → k < j → kk key xs k = kk key xs (j - 1)) (k : Nat) : kk key (mirror xs i j ((j - i) / 2)) k = kk key xs k := by
  rw [kk_mirror hj]
  split
  · rw [he _ (by omega) (by omega), he k (by omega) (by omega)]
  · rfl
theorem kk_bubble {src d : Nat} (hs : src < xs.size) (hd : d ≤ src) (k : Nat) :
    kk key (bubble xs src d) k = if k = src - d then kk key xs src else if src - d < k ∧ k ≤ src then kk key xs (k - 1) else kk key xs k := by
  have e := getElem?_bubble hs d hd k
  by_cases h1 : k = src - d
  · rw [if_pos h1] at e ⊢; exact kk_congr e
  · rw [if_neg h1] at e ⊢
    by_cases h2 : src - d < k ∧ k ≤ src
    · rw [if_pos h2] at e ⊢; exact kk_congr e
    · rw [if_neg h2] at e ⊢; exact kk_congr e
theorem turn_bubble {src d : Nat} (hs : src < xs.size) (hd : d ≤ src) (ha : a ≤ src - d) (hb : src < b) : Turn xs (bubble xs src d) a b :=
  ⟨bubble_perm _ _ _, fun k hk => by rw [getElem?_bubble hs d hd, if_neg (by omega), if_neg (by omega)]⟩
end

section
variable {prog : Program} {w : World} {A : Around} {E : Value → Shared → Prop} {s : Shared} {κ : SortKind} {key : Keyed → Int} {P : Keyed → Prop} {st : SortSt}

theorem elem_ {arr : Array Keyed} {i : Nat} {x : Keyed} {Q : Keyed → SortSt → Prop} (hx : arr[i]? = some x) (h : Q x st) : wpS (model prog w) A E s (elem' arr i) Q st := by
  rw [elem'_eq, hx]; exact wpS_pure h
theorem lt_ {x y : Keyed} {Q : Option Bool → SortSt → Prop} (O : Ord prog w A s κ key P) (hk : kindOf st = κ) (px : P x) (py : P y) (h : Q (some (decide (key x < key y))) st) : wpS (model prog w) A E s (lt' x y) Q st := by
  rw [lt'_eq]
  refine wpS_bind (wpS_get ?_)
  rw [hk]
  refine wpS_bind (wpS_lift (wpAny_attempt (O.lt px py ⟨rfl, ?_⟩)))
  exact wpS_pure h
theorem ltAt_ {i j : Nat} {Q : Option Bool → SortSt → Prop} (O : Ord prog w A s κ key P) (hk : kindOf st = κ) (hP : ∀ p ∈ (arrOf st).toList, P p) (hi : i < (arrOf st).size) (hj : j < (arrOf st).size)
    (h : Q (some (decide (kk key (arrOf st) i < kk key (arrOf st) j))) st) : wpS (model prog w) A E s (ltAt' i j) Q st := by
  rw [ltAt'_eq]
  refine wpS_bind (wpS_get ?_)
  have ei := getElem?_pos (arrOf st) i hi
  have ej := getElem?_pos (arrOf st) j hj
  refine wpS_bind (elem_ ei (wpS_bind (elem_ ej (lt_ O hk (hP _ (by simp)) (hP _ (by simp)) ?_))))
  rw [kk_at ei, kk_at ej] at h
  exact h
theorem turnP {xs ys : Array Keyed} {a b : Nat} (h : Turn xs ys a b) (hP : ∀ p ∈ xs.toList, P p) : ∀ p ∈ ys.toList, P p := fun p hp => hP p ((Array.perm_iff_toList_perm.mp h.1).mem_iff.mp hp)
end

section
variable {prog : Program} {w : World} {A : Around} {E : Value → Shared → Prop} {s : Shared} {κ : SortKind} {key : Keyed → Int} {P : Keyed → Prop} {st : SortSt}

/-- a rising run grows from a on -/
theorem asc_ {f : Nat → Option (Option Nat) × Nat → StateT SortSt Sem (ForInStep (Option (Option Nat) × Nat))} {lo a nrem : Nat} {Q : Option (Option Nat) × Nat → SortSt → Prop}
    (O : Ord prog w A s κ key P) (hk : kindOf st = κ) (hP : ∀ p ∈ (arrOf st).toList, P p)
    (hf : ∀ x n R, wpS (model prog w) A E s (ltAt' (lo + n) (lo + n - 1)) (fun o st' => match o with | some true => R (.done (none, n)) st' | some false => R (.yield (none, n + 1)) st' | none => False) st → wpS (model prog w) A E s (f x (none, n)) R st)
    (hn : lo + nrem ≤ (arrOf st).size) (ha : 1 ≤ a) (han : a ≤ nrem) (hs : Up key (arrOf st) lo (lo + a))
    (h : ∀ n, a ≤ n → n ≤ nrem → Up key (arrOf st) lo (lo + n) → (n = nrem ∨ kk key (arrOf st) (lo + n) < kk key (arrOf st) (lo + n - 1)) → Q (none, n) st) :
    wpS (model prog w) A E s (forIn [a:nrem] (none, a) f) Q st := by
  refine wpS_forRange (I := fun x c st' => st' = st ∧ c = (none, x) ∧ Up key (arrOf st) lo (lo + x)) ?step ?fin ⟨rfl, rfl, hs⟩
  case fin =>
    rintro c st' ⟨rfl, rfl, hs'⟩
    rw [show max a nrem = nrem by omega] at hs' ⊢
    exact h nrem han (Nat.le_refl _) hs' (.inl rfl)
  case step =>
    rintro x c st' hax hxn ⟨rfl, rfl, hs'⟩
    refine hf x x _ (ltAt_ O hk hP (by omega) (by omega) ?_)
    by_cases hless : kk key (arrOf st') (lo + x) < kk key (arrOf st') (lo + x - 1)
    · rw [decide_eq_true hless]
      exact h x hax (by omega) hs' (.inr hless)
    · rw [decide_eq_false hless]
      refine ⟨rfl, rfl, fun i j h1 hij hj => ?_⟩
      by_cases hjx : j < lo + x
      · exact hs' i j h1 hij hjx
      · have hj' : j = lo + x := by omega
        subst hj'
        by_cases hi' : i = lo + x
        · rw [hi']; exact Int.le_refl _
        · exact Int.le_trans (hs' i (lo + x - 1) h1 (by omega) (by omega)) (Int.not_lt.mp hless)

/-- a falling run grows from n on; equal neighbours are turned -/
theorem desc_ {f : Nat → Option (Option Nat) × Nat × Nat → StateT SortSt Sem (ForInStep (Option (Option Nat) × Nat × Nat))} {lo n nrem : Nat} {Q : Option (Option Nat) × Nat × Nat → SortSt → Prop}
    (O : Ord prog w A s κ key P) (hk : kindOf st = κ) (hP : ∀ p ∈ (arrOf st).toList, P p)
    (hf : ∀ x n neq R st, wpS (model prog w) A E s (ltAt' (lo + n) (lo + n - 1)) (fun o st' => match o with
      | some true => if neq > 0 then R (.yield (none, n + 1, 0)) (setArr st' (mirror (arrOf st') (lo + n - (neq + 1)) (lo + n) ((lo + n - (lo + n - (neq + 1))) / 2))) else R (.yield (none, n + 1, 0)) st'
      | some false => wpS (model prog w) A E s (ltAt' (lo + n - 1) (lo + n)) (fun o st' => match o with | some true => R (.done (none, n, neq)) st' | some false => R (.yield (none, n + 1, neq + 1)) st' | none => False) st'
      | none => False) st → wpS (model prog w) A E s (f x (none, n, neq)) R st)
    (hn : lo + nrem ≤ (arrOf st).size) (h1 : 1 ≤ n) (hnn : n ≤ nrem) (hs : Down key (arrOf st) lo (lo + n))
    (h : ∀ m neq ys, Turn (arrOf st) ys lo (lo + nrem) → n ≤ m → m ≤ nrem → Down key ys lo (lo + m) → neq + 1 ≤ m → (∀ i, lo + m - (neq + 1) ≤ i → i < lo + m → kk key ys i = kk key ys (lo + m - 1)) → Q (none, m, neq) (setArr st ys)) :
    wpS (model prog w) A E s (forIn [n:nrem] (none, n, 0) f) Q st := by
  refine wpS_forRange (I := fun x c st' => ∃ neq ys, c = (none, x, neq) ∧ st' = setArr st ys ∧ Turn (arrOf st) ys lo (lo + nrem) ∧ Down key ys lo (lo + x) ∧ neq + 1 ≤ x ∧
      (∀ i, lo + x - (neq + 1) ≤ i → i < lo + x → kk key ys i = kk key ys (lo + x - 1))) ?step ?fin ⟨0, arrOf st, rfl, rfl, .refl, hs, by omega, fun i h1 h2 => by congr 1; omega⟩
  case fin =>
    rintro c st' ⟨neq, ys, rfl, rfl, T, hs', hq, he⟩
    rw [show max n nrem = nrem by omega] at hs' hq he ⊢
    exact h nrem neq ys T hnn (Nat.le_refl _) hs' hq he
  case step =>
    rintro x c st' hax hxn ⟨neq, ys, rfl, rfl, T, hs', hq, he⟩
    have hz := T.size
    have hsz : lo + x ≤ ys.size := by omega
    have hP' := turnP T hP
    refine hf x x neq _ _ (ltAt_ (st := setArr st ys) O hk hP' (show lo + x < ys.size by omega) (show lo + x - 1 < ys.size by omega) ?_)
    show match some (decide (kk key ys (lo + x) < kk key ys (lo + x - 1))) with | some true => _ | some false => _ | none => _
    by_cases hless : kk key ys (lo + x) < kk key ys (lo + x - 1)
    · rw [decide_eq_true hless]
      dsimp only
      have step1 : ∀ zs : Array Keyed, (∀ k, kk key zs k = kk key ys k) → Down key zs lo (lo + (x + 1)) := by
        intro zs hk i j h1 hij hj
        rw [hk, hk]
        by_cases hjx : j < lo + x
        · exact hs' i j h1 hij hjx
        · have hj' : j = lo + x := by omega
          subst hj'
          by_cases hi' : i = lo + x
          · rw [hi']; exact Int.le_refl _
          · exact Int.le_trans (Int.le_of_lt hless) (hs' i (lo + x - 1) h1 (by omega) (by omega))
      split
      · exact ⟨0, _, rfl, rfl, T.trans (turn_mirror (by omega) (by omega) (by omega)), step1 _ (kk_mirror_eq hsz he), by omega, fun i h1 h2 => by congr 1; omega⟩
      · exact ⟨0, ys, rfl, rfl, T, step1 _ (fun _ => rfl), by omega, fun i h1 h2 => by congr 1; omega⟩
    · rw [decide_eq_false hless]
      dsimp only
      refine ltAt_ (st := setArr st ys) O hk hP' (show lo + x - 1 < ys.size by omega) (show lo + x < ys.size by omega) ?_
      show match some (decide (kk key ys (lo + x - 1) < kk key ys (lo + x))) with | some true => _ | some false => _ | none => _
      by_cases hl : kk key ys (lo + x - 1) < kk key ys (lo + x)
      · rw [decide_eq_true hl]
        exact h x neq ys T hax (by omega) hs' hq he
      · rw [decide_eq_false hl]
        have heqx : kk key ys (lo + x) = kk key ys (lo + x - 1) := by omega
        refine ⟨neq + 1, ys, rfl, rfl, T, fun i j h1 hij hj => ?_, by omega, fun i h1 h2 => ?_⟩
        · by_cases hjx : j < lo + x
          · exact hs' i j h1 hij hjx
          · have hj' : j = lo + x := by omega
            subst hj'
            by_cases hi' : i = lo + x
            · rw [hi']; exact Int.le_refl _
            · rw [heqx]; exact hs' i (lo + x - 1) h1 (by omega) (by omega)
        · rw [show lo + (x + 1) - 1 = lo + x by omega]
          by_cases hix : i = lo + x
          · rw [hix]
          · rw [heqx]; exact he i (by omega) (by omega)

theorem rev_ {i j : Nat} {Q : Unit → SortSt → Prop} (h : Q () (setArr st (mirror (arrOf st) i j ((j - i) / 2)))) : wpS (model prog w) A E s (reverseSlice' i j) Q st := by
  rw [reverseSlice'_eq]; exact wpS_modify h

theorem rises {ys : Array Keyed} {lo m : Nat} (D : Down key ys lo (lo + m)) (hz : lo + m ≤ ys.size) : Up key (mirror ys lo (lo + m) ((lo + m - lo) / 2)) lo (lo + m) := by
  intro i j h1 h2 h3
  rw [kk_mirror hz, kk_mirror hz, if_pos (by omega), if_pos (by omega)]
  exact D _ _ (by omega) (by omega) (by omega)

theorem countRun_ {lo nrem : Nat} {Q : Option Nat → SortSt → Prop} (O : Ord prog w A s κ key P) (hk : kindOf st = κ) (hP : ∀ p ∈ (arrOf st).toList, P p) (hn : lo + nrem ≤ (arrOf st).size) (h1 : 1 ≤ nrem)
    (h : ∀ m ys, Turn (arrOf st) ys lo (lo + nrem) → 1 ≤ m → m ≤ nrem → Up key ys lo (lo + m) → Q (some m) (setArr st ys)) :
    wpS (model prog w) A E s (countRun' lo nrem) Q st := by
  rw [countRun'_eq]
  refine wpS_bind (asc_ O hk hP (fun x n R h' => ?_) hn (Nat.le_refl 1) h1 (fun i j h1 h2 h3 => by rw [show i = j by omega]; exact Int.le_refl _) fun n hn1 hn2 hsn hor => ?_)
  · dsimp only
    refine wpS_bind (wpS_mono h' fun o st' h'' => ?_)
    match o, h'' with
    | some true, h'' => exact wpS_pure h''
    | some false, h'' => exact wpS_pure h''
    | none, h'' => exact h''.elim
  dsimp only
  by_cases hnn : n = nrem
  · rw [if_pos (by simpa using hnn)]
    exact wpS_pure (h n (arrOf st) .refl hn1 hn2 hsn)
  rw [if_neg (by simpa using hnn)]
  have hlt : kk key (arrOf st) (lo + n) < kk key (arrOf st) (lo + n - 1) := hor.resolve_left hnn
  by_cases hgt : n > 1
  · rw [if_pos hgt]
    refine wpS_bind (ltAt_ O hk hP (by omega) (by omega) ?_)
    by_cases hrose : kk key (arrOf st) lo < kk key (arrOf st) (lo + n - 1)
    · rw [decide_eq_true hrose]
      exact wpS_pure (h n (arrOf st) .refl hn1 hn2 hsn)
    rw [decide_eq_false hrose]
    dsimp only
    rw [if_neg (by decide)]
    have hsz : lo + n ≤ (arrOf st).size := by omega
    have hall : ∀ k, lo ≤ k → k < lo + n → kk key (arrOf st) k = kk key (arrOf st) (lo + n - 1) := by
      intro k hk1 hk
      have a1 := hsn lo k (Nat.le_refl _) hk1 hk
      have a2 := hsn k (lo + n - 1) hk1 (by omega) (by omega)
      omega
    refine wpS_bind (rev_ ?_)
    have T₁ : Turn (arrOf st) (mirror (arrOf st) lo (lo + n) ((lo + n - lo) / 2)) lo (lo + nrem) := turn_mirror hsz (Nat.le_refl _) (by omega)
    have D₁ : Down key (mirror (arrOf st) lo (lo + n) ((lo + n - lo) / 2)) lo (lo + (n + 1)) := by
      intro i j h1 hij hj
      rw [kk_mirror_eq hsz hall, kk_mirror_eq hsz hall]
      by_cases hjn : j < lo + n
      · rw [hall i h1 (by omega), hall j (by omega) hjn]; exact Int.le_refl _
      · have hj' : j = lo + n := by omega
        subst hj'
        by_cases hi' : i = lo + n
        · rw [hi']; exact Int.le_refl _
        · rw [hall i h1 (by omega)]; exact Int.le_of_lt hlt
    generalize mirror (arrOf st) lo (lo + n) ((lo + n - lo) / 2) = ys₁ at *
    refine wpS_bind (wpS_lift (wpAny_rule ⟨rfl, ?_⟩))
    refine wpS_bind (desc_ (st := setArr st ys₁) O hk (turnP T₁ hP) (fun x n neq R st₀ h' => ?_) (by show lo + nrem ≤ ys₁.size; rw [T₁.size]; exact hn) (show 1 ≤ n + 1 by omega) (by omega) D₁ fun m neq ys₂ T₂' hm1 hm2 D₂ hq he => ?_)
    · dsimp only
      refine wpS_bind (wpS_mono h' fun o st' h'' => ?_)
      match o, h'' with
      | some true, h'' =>
        dsimp only at h'' ⊢
        rw [if_pos rfl]
        by_cases hq : neq > 0
        · rw [if_pos hq] at h'' ⊢
          exact wpS_bind (rev_ (wpS_pure h''))
        · rw [if_neg hq] at h'' ⊢
          exact wpS_pure h''
      | some false, h'' =>
        dsimp only at h'' ⊢
        rw [if_neg (by decide)]
        refine wpS_bind (wpS_mono h'' fun o st' h₃ => ?_)
        match o, h₃ with
        | some true, h₃ => exact wpS_pure h₃
        | some false, h₃ => exact wpS_pure h₃
        | none, h₃ => exact h₃.elim
      | none, h'' => exact h''.elim
    dsimp only
    have T₂ : Turn (arrOf st) ys₂ lo (lo + nrem) := T₁.trans T₂'
    have hz₂ : lo + m ≤ ys₂.size := by rw [T₂.size]; omega
    by_cases hneq : neq > 0
    · rw [if_pos hneq]
      refine wpS_bind (rev_ ?_)
      have T₃ : Turn (arrOf st) (mirror ys₂ (lo + m - (neq + 1)) (lo + m) ((lo + m - (lo + m - (neq + 1))) / 2)) lo (lo + nrem) := T₂.trans (turn_mirror (by omega) (by omega) (by omega))
      have D₃ : Down key (mirror ys₂ (lo + m - (neq + 1)) (lo + m) ((lo + m - (lo + m - (neq + 1))) / 2)) lo (lo + m) := fun i j h1 h2 h3 => by
        rw [kk_mirror_eq hz₂ he, kk_mirror_eq hz₂ he]; exact D₂ i j h1 h2 h3
      have hz₃ : lo + m ≤ (mirror ys₂ (lo + m - (neq + 1)) (lo + m) ((lo + m - (lo + m - (neq + 1))) / 2)).size := by rw [mirror_size]; exact hz₂
      show wpS _ _ _ _ _ _ (setArr st (mirror ys₂ (lo + m - (neq + 1)) (lo + m) ((lo + m - (lo + m - (neq + 1))) / 2)))
      generalize mirror ys₂ (lo + m - (neq + 1)) (lo + m) ((lo + m - (lo + m - (neq + 1))) / 2) = ys₃ at *
      refine wpS_bind (rev_ ?_)
      refine wpS_bind (asc_ (st := setArr st (mirror ys₃ lo (lo + m) ((lo + m - lo) / 2))) O hk (turnP (T₃.trans (turn_mirror (by omega) (Nat.le_refl _) (by omega))) hP) (fun x n R h' => ?_) (by show lo + nrem ≤ (mirror ys₃ lo (lo + m) ((lo + m - lo) / 2)).size; rw [mirror_size, T₃.size]; exact hn) (show 1 ≤ m by omega) hm2 (rises D₃ hz₃) fun n' hn1 hn2 hsn _ => ?_)
      · dsimp only
        refine wpS_bind (wpS_mono h' fun o st' h'' => ?_)
        match o, h'' with
        | some true, h'' => exact wpS_pure h''
        | some false, h'' => exact wpS_pure h''
        | none, h'' => exact h''.elim
      exact wpS_pure (h n' _ (T₃.trans (turn_mirror (by omega) (Nat.le_refl _) (by omega))) (by omega) hn2 hsn)
    · rw [if_neg hneq]
      refine wpS_bind (rev_ ?_)
      refine wpS_bind (asc_ (st := setArr st (mirror ys₂ lo (lo + m) ((lo + m - lo) / 2))) O hk (turnP (T₂.trans (turn_mirror (by omega) (Nat.le_refl _) (by omega))) hP) (fun x n R h' => ?_) (by show lo + nrem ≤ (mirror ys₂ lo (lo + m) ((lo + m - lo) / 2)).size; rw [mirror_size, T₂.size]; exact hn) (show 1 ≤ m by omega) hm2 (rises D₂ hz₂) fun n' hn1 hn2 hsn _ => ?_)
      · dsimp only
        refine wpS_bind (wpS_mono h' fun o st' h'' => ?_)
        match o, h'' with
        | some true, h'' => exact wpS_pure h''
        | some false, h'' => exact wpS_pure h''
        | none, h'' => exact h''.elim
      exact wpS_pure (h n' _ (T₂.trans (turn_mirror (by omega) (Nat.le_refl _) (by omega))) (by omega) hn2 hsn)
  · rw [if_neg hgt]
    have hn1' : n = 1 := by omega
    have T₁ : Turn (arrOf st) (arrOf st) lo (lo + nrem) := .refl
    have D₁ : Down key (arrOf st) lo (lo + (n + 1)) := by
      intro i j h1 hij hj
      by_cases hi' : i = j
      · rw [hi']; exact Int.le_refl _
      · have hi0 : i = lo := by omega
        have hj1 : j = lo + n := by omega
        subst hi0; subst hj1
        rw [hn1'] at hlt ⊢
        exact Int.le_of_lt hlt
    have hex : ∃ ys₁, ys₁ = arrOf st ∧ Turn (arrOf st) ys₁ lo (lo + nrem) ∧ Down key ys₁ lo (lo + (n + 1)) := ⟨_, rfl, T₁, D₁⟩
    clear T₁ D₁
    obtain ⟨ys₁, hys, T₁, D₁⟩ := hex
    show wpS _ _ _ _ _ _ (setArr st (arrOf st))
    rw [← hys]
    refine wpS_bind (wpS_lift (wpAny_rule ⟨rfl, ?_⟩))
    refine wpS_bind (desc_ (st := setArr st ys₁) O hk (turnP T₁ hP) (fun x n neq R st₀ h' => ?_) (by show lo + nrem ≤ ys₁.size; rw [T₁.size]; exact hn) (show 1 ≤ n + 1 by omega) (by omega) D₁ fun m neq ys₂ T₂' hm1 hm2 D₂ hq he => ?_)
    · dsimp only
      refine wpS_bind (wpS_mono h' fun o st' h'' => ?_)
      match o, h'' with
      | some true, h'' =>
        dsimp only at h'' ⊢
        rw [if_pos rfl]
        by_cases hq : neq > 0
        · rw [if_pos hq] at h'' ⊢
          exact wpS_bind (rev_ (wpS_pure h''))
        · rw [if_neg hq] at h'' ⊢
          exact wpS_pure h''
      | some false, h'' =>
        dsimp only at h'' ⊢
        rw [if_neg (by decide)]
        refine wpS_bind (wpS_mono h'' fun o st' h₃ => ?_)
        match o, h₃ with
        | some true, h₃ => exact wpS_pure h₃
        | some false, h₃ => exact wpS_pure h₃
        | none, h₃ => exact h₃.elim
      | none, h'' => exact h''.elim
    dsimp only
    have T₂ : Turn (arrOf st) ys₂ lo (lo + nrem) := T₁.trans T₂'
    have hz₂ : lo + m ≤ ys₂.size := by rw [T₂.size]; omega
    by_cases hneq : neq > 0
    · rw [if_pos hneq]
      refine wpS_bind (rev_ ?_)
      have T₃ : Turn (arrOf st) (mirror ys₂ (lo + m - (neq + 1)) (lo + m) ((lo + m - (lo + m - (neq + 1))) / 2)) lo (lo + nrem) := T₂.trans (turn_mirror (by omega) (by omega) (by omega))
      have D₃ : Down key (mirror ys₂ (lo + m - (neq + 1)) (lo + m) ((lo + m - (lo + m - (neq + 1))) / 2)) lo (lo + m) := fun i j h1 h2 h3 => by
        rw [kk_mirror_eq hz₂ he, kk_mirror_eq hz₂ he]; exact D₂ i j h1 h2 h3
      have hz₃ : lo + m ≤ (mirror ys₂ (lo + m - (neq + 1)) (lo + m) ((lo + m - (lo + m - (neq + 1))) / 2)).size := by rw [mirror_size]; exact hz₂
      show wpS _ _ _ _ _ _ (setArr st (mirror ys₂ (lo + m - (neq + 1)) (lo + m) ((lo + m - (lo + m - (neq + 1))) / 2)))
      generalize mirror ys₂ (lo + m - (neq + 1)) (lo + m) ((lo + m - (lo + m - (neq + 1))) / 2) = ys₃ at *
      refine wpS_bind (rev_ ?_)
      refine wpS_bind (asc_ (st := setArr st (mirror ys₃ lo (lo + m) ((lo + m - lo) / 2))) O hk (turnP (T₃.trans (turn_mirror (by omega) (Nat.le_refl _) (by omega))) hP) (fun x n R h' => ?_) (by show lo + nrem ≤ (mirror ys₃ lo (lo + m) ((lo + m - lo) / 2)).size; rw [mirror_size, T₃.size]; exact hn) (show 1 ≤ m by omega) hm2 (rises D₃ hz₃) fun n' hn1 hn2 hsn _ => ?_)
      · dsimp only
        refine wpS_bind (wpS_mono h' fun o st' h'' => ?_)
        match o, h'' with
        | some true, h'' => exact wpS_pure h''
        | some false, h'' => exact wpS_pure h''
        | none, h'' => exact h''.elim
      exact wpS_pure (h n' _ (T₃.trans (turn_mirror (by omega) (Nat.le_refl _) (by omega))) (by omega) hn2 hsn)
    · rw [if_neg hneq]
      refine wpS_bind (rev_ ?_)
      refine wpS_bind (asc_ (st := setArr st (mirror ys₂ lo (lo + m) ((lo + m - lo) / 2))) O hk (turnP (T₂.trans (turn_mirror (by omega) (Nat.le_refl _) (by omega))) hP) (fun x n R h' => ?_) (by show lo + nrem ≤ (mirror ys₂ lo (lo + m) ((lo + m - lo) / 2)).size; rw [mirror_size, T₂.size]; exact hn) (show 1 ≤ m by omega) hm2 (rises D₂ hz₂) fun n' hn1 hn2 hsn _ => ?_)
      · dsimp only
        refine wpS_bind (wpS_mono h' fun o st' h'' => ?_)
        match o, h'' with
        | some true, h'' => exact wpS_pure h''
        | some false, h'' => exact wpS_pure h''
        | none, h'' => exact h''.elim
      exact wpS_pure (h n' _ (T₂.trans (turn_mirror (by omega) (Nat.le_refl _) (by omega))) (by omega) hn2 hsn)
end

section
variable {prog : Program} {w : World} {A : Around} {E : Value → Shared → Prop} {s : Shared} {κ : SortKind} {key : Keyed → Int} {P : Keyed → Prop} {st : SortSt}

theorem binarySort_ {lo n ok : Nat} {Q : Bool → SortSt → Prop} (O : Ord prog w A s κ key P) (hk : kindOf st = κ) (hP : ∀ p ∈ (arrOf st).toList, P p) (hn : lo + n ≤ (arrOf st).size) (hok : ok ≤ n) (hs : Up key (arrOf st) lo (lo + ok))
    (h : ∀ ys, Turn (arrOf st) ys lo (lo + n) → Up key ys lo (lo + n) → Q true (setArr st ys)) : wpS (model prog w) A E s (binarySort' lo n ok) Q st := by
  rw [binarySort'_eq]
  refine wpS_bind (wpS_mono (wpS_forRange (I := fun k c st' => c = (none, ()) ∧ ∃ ys, st' = setArr st ys ∧ Turn (arrOf st) ys lo (lo + n) ∧ Up key ys lo (lo + min k n))
    (Q := fun c st' => c = (none, ()) ∧ ∃ ys, st' = setArr st ys ∧ Turn (arrOf st) ys lo (lo + n) ∧ Up key ys lo (lo + n)) ?step ?fin ?init) ?post)
  case post =>
    rintro c st' ⟨rfl, ys, rfl, T, hs'⟩
    exact wpS_pure (h ys T hs')
  case init =>
    refine ⟨rfl, arrOf st, rfl, .refl, fun i j h1 hij hj => ?_⟩
    by_cases h0 : ok = 0
    · rw [show i = j by omega]; exact Int.le_refl _
    · exact hs i j h1 hij (by omega)
  case fin =>
    rintro c st' ⟨hc, ys, rfl, T, hs'⟩
    refine ⟨hc, ys, rfl, T, ?_⟩
    rwa [show min (max (max ok 1) n) n = n by omega] at hs'
  case step =>
    rintro k c st' hak hkn ⟨rfl, ys, rfl, T, hs'⟩
    rw [show min k n = k by omega] at hs'
    have hz := T.size
    have hP' := turnP T hP
    refine wpS_bind (wpS_mono (wpS_forRange (I := fun x c st'' => st'' = setArr st ys ∧ ∃ l r, c = (none, l, r) ∧ l ≤ r ∧ r ≤ k ∧ r - l ≤ k - x ∧
        (∀ i, i < l → kk key ys (lo + i) ≤ kk key ys (lo + k)) ∧ (∀ i, r ≤ i → i < k → kk key ys (lo + k) < kk key ys (lo + i)))
      (Q := fun c st'' => st'' = setArr st ys ∧ ∃ l r, c = (none, l, r) ∧ l ≤ k ∧
        (∀ i, i < l → kk key ys (lo + i) ≤ kk key ys (lo + k)) ∧ (∀ i, l ≤ i → i < k → kk key ys (lo + k) < kk key ys (lo + i))) ?istep ?ifin ?iinit) ?ipost)
    case iinit => exact ⟨rfl, 0, k, rfl, by omega, by omega, by omega, fun i hi => by omega, fun i h1 h2 => by omega⟩
    case ifin =>
      rintro c st'' ⟨rfl, l, r, rfl, hlr, hrk, hm, hlo, hhi⟩
      have : l = r := by omega
      subst this
      exact ⟨rfl, l, l, rfl, hrk, hlo, hhi⟩
    case istep =>
      rintro x c st'' _ hxk ⟨rfl, l, r, rfl, hlr, hrk, hm, hlo, hhi⟩
      dsimp only
      by_cases hge : l ≥ r
      · rw [if_pos hge]
        have : l = r := by omega
        subst this
        exact wpS_pure ⟨rfl, l, l, rfl, hrk, hlo, hhi⟩
      · rw [if_neg hge]
        refine wpS_bind (ltAt_ (st := setArr st ys) O hk hP' (show lo + k < ys.size by omega) (show lo + (l + r) / 2 < ys.size by omega) ?_)
        by_cases hless : kk key ys (lo + k) < kk key ys (lo + (l + r) / 2)
        · simp only [hless, decide_true, if_true]
          refine wpS_pure ⟨rfl, l, (l + r) / 2, rfl, by omega, by omega, by omega, hlo, fun i h1 h2 => ?_⟩
          exact Int.lt_of_lt_of_le hless (hs' _ _ (by omega) (by omega) (by omega))
        · simp only [hless, decide_false, Bool.false_eq_true, if_false]
          refine wpS_pure ⟨rfl, (l + r) / 2 + 1, r, rfl, by omega, by omega, by omega, fun i h1 => ?_, hhi⟩
          exact Int.le_trans (hs' (lo + i) (lo + (l + r) / 2) (by omega) (by omega) (by omega)) (Int.not_lt.mp hless)
    case ipost =>
      rintro c st'' ⟨rfl, l, r, rfl, hlk, hlo, hhi⟩
      dsimp only
      rw [moveDown'_eq]
      have hks : lo + k < ys.size := by omega
      refine wpS_bind (wpS_modify (wpS_pure ⟨rfl, bubble ys (lo + k) (lo + k - (lo + l)), rfl, T.trans (turn_bubble hks (by omega) (by omega) (by omega)), ?_⟩))
      rw [show min (k + 1) n = k + 1 by omega]
      intro i j h1 hij hj
      rw [kk_bubble hks (by omega), kk_bubble hks (by omega), show lo + k - (lo + k - (lo + l)) = lo + l by omega]
      have lo' : ∀ i, lo ≤ i → i < lo + l → kk key ys i ≤ kk key ys (lo + k) := fun i h1 h2 => by have := hlo (i - lo) (by omega); rwa [show lo + (i - lo) = i by omega] at this
      have hi' : ∀ i, lo + l ≤ i → i < lo + k → kk key ys (lo + k) < kk key ys i := fun i h1 h2 => by have := hhi (i - lo) (by omega) (by omega); rwa [show lo + (i - lo) = i by omega] at this
      repeat' split
      all_goals first
        | (exfalso; omega)
        | exact Int.le_refl _
        | exact lo' _ (by omega) (by omega)
        | exact Int.le_of_lt (hi' _ (by omega) (by omega))
        | exact hs' _ _ (by omega) (by omega) (by omega)

def gallop' : Bool → Keyed → Array Keyed → Nat → Nat → Nat → StateT SortSt Sem (Option Nat) := sortPriv% PySem.Builtin.gallop
def mergeLo' : Array Keyed → Array Keyed → StateT SortSt Sem (Array Keyed) := sortPriv% PySem.Builtin.mergeLo
def mergeHi' : Array Keyed → Array Keyed → StateT SortSt Sem (Array Keyed) := sortPriv% PySem.Builtin.mergeHi

theorem bey_ {left : Bool} {x : Keyed} {arr : Array Keyed} {j : Nat} {R : Option Bool → SortSt → Prop} (O : Ord prog w A s κ key P) (hk : kindOf st = κ) (px : P x) (hP : ∀ p ∈ arr.toList, P p) (hj : j < arr.size)
    (h : R (some (if left then decide (kk key arr j < key x) else !decide (key x < kk key arr j))) st) :
    wpS (model prog w) A E s (elem' arr j >>= fun y => if left = true then lt' y x else (lt' x y >>= fun r => pure (r.map (!·)))) R st := by
  have e := getElem?_pos arr j hj
  refine wpS_bind (elem_ e ?_)
  rw [kk_at e] at h
  have py : P arr[j] := hP _ (by simp)
  cases left with
  | true => rw [if_pos rfl]; exact lt_ O hk py px h
  | false => rw [if_neg (by decide)]; exact wpS_bind (lt_ O hk px py (wpS_pure h))

/-- the search between two bounds -/
theorem search_ {f : Nat → Option (Option Nat) × Nat × Nat → StateT SortSt Sem (ForInStep (Option (Option Nat) × Nat × Nat))} {left : Bool} {x : Keyed} {arr : Array Keyed} {base n lo hi : Nat} {Q : Option (Option Nat) × Nat × Nat → SortSt → Prop} {B : Nat → Bool} (O : Ord prog w A s κ key P) (hk : kindOf st = κ) (px : P x) (hP : ∀ p ∈ arr.toList, P p) (hz : base + n ≤ arr.size)
    (hB : ∀ i, i < n → B i = if left then decide (kk key arr (base + i) < key x) else !decide (key x < kk key arr (base + i)))
    (hm : ∀ i j, i ≤ j → j < n → B j = true → B i = true) (hl : lo ≤ hi) (hn : hi ≤ n) (low : ∀ i, i < lo → B i = true) (high : ∀ i, hi ≤ i → i < n → B i = false)
    (hf : ∀ y lo hi R, (if lo ≥ hi then R (.done (none, lo, hi)) st else lo + (hi - lo) / 2 < n ∧ if B (lo + (hi - lo) / 2) = true then R (.yield (none, lo + (hi - lo) / 2 + 1, hi)) st else R (.yield (none, lo, lo + (hi - lo) / 2)) st) → wpS (model prog w) A E s (f y (none, lo, hi)) R st)
    (h : ∀ k, k ≤ n → (∀ i, i < k → B i = true) → (∀ i, k ≤ i → i < n → B i = false) → Q (none, k, k) st) : wpS (model prog w) A E s (forIn [0:n] (none, lo, hi) f) Q st := by
  have hm' : ∀ i j, i ≤ j → j < n → B i = false → B j = false := fun i j h1 h2 h3 => by
    cases q : B j with
    | false => rfl
    | true => rw [hm i j h1 h2 q] at h3; cases h3
  refine wpS_forRange (I := fun x c st' => st' = st ∧ ∃ lo hi, c = (none, lo, hi) ∧ lo ≤ hi ∧ hi ≤ n ∧ hi - lo ≤ n - x ∧ (∀ i, i < lo → B i = true) ∧ ∀ i, hi ≤ i → i < n → B i = false) ?step ?fin ⟨rfl, lo, hi, rfl, hl, hn, by omega, low, high⟩
  case fin =>
    rintro c st' ⟨rfl, lo, hi, rfl, h1, h2, h3, h4, h5⟩
    have : lo = hi := by omega
    subst this
    exact h lo h2 h4 h5
  case step =>
    rintro i c st' _ hi' ⟨rfl, lo, hi, rfl, h1, h2, h3, h4, h5⟩
    refine hf i lo hi _ ?_
    by_cases hge : lo ≥ hi
    · rw [if_pos hge]
      have : lo = hi := by omega
      subst this
      exact h lo h2 h4 h5
    · rw [if_neg hge]
      refine ⟨by omega, ?_⟩
      cases hb : B (lo + (hi - lo) / 2) with
      | true =>
        rw [if_pos rfl]
        exact ⟨rfl, _, hi, rfl, by omega, h2, by omega, fun i h6 => hm i _ (by omega) (by omega) hb, h5⟩
      | false =>
        rw [if_neg (by decide)]
        exact ⟨rfl, lo, _, rfl, by omega, by omega, by omega, h4, fun i h6 h7 => hm' _ i h6 h7 hb⟩

/-- the place of an item in a rising stretch: beyond holds below it and fails from it on -/
theorem gallop_ {left : Bool} {x : Keyed} {arr : Array Keyed} {base n hint : Nat} {Q : Option Nat → SortSt → Prop} {B : Nat → Bool} (O : Ord prog w A s κ key P) (hk : kindOf st = κ) (px : P x) (hP : ∀ p ∈ arr.toList, P p) (hz : base + n ≤ arr.size) (hh : hint < n)
    (hB : ∀ i, i < n → B i = if left then decide (kk key arr (base + i) < key x) else !decide (key x < kk key arr (base + i)))
    (hm : ∀ i j, i ≤ j → j < n → B j = true → B i = true)
    (h : ∀ k, k ≤ n → (∀ i, i < k → B i = true) → (∀ i, k ≤ i → i < n → B i = false) → Q (some k) st) : wpS (model prog w) A E s (gallop' left x arr base n hint) Q st := by
  have hm' : ∀ i j, i ≤ j → j < n → B i = false → B j = false := fun i j h1 h2 h3 => by
    cases q : B j with
    | false => rfl
    | true => rw [hm i j h1 h2 q] at h3; cases h3
  unfold gallop'
  refine wpS_bind (bey_ O hk px hP (show base + hint < arr.size by omega) ?_)
  rw [← hB hint hh]
  dsimp only
  cases hr : B hint with
  | true =>
    rw [if_pos rfl]
    refine wpS_bind (wpS_mono (wpS_forRange (I := fun x c st' => st' = st ∧ ∃ la of, c = (none, la, of) ∧ la < of ∧ x + 1 ≤ of ∧ la < n - hint ∧ B (hint + la) = true)
      (Q := fun c st' => st' = st ∧ ∃ la of, c = (none, la, of) ∧ la < of ∧ la < n - hint ∧ B (hint + la) = true ∧ (of < n - hint → B (hint + of) = false)) ?step ?fin ?init) ?post)
    case init => exact ⟨rfl, 0, 1, rfl, by omega, by omega, by omega, hr⟩
    case fin =>
      rintro c st' ⟨rfl, la, of, rfl, h1, h2, h3, h4⟩
      exact ⟨rfl, la, of, rfl, h1, h3, h4, fun q => by omega⟩
    case step =>
      rintro i c st' _ hi ⟨rfl, la, of, rfl, h1, h2, h3, h4⟩
      dsimp only
      by_cases hge : of ≥ n - hint
      · rw [if_pos hge]
        exact wpS_pure ⟨rfl, la, of, rfl, h1, h3, h4, fun q => by omega⟩
      · rw [if_neg hge]
        refine wpS_bind (bey_ O hk px hP (show base + (hint + of) < arr.size by omega) ?_)
        rw [← hB (hint + of) (by omega)]
        dsimp only
        cases hb : B (hint + of) with
        | true =>
          rw [if_neg (by decide)]
          exact wpS_pure ⟨rfl, of, 2 * of + 1, rfl, by omega, by omega, by omega, hb⟩
        | false =>
          rw [if_pos (by decide)]
          exact wpS_pure ⟨rfl, la, of, rfl, h1, h3, h4, fun _ => hb⟩
    case post =>
      rintro c st' ⟨rfl, la, of, rfl, h1, h2, h3, h4⟩
      dsimp only
      have low : ∀ i, i < hint + la + 1 → B i = true := fun i hi => hm i (hint + la) (by omega) (by omega) h3
      have high : ∀ i, hint + min of (n - hint) ≤ i → i < n → B i = false := fun i h5 h6 => hm' (hint + of) i (by omega) h6 (h4 (by omega))
      refine wpS_bind (search_ O hk px hP hz hB hm (by omega) (by omega) low high (fun y lo hi R h' => ?_) fun k h1 h2 h3 => wpS_pure (h k h1 h2 h3))
      dsimp only
      by_cases hge : lo ≥ hi
      · rw [if_pos hge] at h' ⊢
        exact wpS_pure h'
      · rw [if_neg hge] at h' ⊢
        obtain ⟨hlt, h'⟩ := h'
        refine wpS_bind (bey_ O hk px hP (show base + (lo + (hi - lo) / 2) < arr.size by omega) ?_)
        rw [← hB _ hlt]
        dsimp only
        cases hb : B (lo + (hi - lo) / 2) with
        | true =>
          rw [hb, if_pos rfl] at h'
          rw [if_pos rfl]
          exact wpS_pure h'
        | false =>
          rw [hb, if_neg (by decide)] at h'
          rw [if_neg (by decide)]
          exact wpS_pure h'
  | false =>
    rw [if_neg (by decide)]
    refine wpS_bind (wpS_mono (wpS_forRange (I := fun x c st' => st' = st ∧ ∃ la of, c = (none, la, of) ∧ la < of ∧ x + 1 ≤ of ∧ la ≤ hint ∧ B (hint - la) = false)
      (Q := fun c st' => st' = st ∧ ∃ la of, c = (none, la, of) ∧ la < of ∧ la ≤ hint ∧ B (hint - la) = false ∧ (of < hint + 1 → B (hint - of) = true)) ?step ?fin ?init) ?post)
    case init => exact ⟨rfl, 0, 1, rfl, by omega, by omega, by omega, hr⟩
    case fin =>
      rintro c st' ⟨rfl, la, of, rfl, h1, h2, h3, h4⟩
      exact ⟨rfl, la, of, rfl, h1, h3, h4, fun q => by omega⟩
    case step =>
      rintro i c st' _ hi ⟨rfl, la, of, rfl, h1, h2, h3, h4⟩
      dsimp only
      by_cases hge : of ≥ hint + 1
      · rw [if_pos hge]
        exact wpS_pure ⟨rfl, la, of, rfl, h1, h3, h4, fun q => by omega⟩
      · rw [if_neg hge]
        refine wpS_bind (bey_ O hk px hP (show base + (hint - of) < arr.size by omega) ?_)
        rw [← hB (hint - of) (by omega)]
        dsimp only
        cases hb : B (hint - of) with
        | false =>
          rw [if_neg (by decide)]
          exact wpS_pure ⟨rfl, of, 2 * of + 1, rfl, by omega, by omega, by omega, hb⟩
        | true =>
          rw [if_pos rfl]
          exact wpS_pure ⟨rfl, la, of, rfl, h1, h3, h4, fun _ => hb⟩
    case post =>
      rintro c st' ⟨rfl, la, of, rfl, h1, h2, h3, h4⟩
      dsimp only
      have low : ∀ i, i < hint + 1 - min of (hint + 1) → B i = true := fun i hi => hm i (hint - of) (by omega) (by omega) (h4 (by omega))
      have high : ∀ i, hint - la ≤ i → i < n → B i = false := fun i h5 h6 => hm' (hint - la) i h5 h6 h3
      refine wpS_bind (search_ O hk px hP hz hB hm (by omega) (by omega) low high (fun y lo hi R h' => ?_) fun k h1 h2 h3 => wpS_pure (h k h1 h2 h3))
      dsimp only
      by_cases hge : lo ≥ hi
      · rw [if_pos hge] at h' ⊢
        exact wpS_pure h'
      · rw [if_neg hge] at h' ⊢
        obtain ⟨hlt, h'⟩ := h'
        refine wpS_bind (bey_ O hk px hP (show base + (lo + (hi - lo) / 2) < arr.size by omega) ?_)
        rw [← hB _ hlt]
        dsimp only
        cases hb : B (lo + (hi - lo) / 2) with
        | true =>
          rw [hb, if_pos rfl] at h'
          rw [if_pos rfl]
          exact wpS_pure h'
        | false =>
          rw [hb, if_neg (by decide)] at h'
          rw [if_neg (by decide)]
          exact wpS_pure h'
end

/-- rising by rank -/
abbrev Ris {α : Type} (key : α → Int) (l : List α) : Prop := l.Pairwise fun x y => key x ≤ key y

/-- a merge under way: o holds the first ia of X and the first ib of Y, in order -/
structure MI {α : Type} (key : α → Int) (X Y o : List α) (ia ib : Nat) : Prop where
  la : ia ≤ X.length
  lb : ib ≤ Y.length
  perm : o.Perm (X.take ia ++ Y.take ib)
  up : Ris key o
  ua : ∀ x ∈ o, ∀ y ∈ X.drop ia, key x ≤ key y
  ub : ∀ x ∈ o, ∀ y ∈ Y.drop ib, key x ≤ key y
def Mgd {α : Type} (key : α → Int) (X Y M : List α) : Prop := M.Perm (X ++ Y) ∧ Ris key M

section
variable {α : Type} {key : α → Int} {X Y o : List α} {ia ib k : Nat}

theorem MI.addA (h : MI key X Y o ia ib) (sx : Ris key X) (hk : ia + k ≤ X.length) (hle : ∀ y ∈ (X.drop ia).take k, ∀ z ∈ Y.drop ib, key y ≤ key z) : MI key X Y (o ++ (X.drop ia).take k) (ia + k) ib := by
  have e : X.drop (ia + k) = (X.drop ia).drop k := by rw [List.drop_drop]
  have sd : Ris key (X.drop ia) := sx.sublist (List.drop_sublist _ _)
  have sd' := List.pairwise_append.mp (show List.Pairwise (fun x y => key x ≤ key y) ((X.drop ia).take k ++ (X.drop ia).drop k) by rw [List.take_append_drop]; exact sd)
  refine ⟨hk, h.lb, ?_, ?_, ?_, ?_⟩
  · rw [List.take_add]
    refine (h.perm.append_right _).trans ?_
    rw [List.append_assoc, List.append_assoc]
    exact (List.perm_append_comm).append_left _
  · exact List.pairwise_append.mpr ⟨h.up, sd'.1, fun x hx y hy => h.ua x hx y (List.mem_of_mem_take hy)⟩
  · intro x hx y hy
    rw [e] at hy
    rcases List.mem_append.mp hx with hx | hx
    · exact h.ua x hx y (List.mem_of_mem_drop hy)
    · exact sd'.2.2 x hx y hy
  · intro x hx y hy
    rcases List.mem_append.mp hx with hx | hx
    · exact h.ub x hx y hy
    · exact hle x hx y hy

theorem MI.swap (h : MI key X Y o ia ib) : MI key Y X o ib ia := ⟨h.lb, h.la, h.perm.trans List.perm_append_comm, h.up, h.ub, h.ua⟩
theorem MI.addB (h : MI key X Y o ia ib) (sy : Ris key Y) (hk : ib + k ≤ Y.length) (hle : ∀ y ∈ (Y.drop ib).take k, ∀ z ∈ X.drop ia, key y ≤ key z) : MI key X Y (o ++ (Y.drop ib).take k) ia (ib + k) :=
  (h.swap.addA sy hk hle).swap

/-- the end: the rest of X, then the rest of Y -/
theorem MI.fin (h : MI key X Y o ia ib) (sx : Ris key X) (sy : Ris key Y) (hle : ∀ y ∈ X.drop ia, ∀ z ∈ Y.drop ib, key y ≤ key z) : Mgd key X Y (o ++ X.drop ia ++ Y.drop ib) := by
  have h1 := h.addA (k := X.length - ia) sx (by have := h.la; omega) (fun y hy z hz => hle y (List.mem_of_mem_take hy) z hz)
  have e1 : (X.drop ia).take (X.length - ia) = X.drop ia := List.take_of_length_le (by rw [List.length_drop]; exact Nat.le_refl _)
  rw [e1] at h1
  have h2 := h1.addB (k := Y.length - ib) sy (by have := h.lb; omega) (fun y hy z hz => by
    have : X.drop (ia + (X.length - ia)) = [] := List.drop_eq_nil_of_le (by have := h.la; omega)
    rw [this] at hz; cases hz)
  have e2 : (Y.drop ib).take (Y.length - ib) = Y.drop ib := List.take_of_length_le (by rw [List.length_drop]; exact Nat.le_refl _)
  rw [e2] at h2
  refine ⟨h2.perm.trans ?_, h2.up⟩
  rw [List.take_of_length_le (by have := h.la; omega), List.take_of_length_le (by have := h.lb; omega)]
end

section
variable {prog : Program} {w : World} {A : Around} {E : Value → Shared → Prop} {s : Shared} {κ : SortKind} {key : Keyed → Int} {P : Keyed → Prop} {st : SortSt}

theorem kk_get {arr : Array Keyed} {i : Nat} (h : i < arr.size) : kk key arr i = key arr.toList[i] := kk_at (by simp [h])

theorem segMem {arr : Array Keyed} {base n k : Nat} {y : Keyed} (hz : base + n ≤ arr.size) (hy : y ∈ ((arr.toList.drop base).take n).take k) : ∃ i, i < k ∧ i < n ∧ kk key arr (base + i) = key y := by
  obtain ⟨i, hi, rfl⟩ := List.mem_iff_getElem.mp hy
  simp at hi
  refine ⟨i, by omega, by omega, ?_⟩
  rw [kk_get (by omega)]
  simp
theorem segMem' {arr : Array Keyed} {base n k : Nat} {y : Keyed} (hz : base + n ≤ arr.size) (hy : y ∈ ((arr.toList.drop base).take n).drop k) : ∃ i, k ≤ i ∧ i < n ∧ kk key arr (base + i) = key y := by
  obtain ⟨i, hi, rfl⟩ := List.mem_iff_getElem.mp hy
  simp at hi
  refine ⟨k + i, by omega, by omega, ?_⟩
  rw [kk_get (by omega)]
  simp
theorem segUp {arr : Array Keyed} {base n : Nat} (hz : base + n ≤ arr.size) (sr : Ris key ((arr.toList.drop base).take n)) : ∀ i j, i ≤ j → j < n → kk key arr (base + i) ≤ kk key arr (base + j) := by
  intro i j hij hj
  rw [kk_get (by omega), kk_get (by omega)]
  rcases Nat.lt_or_eq_of_le hij with h | rfl
  · have := List.pairwise_iff_getElem.mp sr i j (by simp; omega) (by simp; omega) h
    simpa using this
  · exact Int.le_refl _

/-- gallop to the right of x -/
theorem gallopR {x : Keyed} {arr : Array Keyed} {base n hint : Nat} {Q : Option Nat → SortSt → Prop} (O : Ord prog w A s κ key P) (hk : kindOf st = κ) (px : P x) (hP : ∀ p ∈ arr.toList, P p) (hz : base + n ≤ arr.size) (hh : hint < n)
    (sr : Ris key ((arr.toList.drop base).take n))
    (h : ∀ k, k ≤ n → (∀ y ∈ ((arr.toList.drop base).take n).take k, key y ≤ key x) → (∀ y ∈ ((arr.toList.drop base).take n).drop k, key x < key y) → Q (some k) st) : wpS (model prog w) A E s (gallop' false x arr base n hint) Q st := by
  have up := segUp hz sr
  refine gallop_ (B := fun i => !decide (key x < kk key arr (base + i))) O hk px hP hz hh (fun i _ => rfl) (fun i j hij hj hb => ?_) fun k hk' h1 h2 => h k hk' (fun y hy => ?_) fun y hy => ?_
  · have := up i j hij hj
    simp at hb ⊢
    omega
  · obtain ⟨i, hi, hi', e⟩ := segMem (key := key) hz hy
    have := h1 i hi
    simp at this
    omega
  · obtain ⟨i, hi, hi', e⟩ := segMem' (key := key) hz hy
    have := h2 i hi hi'
    simp at this
    omega
/-- gallop to the left of x -/
theorem gallopL {x : Keyed} {arr : Array Keyed} {base n hint : Nat} {Q : Option Nat → SortSt → Prop} (O : Ord prog w A s κ key P) (hk : kindOf st = κ) (px : P x) (hP : ∀ p ∈ arr.toList, P p) (hz : base + n ≤ arr.size) (hh : hint < n)
    (sr : Ris key ((arr.toList.drop base).take n))
    (h : ∀ k, k ≤ n → (∀ y ∈ ((arr.toList.drop base).take n).take k, key y < key x) → (∀ y ∈ ((arr.toList.drop base).take n).drop k, key x ≤ key y) → Q (some k) st) : wpS (model prog w) A E s (gallop' true x arr base n hint) Q st := by
  have up := segUp hz sr
  refine gallop_ (B := fun i => decide (kk key arr (base + i) < key x)) O hk px hP hz hh (fun i _ => rfl) (fun i j hij hj hb => ?_) fun k hk' h1 h2 => h k hk' (fun y hy => ?_) fun y hy => ?_
  · have := up i j hij hj
    simp at hb ⊢
    omega
  · obtain ⟨i, hi, hi', e⟩ := segMem (key := key) hz hy
    have := h1 i hi
    simp at this
    omega
  · obtain ⟨i, hi, hi', e⟩ := segMem' (key := key) hz hy
    have := h2 i hi hi'
    simp at this
    omega
end

/-- the same but for the measure of galloping -/
structure Like (st st' : SortSt) : Prop where
  kind : kindOf st' = kindOf st
  arr : arrOf st' = arrOf st
  pend : pendingOf st' = pendingOf st
  failed : failedOf st' = failedOf st
theorem Like.refl (st : SortSt) : Like st st := ⟨rfl, rfl, rfl, rfl⟩
theorem Like.trans {a b c : SortSt} (x : Like a b) (y : Like b c) : Like a c := ⟨y.kind.trans x.kind, y.arr.trans x.arr, y.pend.trans x.pend, y.failed.trans x.failed⟩

section
variable {key : Keyed → Int} {a b out : Array Keyed} {ia ib k : Nat} {x : Keyed}

theorem one_ {l : List Keyed} {i : Nat} (h : l[i]? = some x) : (l.drop i).take 1 = [x] := by
  obtain ⟨hi, rfl⟩ := List.getElem?_eq_some_iff.mp h
  rw [List.drop_eq_getElem_cons hi]; rfl
theorem toL {i : Nat} (h : a[i]? = some x) : a.toList[i]? = some x := by simpa using h
theorem MI.pushA (h : MI key a.toList b.toList out.toList ia ib) (sa : Ris key a.toList) (hx : a[ia]? = some x) (hle : ∀ z ∈ b.toList.drop ib, key x ≤ key z) : MI key a.toList b.toList (out.push x).toList (ia + 1) ib := by
  have hi : ia < a.toList.length := (List.getElem?_eq_some_iff.mp (toL hx)).1
  have := h.addA (k := 1) sa (by omega) (by rw [one_ (toL hx)]; intro y hy; rw [List.mem_singleton.mp hy]; exact hle)
  rw [one_ (toL hx)] at this
  simpa using this
theorem MI.pushB (h : MI key a.toList b.toList out.toList ia ib) (sb : Ris key b.toList) (hx : b[ib]? = some x) (hle : ∀ z ∈ a.toList.drop ia, key x ≤ key z) : MI key a.toList b.toList (out.push x).toList ia (ib + 1) :=
  (MI.pushA (a := b) (b := a) h.swap sb hx hle).swap
theorem MI.appA (h : MI key a.toList b.toList out.toList ia ib) (sa : Ris key a.toList) (hk : ia + k ≤ a.size) (hle : ∀ y ∈ (a.toList.drop ia).take k, ∀ z ∈ b.toList.drop ib, key y ≤ key z) : MI key a.toList b.toList (out ++ a.extract ia (ia + k)).toList (ia + k) ib := by
  have := h.addA sa (by simpa using hk) hle
  have e : (out ++ a.extract ia (ia + k)).toList = out.toList ++ (a.toList.drop ia).take k := by simp
  rw [e]; exact this
theorem MI.appB (h : MI key a.toList b.toList out.toList ia ib) (sb : Ris key b.toList) (hk : ib + k ≤ b.size) (hle : ∀ y ∈ (b.toList.drop ib).take k, ∀ z ∈ a.toList.drop ia, key y ≤ key z) : MI key a.toList b.toList (out ++ b.extract ib (ib + k)).toList ia (ib + k) :=
  (MI.appA (a := b) (b := a) h.swap sb hk hle).swap
theorem MI.done (h : MI key a.toList b.toList out.toList ia ib) (sa : Ris key a.toList) (sb : Ris key b.toList) (hle : ∀ y ∈ a.toList.drop ia, ∀ z ∈ b.toList.drop ib, key y ≤ key z) :
    Mgd key a.toList b.toList (out ++ a.extract ia ++ b.extract ib).toList := by
  have e : (out ++ a.extract ia ++ b.extract ib).toList = out.toList ++ a.toList.drop ia ++ b.toList.drop ib := by
    simp
    rw [List.take_of_length_le (by simp), List.take_of_length_le (by simp)]
  rw [e]; exact h.fin sa sb hle
theorem MI.done' (h : MI key a.toList b.toList out.toList ia ib) (sa : Ris key a.toList) (sb : Ris key b.toList) (hle : ∀ y ∈ b.toList.drop ib, ∀ z ∈ a.toList.drop ia, key y ≤ key z) :
    Mgd key a.toList b.toList (out ++ b.extract ib ++ a.extract ia).toList := by
  have := MI.done (a := b) (b := a) h.swap sb sa hle
  exact ⟨this.1.trans List.perm_append_comm, this.2⟩
theorem noDrop {l : List Keyed} {i : Nat} (h : i = l.length) {p : Keyed → Prop} : ∀ z ∈ l.drop i, p z := fun z hz => by rw [h, List.drop_length] at hz; cases hz
theorem noDrop2 {l m : List Keyed} {i : Nat} (h : i = l.length) {p : Keyed → Keyed → Prop} : ∀ y ∈ m, ∀ z ∈ l.drop i, p y z := fun y _ z hz => by rw [h, List.drop_length] at hz; cases hz
theorem headLe {l : List Keyed} {i : Nat} (sl : Ris key l) (hx : l[i]? = some x) : ∀ z ∈ l.drop i, key x ≤ key z := by
  obtain ⟨hi, rfl⟩ := List.getElem?_eq_some_iff.mp hx
  have : Ris key (l.drop i) := sl.sublist (List.drop_sublist _ _)
  rw [List.drop_eq_getElem_cons hi] at this ⊢
  intro z hz
  rcases List.mem_cons.mp hz with rfl | hz
  · exact Int.le_refl _
  · exact (List.pairwise_cons.mp this).1 z hz
end

section
variable {prog : Program} {w : World} {A : Around} {E : Value → Shared → Prop} {s : Shared} {κ : SortKind} {key : Keyed → Int} {P : Keyed → Prop} {st : SortSt}

theorem mergeLo_ {a b : Array Keyed} {b0 : Keyed} {Q : Array Keyed → SortSt → Prop} (O : Ord prog w A s κ key P) (hk : kindOf st = κ) (pa : ∀ p ∈ a.toList, P p) (pb : ∀ p ∈ b.toList, P p) (sa : Ris key a.toList) (sb : Ris key b.toList) (na : 0 < a.size)
    (hb : b[0]? = some b0) (hfirst : ∀ z ∈ a.toList, key b0 ≤ key z) (hlast : ∀ y ∈ b.toList, ∀ z ∈ a.toList.drop (a.size - 1), key y ≤ key z)
    (h : ∀ M st', Like st st' → Mgd key a.toList b.toList M.toList → Q M st') : wpS (model prog w) A E s (mergeLo' a b) Q st := by
  have lastOK : ∀ {ia ib : Nat}, ia + 1 = a.size → ∀ y ∈ b.toList.drop ib, ∀ z ∈ a.toList.drop ia, key y ≤ key z := fun {ia ib} e y hy z hz => hlast y (List.mem_of_mem_drop hy) z (by rw [show a.size - 1 = ia by omega]; exact hz)
  have nb : 0 < b.size := by
    rcases Nat.eq_zero_or_pos b.size with e | e
    · have : b = #[] := Array.eq_empty_of_size_eq_zero e
      rw [this] at hb; cases hb
    · exact e
  refine wpS_bind (wpS_lift (wpAny_rule ⟨rfl, ?_⟩))
  refine wpS_bind (elem_ hb ?_)
  have m0 : MI key a.toList b.toList (#[b0] : Array Keyed).toList 0 1 := by
    have := MI.pushB (key := key) (a := a) (b := b) (out := #[]) (ia := 0) (ib := 0) (x := b0) ⟨by simp, by simp, by simp, by simp, (fun x hx => by simp at hx), (fun x hx => by simp at hx)⟩ sb hb (by simpa using hfirst)
    exact this
  by_cases h1 : 1 = b.size
  · rw [if_pos (by simpa using h1)]
    exact wpS_pure (h _ st (.refl _) (m0.done sa sb (noDrop2 (by simpa using h1))))
  rw [if_neg (by simpa using h1)]
  by_cases h2 : 0 + 1 = a.size
  · rw [if_pos (by simpa using h2)]
    exact wpS_pure (h _ st (.refl _) (m0.done' sa sb (lastOK h2)))
  rw [if_neg (by simpa using h2)]
  refine wpS_bind (wpS_get ?_)
  refine wpS_bind (wpS_mono (wpS_forRange
    (I := fun x c st' => ∃ out ia ib mg, c = (none, out, ia, ib, mg) ∧ Like st st' ∧ MI key a.toList b.toList out.toList ia ib ∧ ia + 1 < a.size ∧ ib < b.size ∧ x + (a.size - ia) + (b.size - ib) ≤ a.size + b.size)
    (Q := fun c st' => ∃ M out ia ib mg, c = (some M, out, ia, ib, mg) ∧ Like st st' ∧ Mgd key a.toList b.toList M.toList) ?step ?fin ?init) ?post)
  case init => exact ⟨_, 0, 1, _, rfl, .refl _, m0, by omega, by omega, by omega⟩
  case fin =>
    rintro c st' ⟨out, ia, ib, mg, rfl, L, m, h3, h4, h5⟩
    omega
  case post =>
    rintro c st' ⟨M, out, ia, ib, mg, rfl, L, m⟩
    exact wpS_pure (h M st' L m)
  case step =>
    rintro x c st₁ _ hx ⟨out, ia, ib, mg, rfl, L₁, m, h3, h4, h5⟩
    have hk₁ : kindOf st₁ = κ := L₁.kind.trans hk
    -- one by one
    refine wpS_bind (wpS_mono (wpS_forRange
      (I := fun y c st' => ∃ out ia ib ac bc, c = (none, out, ia, ib, ac, bc) ∧ st' = st₁ ∧ MI key a.toList b.toList out.toList ia ib ∧ ia + 1 < a.size ∧ ib < b.size ∧ y + x + (a.size - ia) + (b.size - ib) ≤ a.size + b.size)
      (Q := fun c st' => st' = st₁ ∧ ((∃ M out ia ib ac bc, c = (some M, out, ia, ib, ac, bc) ∧ Mgd key a.toList b.toList M.toList) ∨
        ∃ out ia ib ac bc, c = (none, out, ia, ib, ac, bc) ∧ MI key a.toList b.toList out.toList ia ib ∧ ia + 1 < a.size ∧ ib < b.size ∧ 1 + x + (a.size - ia) + (b.size - ib) ≤ a.size + b.size)) ?istep ?ifin ?iinit) ?ipost)
    case iinit => exact ⟨out, ia, ib, 0, 0, rfl, rfl, m, h3, h4, by omega⟩
    case ifin =>
      rintro c st' ⟨out, ia, ib, ac, bc, rfl, rfl, m, h3, h4, h5⟩
      omega
    case istep =>
      rintro y c st' _ hy ⟨out, ia, ib, ac, bc, rfl, rfl, m, h3, h4, h5⟩
      have eb := getElem?_pos b ib h4
      have ea := getElem?_pos a ia (by omega)
      refine wpS_bind (elem_ eb (wpS_bind (elem_ ea (wpS_bind (lt_ O hk₁ (pb _ (by simp)) (pa _ (by simp)) ?_)))))
      by_cases hw : key b[ib] < key a[ia]
      · rw [decide_eq_true hw]
        refine wpS_bind (elem_ eb ?_)
        have m' := m.pushB sb eb (fun z hz => Int.le_trans (Int.le_of_lt hw) (headLe sa (toL ea) z hz))
        dsimp only
        by_cases e : ib + 1 = b.size
        · rw [if_pos (by simpa using e)]
          exact wpS_pure ⟨rfl, .inl ⟨_, _, _, _, _, _, rfl, m'.done sa sb (noDrop2 (by simpa using e))⟩⟩
        · rw [if_neg (by simpa using e)]
          split
          · exact wpS_pure ⟨rfl, .inr ⟨_, _, _, _, _, rfl, m', h3, by omega, by omega⟩⟩
          · exact wpS_pure ⟨_, _, _, _, _, rfl, rfl, m', h3, by omega, by omega⟩
      · rw [decide_eq_false hw]
        refine wpS_bind (elem_ ea ?_)
        have m' := m.pushA sa ea (fun z hz => Int.le_trans (Int.not_lt.mp hw) (headLe sb (toL eb) z hz))
        dsimp only
        by_cases e : ia + 1 + 1 = a.size
        · rw [if_pos (by simpa using e)]
          exact wpS_pure ⟨rfl, .inl ⟨_, _, _, _, _, _, rfl, m'.done' sa sb (lastOK e)⟩⟩
        · rw [if_neg (by simpa using e)]
          split
          · exact wpS_pure ⟨rfl, .inr ⟨_, _, _, _, _, rfl, m', by omega, h4, by omega⟩⟩
          · exact wpS_pure ⟨_, _, _, _, _, rfl, rfl, m', by omega, h4, by omega⟩
    case ipost =>
      rintro c st' ⟨rfl, ⟨M, out, ia, ib, ac, bc, rfl, m⟩ | ⟨out, ia, ib, ac, bc, rfl, m, h3, h4, h5⟩⟩
      · exact wpS_pure ⟨M, _, _, _, _, rfl, L₁, m⟩
      -- galloping
      refine wpS_bind (wpS_lift (wpAny_rule ⟨rfl, ?_⟩))
      refine wpS_bind (wpS_mono (wpS_forRange
        (I := fun y c st₂ => ∃ out ia ib mg ac bc, c = (none, out, ia, ib, mg, ac, bc) ∧ Like st' st₂ ∧ MI key a.toList b.toList out.toList ia ib ∧ ia + 1 < a.size ∧ ib < b.size ∧ y + 1 + x + (a.size - ia) + (b.size - ib) ≤ a.size + b.size)
        (Q := fun c st₂ => Like st' st₂ ∧ ((∃ M out ia ib mg ac bc, c = (some M, out, ia, ib, mg, ac, bc) ∧ Mgd key a.toList b.toList M.toList) ∨
          ∃ out ia ib mg ac bc, c = (none, out, ia, ib, mg, ac, bc) ∧ MI key a.toList b.toList out.toList ia ib ∧ ia + 1 < a.size ∧ ib < b.size ∧ 1 + x + (a.size - ia) + (b.size - ib) ≤ a.size + b.size)) ?gstep ?gfin ?ginit) ?gpost)
      case ginit => exact ⟨out, ia, ib, _, ac, bc, rfl, .refl _, m, h3, h4, by omega⟩
      case gfin =>
        rintro c st' ⟨out, ia, ib, mg, ac, bc, rfl, L, m, h3, h4, h5⟩
        omega
      case gpost =>
        rintro c st₂ ⟨L₂, ⟨M, out, ia, ib, mg, ac, bc, rfl, m⟩ | ⟨out, ia, ib, mg, ac, bc, rfl, m, h3, h4, h5⟩⟩
        · exact wpS_pure ⟨M, _, _, _, _, rfl, L₁.trans L₂, m⟩
        · exact wpS_bind (wpS_modify (wpS_pure ⟨out, ia, ib, _, rfl, (L₁.trans L₂).trans ⟨rfl, rfl, rfl, rfl⟩, m, h3, h4, by omega⟩))
      case gstep =>
        rintro y c st₂ _ hy ⟨out, ia, ib, mg, ac, bc, rfl, L₂, m, h3, h4, h5⟩
        have eb := getElem?_pos b ib h4
        have sda : Ris key ((a.toList.drop ia).take (a.size - ia)) := (sa.sublist (List.drop_sublist _ _)).sublist (List.take_sublist _ _)
        have ta : (a.toList.drop ia).take (a.size - ia) = a.toList.drop ia := List.take_of_length_le (by simp)
        have sdb : Ris key ((b.toList.drop (ib + 1)).take (b.size - (ib + 1))) := (sb.sublist (List.drop_sublist _ _)).sublist (List.take_sublist _ _)
        have tb : (b.toList.drop (ib + 1)).take (b.size - (ib + 1)) = b.toList.drop (ib + 1) := List.take_of_length_le (by simp)
        dsimp only
        by_cases hmg : mg > 1
        all_goals
          first | rw [if_pos hmg] | rw [if_neg hmg]
          refine wpS_bind (wpS_modify ?_)
          refine wpS_bind (elem_ eb ?_)
          refine wpS_bind (gallopR O (by show kindOf st₂ = κ; exact L₂.kind.trans hk₁) (pb _ (by simp)) pa (by omega) (by omega) sda fun k hk' k1 k2 => ?_)
          rw [ta] at k1 k2
          have L₃ : Like st' (SortSt.mk' (kindOf st₂) (arrOf st₂) (pendingOf st₂) (if mg > 1 then mg - 1 else mg) (failedOf st₂)) := L₂.trans ⟨rfl, rfl, rfl, rfl⟩
          have k2' : ∀ z ∈ a.toList.drop (ia + k), key b[ib] ≤ key z := fun z hz => Int.le_of_lt (k2 z (by rw [List.drop_drop]; exact hz))
          dsimp only
          by_cases hk0 : k > 0
          case pos =>
            have m₁ := m.appA (k := k) sa (by omega) (fun y hy z hz => Int.le_trans (k1 y hy) (headLe sb (toL eb) z hz))
            rw [if_pos hk0]
            by_cases e : ia + k + 1 = a.size
            · rw [if_pos (by simpa using e)]
              exact wpS_pure ⟨L₂.trans ⟨rfl, rfl, rfl, rfl⟩, .inl ⟨_, _, _, _, _, _, _, rfl, m₁.done' sa sb (lastOK e)⟩⟩
            rw [if_neg (by simpa using e)]
            by_cases e' : ia + k = a.size
            · rw [if_pos (by simpa using e')]
              exact wpS_pure ⟨L₂.trans ⟨rfl, rfl, rfl, rfl⟩, .inl ⟨_, _, _, _, _, _, _, rfl, m₁.done sa sb (noDrop (p := fun y => ∀ z ∈ b.toList.drop ib, key y ≤ key z) (by simpa using e'))⟩⟩
            rw [if_neg (by simpa using e')]
            have l₁ : ia + k + 1 < a.size := by omega
            have k2₁ := k2'
            refine wpS_bind (elem_ eb ?_)
            have m₂ := m₁.pushB sb eb k2₁
            by_cases e2 : ib + 1 = b.size
            · rw [if_pos (by simpa using e2)]
              exact wpS_pure ⟨L₂.trans ⟨rfl, rfl, rfl, rfl⟩, .inl ⟨_, _, _, _, _, _, _, rfl, m₂.done sa sb (noDrop2 (by simpa using e2))⟩⟩
            rw [if_neg (by simpa using e2)]
            have ea := getElem?_pos a (ia + k) (by omega)
            refine wpS_bind (elem_ ea ?_)
            refine wpS_bind (gallopL O (by show kindOf st₂ = κ; exact L₂.kind.trans hk₁) (pa _ (by simp)) pb (by omega) (by omega) sdb fun k' hk'' q1 q2 => ?_)
            rw [tb] at q1 q2
            have q2' : ∀ z ∈ b.toList.drop (ib + 1 + k'), key a[ia + k] ≤ key z := fun z hz => q2 z (by rw [List.drop_drop]; exact hz)
            dsimp only
            by_cases hk1 : k' > 0
            case pos =>
              have m₃ := m₂.appB (k := k') sb (by omega) (fun y hy z hz => Int.le_trans (Int.le_of_lt (q1 y hy)) (headLe sa (toL ea) z hz))
              rw [if_pos hk1]
              by_cases e3 : ib + 1 + k' = b.size
              · rw [if_pos (by simpa using e3)]
                exact wpS_pure ⟨L₂.trans ⟨rfl, rfl, rfl, rfl⟩, .inl ⟨_, _, _, _, _, _, _, rfl, m₃.done sa sb (noDrop2 (by simpa using e3))⟩⟩
              rw [if_neg (by simpa using e3)]
              have q2₁ := q2'
              refine wpS_bind (elem_ ea ?_)
              have m₄ := m₃.pushA sa ea q2₁
              by_cases e4 : ia + k + 1 + 1 = a.size
              · rw [if_pos (by simpa using e4)]
                exact wpS_pure ⟨L₂.trans ⟨rfl, rfl, rfl, rfl⟩, .inl ⟨_, _, _, _, _, _, _, rfl, m₄.done' sa sb (lastOK e4)⟩⟩
              rw [if_neg (by simpa using e4)]
              split
              · exact wpS_pure ⟨L₂.trans ⟨rfl, rfl, rfl, rfl⟩, .inr ⟨_, _, _, _, _, _, rfl, m₄, by omega, by omega, by omega⟩⟩
              · exact wpS_pure ⟨_, _, _, _, _, _, rfl, L₂.trans ⟨rfl, rfl, rfl, rfl⟩, m₄, by omega, by omega, by omega⟩
            case neg =>
              have m₃ := m₂
              rw [if_neg hk1]
              have q2₁ : ∀ z ∈ b.toList.drop (ib + 1), key a[ia + k] ≤ key z := by
                have e0 : k' = 0 := by omega
                rw [e0] at q2'; exact q2'
              refine wpS_bind (elem_ ea ?_)
              have m₄ := m₃.pushA sa ea q2₁
              by_cases e4 : ia + k + 1 + 1 = a.size
              · rw [if_pos (by simpa using e4)]
                exact wpS_pure ⟨L₂.trans ⟨rfl, rfl, rfl, rfl⟩, .inl ⟨_, _, _, _, _, _, _, rfl, m₄.done' sa sb (lastOK e4)⟩⟩
              rw [if_neg (by simpa using e4)]
              split
              · exact wpS_pure ⟨L₂.trans ⟨rfl, rfl, rfl, rfl⟩, .inr ⟨_, _, _, _, _, _, rfl, m₄, by omega, by omega, by omega⟩⟩
              · exact wpS_pure ⟨_, _, _, _, _, _, rfl, L₂.trans ⟨rfl, rfl, rfl, rfl⟩, m₄, by omega, by omega, by omega⟩
          case neg =>
            have m₁ := m
            rw [if_neg hk0]
            have k2₁ : ∀ z ∈ a.toList.drop ia, key b[ib] ≤ key z := by
              have e0 : k = 0 := by omega
              rw [e0] at k2'; exact k2'
            have l₁ := h3
            refine wpS_bind (elem_ eb ?_)
            have m₂ := m₁.pushB sb eb k2₁
            by_cases e2 : ib + 1 = b.size
            · rw [if_pos (by simpa using e2)]
              exact wpS_pure ⟨L₂.trans ⟨rfl, rfl, rfl, rfl⟩, .inl ⟨_, _, _, _, _, _, _, rfl, m₂.done sa sb (noDrop2 (by simpa using e2))⟩⟩
            rw [if_neg (by simpa using e2)]
            have ea := getElem?_pos a (ia) (by omega)
            refine wpS_bind (elem_ ea ?_)
            refine wpS_bind (gallopL O (by show kindOf st₂ = κ; exact L₂.kind.trans hk₁) (pa _ (by simp)) pb (by omega) (by omega) sdb fun k' hk'' q1 q2 => ?_)
            rw [tb] at q1 q2
            have q2' : ∀ z ∈ b.toList.drop (ib + 1 + k'), key a[ia] ≤ key z := fun z hz => q2 z (by rw [List.drop_drop]; exact hz)
            dsimp only
            by_cases hk1 : k' > 0
            case pos =>
              have m₃ := m₂.appB (k := k') sb (by omega) (fun y hy z hz => Int.le_trans (Int.le_of_lt (q1 y hy)) (headLe sa (toL ea) z hz))
              rw [if_pos hk1]
              by_cases e3 : ib + 1 + k' = b.size
              · rw [if_pos (by simpa using e3)]
                exact wpS_pure ⟨L₂.trans ⟨rfl, rfl, rfl, rfl⟩, .inl ⟨_, _, _, _, _, _, _, rfl, m₃.done sa sb (noDrop2 (by simpa using e3))⟩⟩
              rw [if_neg (by simpa using e3)]
              have q2₁ := q2'
              refine wpS_bind (elem_ ea ?_)
              have m₄ := m₃.pushA sa ea q2₁
              by_cases e4 : ia + 1 + 1 = a.size
              · rw [if_pos (by simpa using e4)]
                exact wpS_pure ⟨L₂.trans ⟨rfl, rfl, rfl, rfl⟩, .inl ⟨_, _, _, _, _, _, _, rfl, m₄.done' sa sb (lastOK e4)⟩⟩
              rw [if_neg (by simpa using e4)]
              split
              · exact wpS_pure ⟨L₂.trans ⟨rfl, rfl, rfl, rfl⟩, .inr ⟨_, _, _, _, _, _, rfl, m₄, by omega, by omega, by omega⟩⟩
              · exact wpS_pure ⟨_, _, _, _, _, _, rfl, L₂.trans ⟨rfl, rfl, rfl, rfl⟩, m₄, by omega, by omega, by omega⟩
            case neg =>
              have m₃ := m₂
              rw [if_neg hk1]
              have q2₁ : ∀ z ∈ b.toList.drop (ib + 1), key a[ia] ≤ key z := by
                have e0 : k' = 0 := by omega
                rw [e0] at q2'; exact q2'
              refine wpS_bind (elem_ ea ?_)
              have m₄ := m₃.pushA sa ea q2₁
              by_cases e4 : ia + 1 + 1 = a.size
              · rw [if_pos (by simpa using e4)]
                exact wpS_pure ⟨L₂.trans ⟨rfl, rfl, rfl, rfl⟩, .inl ⟨_, _, _, _, _, _, _, rfl, m₄.done' sa sb (lastOK e4)⟩⟩
              rw [if_neg (by simpa using e4)]
              split
              · exact wpS_pure ⟨L₂.trans ⟨rfl, rfl, rfl, rfl⟩, .inr ⟨_, _, _, _, _, _, rfl, m₄, by omega, by omega, by omega⟩⟩
              · exact wpS_pure ⟨_, _, _, _, _, _, rfl, L₂.trans ⟨rfl, rfl, rfl, rfl⟩, m₄, by omega, by omega, by omega⟩
end

/-- a merge from the upper end: na and nb items are left -/
structure MH (key : Keyed → Int) (a b out : Array Keyed) (na nb : Nat) : Prop where
  m : MI (fun x => -key x) a.toList.reverse b.toList.reverse out.toList (a.size - na) (b.size - nb)
  la : na ≤ a.size
  lb : nb ≤ b.size

section
variable {key : Keyed → Int} {a b out : Array Keyed} {na nb k : Nat} {x : Keyed}

theorem revDrop {l : List Keyed} {n : Nat} : l.reverse.drop (l.length - n) = (l.take n).reverse := by rw [List.reverse_take]
theorem revSeg {l : List Keyed} {n i : Nat} (hi : i ≤ n) (hn : n ≤ l.length) : (l.reverse.drop (l.length - n)).take (n - i) = ((l.take n).drop i).reverse := by
  rw [revDrop, List.take_reverse, List.length_take, show min n l.length - (n - i) = i by omega]
theorem risNeg {l : List Keyed} (h : Ris key l) : Ris (fun x => -key x) l.reverse := by
  unfold Ris at *
  rw [List.pairwise_reverse]
  exact h.imp fun q => Int.neg_le_neg q

theorem MH.swap (h : MH key a b out na nb) : MH key b a out nb na := ⟨h.m.swap, h.lb, h.la⟩
theorem MH.appA {i : Nat} (h : MH key a b out na nb) (sa : Ris key a.toList) (hi : i ≤ na) (hle : ∀ y ∈ (a.toList.take na).drop i, ∀ z ∈ b.toList.take nb, key z ≤ key y) : MH key a b (out ++ (a.extract i na).reverse) i nb := by
  have la := h.la
  have lb := h.lb
  have e := revSeg (l := a.toList) hi (by simpa using h.la)
  have ea : a.toList.length = a.size := by simp
  have eb : b.toList.length = b.size := by simp
  rw [ea] at e
  have := h.m.addA (k := na - i) (risNeg sa) (by rw [List.length_reverse, ea]; omega) (fun y hy z hz => by
    rw [e] at hy
    rw [← eb, revDrop] at hz
    have := hle y (by simpa using hy) z (by simpa using hz)
    omega)
  rw [e, show a.size - na + (na - i) = a.size - i by omega] at this
  refine ⟨?_, by omega, h.lb⟩
  have e2 : (out ++ (a.extract i na).reverse).toList = out.toList ++ ((a.toList.take na).drop i).reverse := by
    simp [List.drop_take]
  rw [e2]; exact this
theorem MH.appB {i : Nat} (h : MH key a b out na nb) (sb : Ris key b.toList) (hi : i ≤ nb) (hle : ∀ y ∈ (b.toList.take nb).drop i, ∀ z ∈ a.toList.take na, key z ≤ key y) : MH key a b (out ++ (b.extract i nb).reverse) na i :=
  (h.swap.appA sb hi hle).swap
theorem MH.pushA (h : MH key a b out na nb) (sa : Ris key a.toList) (hn : 0 < na) (hx : a[na - 1]? = some x) (hle : ∀ z ∈ b.toList.take nb, key z ≤ key x) : MH key a b (out.push x) (na - 1) nb := by
  have la := h.la
  have e1 : (a.toList.take na).drop (na - 1) = [x] := by
    have := one_ (toL hx)
    rw [List.drop_take, show na - (na - 1) = 1 by omega]; exact this
  have := h.appA (i := na - 1) sa (by omega) (fun y hy z hz => by rw [e1] at hy; rw [List.mem_singleton.mp hy]; exact hle z hz)
  have e2 : out ++ (a.extract (na - 1) na).reverse = out.push x := by
    apply Array.toList_inj.mp
    have e3 : (a.extract (na - 1) na).toList = [x] := by
      rw [← e1]; simp [List.drop_take]
    simp only [Array.toList_append, Array.toList_reverse, e3, Array.toList_push, List.reverse_cons, List.reverse_nil, List.nil_append]
  rw [e2] at this; exact this
theorem MH.pushB (h : MH key a b out na nb) (sb : Ris key b.toList) (hn : 0 < nb) (hx : b[nb - 1]? = some x) (hle : ∀ z ∈ a.toList.take na, key z ≤ key x) : MH key a b (out.push x) na (nb - 1) :=
  (h.swap.pushA sb hn hx hle).swap
theorem MH.first (h : MH key a b out na nb) (sa : Ris key a.toList) (sb : Ris key b.toList) (hle : ∀ y ∈ a.toList.take na, ∀ z ∈ b.toList.take nb, key z ≤ key y) : Mgd key a.toList b.toList (b.extract 0 nb ++ a.extract 0 na ++ out.reverse).toList := by
  have ea : a.toList.length = a.size := by simp
  have eb : b.toList.length = b.size := by simp
  have := h.m.fin (risNeg sa) (risNeg sb) (fun y hy z hz => by
    rw [← ea, revDrop] at hy
    rw [← eb, revDrop] at hz
    have := hle y (by simpa using hy) z (by simpa using hz)
    omega)
  rw [← ea, ← eb, revDrop, revDrop] at this
  have e : (b.extract 0 nb ++ a.extract 0 na ++ out.reverse).toList = (out.toList ++ (a.toList.take na).reverse ++ (b.toList.take nb).reverse).reverse := by simp
  rw [e]
  refine ⟨(List.reverse_perm _).trans (this.1.trans ((List.reverse_perm _).append (List.reverse_perm _))), ?_⟩
  have q := this.2
  show List.Pairwise _ _
  rw [List.pairwise_reverse]
  exact q.imp fun q => Int.neg_le_neg_iff.mp q
theorem MH.done (h : MH key a b out na nb) (sa : Ris key a.toList) (sb : Ris key b.toList) (e : na = 0 ∨ nb = 0) : Mgd key a.toList b.toList (a.extract 0 na ++ b.extract 0 nb ++ out.reverse).toList := by
  have := h.first sa sb (fun y hy z hz => by
    rcases e with rfl | rfl
    · simp at hy
    · simp at hz)
  have e2 : (a.extract 0 na ++ b.extract 0 nb ++ out.reverse) = (b.extract 0 nb ++ a.extract 0 na ++ out.reverse) := by
    rcases e with rfl | rfl <;> simp
  rw [e2]; exact this
theorem lastLe {l : List Keyed} {n : Nat} (sl : Ris key l) (hn : 0 < n) (hx : l[n - 1]? = some x) : ∀ z ∈ l.take n, key z ≤ key x := by
  obtain ⟨hi, rfl⟩ := List.getElem?_eq_some_iff.mp hx
  intro z hz
  obtain ⟨i, hi', rfl⟩ := List.mem_iff_getElem.mp hz
  simp at hi'
  rw [List.getElem_take]
  rcases Nat.lt_or_ge i (n - 1) with q | q
  · exact List.pairwise_iff_getElem.mp sl i (n - 1) (by omega) hi q
  · have : i = n - 1 := by omega
    subst this; exact Int.le_refl _
end

section
variable {prog : Program} {w : World} {A : Around} {E : Value → Shared → Prop} {s : Shared} {κ : SortKind} {key : Keyed → Int} {P : Keyed → Prop} {st : SortSt}

theorem mergeHi_ {a b : Array Keyed} {b0 : Keyed} {Q : Array Keyed → SortSt → Prop} (O : Ord prog w A s κ key P) (hk : kindOf st = κ) (pa : ∀ p ∈ a.toList, P p) (pb : ∀ p ∈ b.toList, P p) (sa : Ris key a.toList) (sb : Ris key b.toList) (na0 : 0 < a.size)
    (hb : b[0]? = some b0) (hfirst : ∀ z ∈ a.toList, key b0 ≤ key z) (hlast : ∀ y ∈ b.toList, ∀ z ∈ a.toList.drop (a.size - 1), key y ≤ key z)
    (h : ∀ M st', Like st st' → Mgd key a.toList b.toList M.toList → Q M st') : wpS (model prog w) A E s (mergeHi' a b) Q st := by
  have nb0 : 0 < b.size := by
    rcases Nat.eq_zero_or_pos b.size with e | e
    · have : b = #[] := Array.eq_empty_of_size_eq_zero e
      rw [this] at hb; cases hb
    · exact e
  have firstOK : ∀ {na nb : Nat}, nb = 1 → ∀ y ∈ a.toList.take na, ∀ z ∈ b.toList.take nb, key z ≤ key y := fun {na nb} e y hy z hz => by
    have e1 : b.toList.take 1 = [b0] := by have := one_ (toL hb); simpa using this
    rw [e, e1] at hz
    rw [List.mem_singleton.mp hz]
    exact hfirst y (List.mem_of_mem_take hy)
  refine wpS_bind (wpS_lift (wpAny_rule ⟨rfl, ?_⟩))
  have el := getElem?_pos a (a.size - 1) (by omega)
  refine wpS_bind (elem_ el ?_)
  have mz : MH key a b #[] a.size b.size := ⟨⟨by simp, by simp, by simp, by simp, (fun x hx => by simp at hx), (fun x hx => by simp at hx)⟩, Nat.le_refl _, Nat.le_refl _⟩
  have m0 : MH key a b #[a[a.size - 1]] (a.size - 1) b.size := mz.pushA sa na0 el (fun z hz => hlast z (List.mem_of_mem_take hz) _ (by
    rw [List.drop_eq_getElem_cons (by simpa using Nat.sub_lt na0 Nat.one_pos)]
    simp))
  by_cases h1 : a.size - 1 = 0
  · rw [if_pos (by simpa using h1)]
    exact wpS_pure (h _ st (.refl _) (m0.done sa sb (.inl h1)))
  rw [if_neg (by simpa using h1)]
  by_cases h2 : b.size = 1
  · rw [if_pos (by simpa using h2)]
    exact wpS_pure (h _ st (.refl _) (m0.first sa sb (firstOK h2)))
  rw [if_neg (by simpa using h2)]
  refine wpS_bind (wpS_get ?_)
  refine wpS_bind (wpS_mono (wpS_forRange
    (I := fun x c st' => ∃ na nb out mg, c = (none, na, nb, out, mg) ∧ Like st st' ∧ MH key a b out na nb ∧ 0 < na ∧ 1 < nb ∧ x + na + nb ≤ a.size + b.size)
    (Q := fun c st' => ∃ M na nb out mg, c = (some M, na, nb, out, mg) ∧ Like st st' ∧ Mgd key a.toList b.toList M.toList) ?step ?fin ?init) ?post)
  case init => exact ⟨_, _, _, _, rfl, .refl _, m0, by omega, by omega, by omega⟩
  case fin =>
    rintro c st' ⟨na, nb, out, mg, rfl, L, m, h3, h4, h5⟩
    omega
  case post =>
    rintro c st' ⟨M, na, nb, out, mg, rfl, L, m⟩
    exact wpS_pure (h M st' L m)
  case step =>
    rintro x c st₁ _ hx ⟨na, nb, out, mg, rfl, L₁, m, h3, h4, h5⟩
    have hk₁ : kindOf st₁ = κ := L₁.kind.trans hk
    -- one by one
    refine wpS_bind (wpS_mono (wpS_forRange
      (I := fun y c st' => ∃ na nb out ac bc, c = (none, na, nb, out, ac, bc) ∧ st' = st₁ ∧ MH key a b out na nb ∧ 0 < na ∧ 1 < nb ∧ y + x + na + nb ≤ a.size + b.size)
      (Q := fun c st' => st' = st₁ ∧ ((∃ M na nb out ac bc, c = (some M, na, nb, out, ac, bc) ∧ Mgd key a.toList b.toList M.toList) ∨
        ∃ na nb out ac bc, c = (none, na, nb, out, ac, bc) ∧ MH key a b out na nb ∧ 0 < na ∧ 1 < nb ∧ 1 + x + na + nb ≤ a.size + b.size)) ?istep ?ifin ?iinit) ?ipost)
    case iinit => exact ⟨na, nb, out, 0, 0, rfl, rfl, m, h3, h4, by omega⟩
    case ifin =>
      rintro c st' ⟨na, nb, out, ac, bc, rfl, rfl, m, h3, h4, h5⟩
      omega
    case istep =>
      rintro y c st' _ hy ⟨na, nb, out, ac, bc, rfl, rfl, m, h3, h4, h5⟩
      have la := m.la
      have lb := m.lb
      have eb := getElem?_pos b (nb - 1) (by omega)
      have ea := getElem?_pos a (na - 1) (by omega)
      refine wpS_bind (elem_ eb (wpS_bind (elem_ ea (wpS_bind (lt_ O hk₁ (pb _ (by simp)) (pa _ (by simp)) ?_)))))
      by_cases hw : key b[nb - 1] < key a[na - 1]
      · rw [decide_eq_true hw]
        refine wpS_bind (elem_ ea ?_)
        have m' := m.pushA sa h3 ea (fun z hz => Int.le_trans (lastLe sb (by omega) (toL eb) z hz) (Int.le_of_lt hw))
        dsimp only
        by_cases e : na - 1 = 0
        · rw [if_pos (by simpa using e)]
          exact wpS_pure ⟨rfl, .inl ⟨_, _, _, _, _, _, rfl, m'.done sa sb (.inl e)⟩⟩
        · rw [if_neg (by simpa using e)]
          split
          · exact wpS_pure ⟨rfl, .inr ⟨_, _, _, _, _, rfl, m', by omega, h4, by omega⟩⟩
          · exact wpS_pure ⟨_, _, _, _, _, rfl, rfl, m', by omega, h4, by omega⟩
      · rw [decide_eq_false hw]
        refine wpS_bind (elem_ eb ?_)
        have m' := m.pushB sb (by omega) eb (fun z hz => Int.le_trans (lastLe sa h3 (toL ea) z hz) (Int.not_lt.mp hw))
        dsimp only
        by_cases e : nb - 1 = 1
        · rw [if_pos (by simpa using e)]
          exact wpS_pure ⟨rfl, .inl ⟨_, _, _, _, _, _, rfl, m'.first sa sb (firstOK e)⟩⟩
        · rw [if_neg (by simpa using e)]
          split
          · exact wpS_pure ⟨rfl, .inr ⟨_, _, _, _, _, rfl, m', h3, by omega, by omega⟩⟩
          · exact wpS_pure ⟨_, _, _, _, _, rfl, rfl, m', h3, by omega, by omega⟩
    case ipost =>
      rintro c st' ⟨rfl, ⟨M, na, nb, out, ac, bc, rfl, m⟩ | ⟨na, nb, out, ac, bc, rfl, m, h3, h4, h5⟩⟩
      · exact wpS_pure ⟨M, _, _, _, _, rfl, L₁, m⟩
      -- galloping
      refine wpS_bind (wpS_lift (wpAny_rule ⟨rfl, ?_⟩))
      refine wpS_bind (wpS_mono (wpS_forRange
        (I := fun y c st₂ => ∃ na nb out mg ac bc, c = (none, na, nb, out, mg, ac, bc) ∧ Like st' st₂ ∧ MH key a b out na nb ∧ 0 < na ∧ 1 < nb ∧ y + 1 + x + na + nb ≤ a.size + b.size)
        (Q := fun c st₂ => Like st' st₂ ∧ ((∃ M na nb out mg ac bc, c = (some M, na, nb, out, mg, ac, bc) ∧ Mgd key a.toList b.toList M.toList) ∨
          ∃ na nb out mg ac bc, c = (none, na, nb, out, mg, ac, bc) ∧ MH key a b out na nb ∧ 0 < na ∧ 1 < nb ∧ 1 + x + na + nb ≤ a.size + b.size)) ?gstep ?gfin ?ginit) ?gpost)
      case ginit => exact ⟨na, nb, out, _, ac, bc, rfl, .refl _, m, h3, h4, by omega⟩
      case gfin =>
        rintro c st' ⟨na, nb, out, mg, ac, bc, rfl, L, m, h3, h4, h5⟩
        omega
      case gpost =>
        rintro c st₂ ⟨L₂, ⟨M, na, nb, out, mg, ac, bc, rfl, m⟩ | ⟨na, nb, out, mg, ac, bc, rfl, m, h3, h4, h5⟩⟩
        · exact wpS_pure ⟨M, _, _, _, _, rfl, L₁.trans L₂, m⟩
        · exact wpS_bind (wpS_modify (wpS_pure ⟨na, nb, out, _, rfl, (L₁.trans L₂).trans ⟨rfl, rfl, rfl, rfl⟩, m, h3, h4, by omega⟩))
      case gstep =>
        rintro y c st₂ _ hy ⟨na, nb, out, mg, ac, bc, rfl, L₂, m, h3, h4, h5⟩
        have la := m.la
        have lb := m.lb
        have eb := getElem?_pos b (nb - 1) (by omega)
        have sda : Ris key ((a.toList.drop 0).take na) := (sa.sublist (List.drop_sublist _ _)).sublist (List.take_sublist _ _)
        have sdb : Ris key ((b.toList.drop 0).take (nb - 1)) := (sb.sublist (List.drop_sublist _ _)).sublist (List.take_sublist _ _)
        dsimp only
        by_cases hmg : mg > 1
        all_goals
          first | rw [if_pos hmg] | rw [if_neg hmg]
          refine wpS_bind (wpS_modify ?_)
          refine wpS_bind (elem_ eb ?_)
          refine wpS_bind (gallopR O (by show kindOf st₂ = κ; exact L₂.kind.trans hk₁) (pb _ (by simp)) pa (by omega) (by omega) sda fun i hi' k1 k2 => ?_)
          rw [List.drop_zero] at k1 k2
          have k1' : ∀ z ∈ a.toList.take i, key z ≤ key b[nb - 1] := fun z hz => k1 z (by rw [List.take_take, show min i na = i by omega]; exact hz)
          dsimp only
          by_cases hk0 : na - i > 0
          case pos =>
            have m₁ := m.appA (i := i) sa hi' (fun y hy z hz => Int.le_trans (lastLe sb (by omega) (toL eb) z hz) (Int.le_of_lt (k2 y hy)))
            rw [if_pos hk0]
            by_cases e : i = 0
            · rw [if_pos (by simpa using e)]
              exact wpS_pure ⟨L₂.trans ⟨rfl, rfl, rfl, rfl⟩, .inl ⟨_, _, _, _, _, _, _, rfl, m₁.done sa sb (.inl e)⟩⟩
            rw [if_neg (by simpa using e)]
            have k2₁ := k1'
            have l₁ : 0 < i := by omega
            refine wpS_bind (elem_ eb ?_)
            have m₂ := m₁.pushB sb (by omega) eb k2₁
            by_cases e2 : nb - 1 = 1
            · rw [if_pos (by simpa using e2)]
              exact wpS_pure ⟨L₂.trans ⟨rfl, rfl, rfl, rfl⟩, .inl ⟨_, _, _, _, _, _, _, rfl, m₂.first sa sb (firstOK e2)⟩⟩
            rw [if_neg (by simpa using e2)]
            have ea := getElem?_pos a (i - 1) (by omega)
            refine wpS_bind (elem_ ea ?_)
            refine wpS_bind (gallopL O (by show kindOf st₂ = κ; exact L₂.kind.trans hk₁) (pa _ (by simp)) pb (by omega) (by omega) sdb fun j hj' q1 q2 => ?_)
            rw [List.drop_zero] at q1 q2
            have q1' : ∀ z ∈ b.toList.take j, key z ≤ key a[i - 1] := fun z hz => Int.le_of_lt (q1 z (by rw [List.take_take, show min j (nb - 1) = j by omega]; exact hz))
            dsimp only
            by_cases hk1 : nb - 1 - j > 0
            case pos =>
              have m₃ := m₂.appB (i := j) sb hj' (fun y hy z hz => Int.le_trans (lastLe sa l₁ (toL ea) z hz) (q2 y hy))
              rw [if_pos hk1]
              by_cases e3 : j = 1
              · rw [if_pos (by simpa using e3)]
                exact wpS_pure ⟨L₂.trans ⟨rfl, rfl, rfl, rfl⟩, .inl ⟨_, _, _, _, _, _, _, rfl, m₃.first sa sb (firstOK e3)⟩⟩
              rw [if_neg (by simpa using e3)]
              by_cases e5 : j = 0
              · rw [if_pos (by simpa using e5)]
                exact wpS_pure ⟨L₂.trans ⟨rfl, rfl, rfl, rfl⟩, .inl ⟨_, _, _, _, _, _, _, rfl, m₃.done sa sb (.inr e5)⟩⟩
              rw [if_neg (by simpa using e5)]
              have q2₁ := q1'
              refine wpS_bind (elem_ ea ?_)
              have m₄ := m₃.pushA sa l₁ ea q2₁
              by_cases e4 : i - 1 = 0
              · rw [if_pos (by simpa using e4)]
                exact wpS_pure ⟨L₂.trans ⟨rfl, rfl, rfl, rfl⟩, .inl ⟨_, _, _, _, _, _, _, rfl, m₄.done sa sb (.inl e4)⟩⟩
              rw [if_neg (by simpa using e4)]
              split
              · exact wpS_pure ⟨L₂.trans ⟨rfl, rfl, rfl, rfl⟩, .inr ⟨_, _, _, _, _, _, rfl, m₄, by omega, by omega, by omega⟩⟩
              · exact wpS_pure ⟨_, _, _, _, _, _, rfl, L₂.trans ⟨rfl, rfl, rfl, rfl⟩, m₄, by omega, by omega, by omega⟩
            case neg =>
              have m₃ := m₂
              rw [if_neg hk1]
              have q2₁ : ∀ z ∈ b.toList.take (nb - 1), key z ≤ key a[i - 1] := by
                have e0 : j = nb - 1 := by omega
                rw [e0] at q1'; exact q1'
              refine wpS_bind (elem_ ea ?_)
              have m₄ := m₃.pushA sa l₁ ea q2₁
              by_cases e4 : i - 1 = 0
              · rw [if_pos (by simpa using e4)]
                exact wpS_pure ⟨L₂.trans ⟨rfl, rfl, rfl, rfl⟩, .inl ⟨_, _, _, _, _, _, _, rfl, m₄.done sa sb (.inl e4)⟩⟩
              rw [if_neg (by simpa using e4)]
              split
              · exact wpS_pure ⟨L₂.trans ⟨rfl, rfl, rfl, rfl⟩, .inr ⟨_, _, _, _, _, _, rfl, m₄, by omega, by omega, by omega⟩⟩
              · exact wpS_pure ⟨_, _, _, _, _, _, rfl, L₂.trans ⟨rfl, rfl, rfl, rfl⟩, m₄, by omega, by omega, by omega⟩
          case neg =>
            have m₁ := m
            rw [if_neg hk0]
            have k2₁ : ∀ z ∈ a.toList.take na, key z ≤ key b[nb - 1] := by
              have e0 : i = na := by omega
              rw [e0] at k1'; exact k1'
            have l₁ := h3
            refine wpS_bind (elem_ eb ?_)
            have m₂ := m₁.pushB sb (by omega) eb k2₁
            by_cases e2 : nb - 1 = 1
            · rw [if_pos (by simpa using e2)]
              exact wpS_pure ⟨L₂.trans ⟨rfl, rfl, rfl, rfl⟩, .inl ⟨_, _, _, _, _, _, _, rfl, m₂.first sa sb (firstOK e2)⟩⟩
            rw [if_neg (by simpa using e2)]
            have ea := getElem?_pos a (na - 1) (by omega)
            refine wpS_bind (elem_ ea ?_)
            refine wpS_bind (gallopL O (by show kindOf st₂ = κ; exact L₂.kind.trans hk₁) (pa _ (by simp)) pb (by omega) (by omega) sdb fun j hj' q1 q2 => ?_)
            rw [List.drop_zero] at q1 q2
            have q1' : ∀ z ∈ b.toList.take j, key z ≤ key a[na - 1] := fun z hz => Int.le_of_lt (q1 z (by rw [List.take_take, show min j (nb - 1) = j by omega]; exact hz))
            dsimp only
            by_cases hk1 : nb - 1 - j > 0
            case pos =>
              have m₃ := m₂.appB (i := j) sb hj' (fun y hy z hz => Int.le_trans (lastLe sa l₁ (toL ea) z hz) (q2 y hy))
              rw [if_pos hk1]
              by_cases e3 : j = 1
              · rw [if_pos (by simpa using e3)]
                exact wpS_pure ⟨L₂.trans ⟨rfl, rfl, rfl, rfl⟩, .inl ⟨_, _, _, _, _, _, _, rfl, m₃.first sa sb (firstOK e3)⟩⟩
              rw [if_neg (by simpa using e3)]
              by_cases e5 : j = 0
              · rw [if_pos (by simpa using e5)]
                exact wpS_pure ⟨L₂.trans ⟨rfl, rfl, rfl, rfl⟩, .inl ⟨_, _, _, _, _, _, _, rfl, m₃.done sa sb (.inr e5)⟩⟩
              rw [if_neg (by simpa using e5)]
              have q2₁ := q1'
              refine wpS_bind (elem_ ea ?_)
              have m₄ := m₃.pushA sa l₁ ea q2₁
              by_cases e4 : na - 1 = 0
              · rw [if_pos (by simpa using e4)]
                exact wpS_pure ⟨L₂.trans ⟨rfl, rfl, rfl, rfl⟩, .inl ⟨_, _, _, _, _, _, _, rfl, m₄.done sa sb (.inl e4)⟩⟩
              rw [if_neg (by simpa using e4)]
              split
              · exact wpS_pure ⟨L₂.trans ⟨rfl, rfl, rfl, rfl⟩, .inr ⟨_, _, _, _, _, _, rfl, m₄, by omega, by omega, by omega⟩⟩
              · exact wpS_pure ⟨_, _, _, _, _, _, rfl, L₂.trans ⟨rfl, rfl, rfl, rfl⟩, m₄, by omega, by omega, by omega⟩
            case neg =>
              have m₃ := m₂
              rw [if_neg hk1]
              have q2₁ : ∀ z ∈ b.toList.take (nb - 1), key z ≤ key a[na - 1] := by
                have e0 : j = nb - 1 := by omega
                rw [e0] at q1'; exact q1'
              refine wpS_bind (elem_ ea ?_)
              have m₄ := m₃.pushA sa l₁ ea q2₁
              by_cases e4 : na - 1 = 0
              · rw [if_pos (by simpa using e4)]
                exact wpS_pure ⟨L₂.trans ⟨rfl, rfl, rfl, rfl⟩, .inl ⟨_, _, _, _, _, _, _, rfl, m₄.done sa sb (.inl e4)⟩⟩
              rw [if_neg (by simpa using e4)]
              split
              · exact wpS_pure ⟨L₂.trans ⟨rfl, rfl, rfl, rfl⟩, .inr ⟨_, _, _, _, _, _, rfl, m₄, by omega, by omega, by omega⟩⟩
              · exact wpS_pure ⟨_, _, _, _, _, _, rfl, L₂.trans ⟨rfl, rfl, rfl, rfl⟩, m₄, by omega, by omega, by omega⟩
end

section
variable {key : Keyed → Int} {xs : Array Keyed} {a b : Nat}

/-- the stretch a..b of an array -/
def seg (xs : Array Keyed) (a n : Nat) : List Keyed := (xs.toList.drop a).take n
theorem up_of_ris {n : Nat} (h : Ris key (seg xs a n)) (hb : a + n ≤ xs.size) : Up key xs a (a + n) := by
  intro i j h1 h2 h3
  have := segUp (base := a) (n := n) hb h (i - a) (j - a) (by omega) (by omega)
  rwa [show a + (i - a) = i by omega, show a + (j - a) = j by omega] at this
theorem ris_of_up {n : Nat} (h : Up key xs a (a + n)) (hb : a + n ≤ xs.size) : Ris key (seg xs a n) := by
  refine List.pairwise_iff_getElem.mpr fun i j hi hj hij => ?_
  simp [seg] at hi hj
  have := h (a + i) (a + j) (by omega) (by omega) (by omega)
  rw [kk_get (by omega), kk_get (by omega)] at this
  simpa [seg] using this

theorem write_ (off : Nat) : ∀ (M : List Keyed) (n : Nat) (xs : Array Keyed), off + n + M.length ≤ xs.size →
    ((M.zipIdx n).foldl (fun a (p : Keyed × Nat) => a.setIfInBounds (off + p.2) p.1) xs).toList = xs.toList.take (off + n) ++ M ++ xs.toList.drop (off + n + M.length)
  | [], n, xs, _ => by simp
  | p :: M, n, xs, h => by
    simp only [List.length_cons] at h ⊢
    rw [List.zipIdx_cons, List.foldl_cons, write_ off M (n + 1) _ (by simp; omega)]
    have e : (xs.setIfInBounds (off + n) p).toList = xs.toList.set (off + n) p := by simp
    rw [e]
    have hlt : off + n < xs.toList.length := by simp; omega
    have e1 : (xs.toList.set (off + n) p).take (off + (n + 1)) = xs.toList.take (off + n) ++ [p] := by
      rw [show off + (n + 1) = off + n + 1 by omega, List.take_succ_eq_append_getElem (by simpa using hlt), List.take_set, List.set_eq_of_length_le (by simp; omega)]
      simp
    have e2 : (xs.toList.set (off + n) p).drop (off + (n + 1) + M.length) = xs.toList.drop (off + n + (M.length + 1)) := by
      rw [List.drop_set_of_lt (by omega), show off + (n + 1) + M.length = off + n + (M.length + 1) by omega]
    rw [e1, e2]
    simp
end

section
variable {prog : Program} {w : World} {A : Around} {E : Value → Shared → Prop} {s : Shared} {κ : SortKind} {key : Keyed → Int} {P : Keyed → Prop} {st : SortSt}

theorem set_ {st₁ : SortSt} {Q : PUnit → SortSt → Prop} (h : Q ⟨⟩ st₁) : wpS (model prog w) A E s (set st₁ : StateT SortSt Sem PUnit) Q st := by
  unfold wpS; rw [StateT.run_set]; exact wpAny_pure ⟨rfl, h⟩

theorem splitAt5 {l : List Keyed} {sa na nb k nb' : Nat} :
    l = l.take sa ++ ((l.drop sa).take na).take k ++ ((l.drop sa).take na).drop k ++ ((l.drop (sa + na)).take nb).take nb' ++ ((l.drop (sa + na)).take nb).drop nb' ++ l.drop (sa + na + nb) := by
  have e1 : l = l.take sa ++ l.drop sa := (List.take_append_drop _ _).symm
  have e2 : l.drop sa = (l.drop sa).take na ++ (l.drop sa).drop na := (List.take_append_drop _ _).symm
  have e3 : l.drop (sa + na) = (l.drop (sa + na)).take nb ++ (l.drop (sa + na)).drop nb := (List.take_append_drop _ _).symm
  have e4 : (l.drop sa).take na = ((l.drop sa).take na).take k ++ ((l.drop sa).take na).drop k := (List.take_append_drop _ _).symm
  have e5 : (l.drop (sa + na)).take nb = ((l.drop (sa + na)).take nb).take nb' ++ ((l.drop (sa + na)).take nb).drop nb' := (List.take_append_drop _ _).symm
  rw [List.drop_drop] at e2 e3
  conv => lhs; rw [e1, e2, e3, e4, e5]
  simp only [List.append_assoc]

theorem up_join {xs : Array Keyed} {a b c : Nat} (u1 : Up key xs a b) (u2 : Up key xs b c) (hab : a < b) (hbc : b < c) (hc : kk key xs (b - 1) ≤ kk key xs b) : Up key xs a c := by
  intro i j h1 h2 h3
  rcases Nat.lt_or_ge j b with q | q
  · exact u1 i j h1 h2 q
  · rcases Nat.lt_or_ge i b with r | r
    · exact Int.le_trans (u1 i (b - 1) h1 (by omega) (by omega)) (Int.le_trans hc (u2 b j (Nat.le_refl _) q h3))
    · exact u2 i j r h2 h3
theorem atTake {xs : Array Keyed} {base n k i : Nat} (hz : base + n ≤ xs.size) (hi : i < k) (hn : i < n) : ∃ y ∈ ((xs.toList.drop base).take n).take k, kk key xs (base + i) = key y := by
  refine ⟨(((xs.toList.drop base).take n).take k)[i]'(by simp; omega), List.getElem_mem _, ?_⟩
  rw [kk_get (by omega)]; simp
theorem atDrop {xs : Array Keyed} {base n k i : Nat} (hz : base + n ≤ xs.size) (hi : k ≤ i) (hn : i < n) : ∃ y ∈ ((xs.toList.drop base).take n).drop k, kk key xs (base + i) = key y := by
  refine ⟨(((xs.toList.drop base).take n).drop k)[i - k]'(by simp; omega), List.getElem_mem _, ?_⟩
  rw [kk_get (by omega)]; simp
  congr 2; omega
theorem outside_ {T m1 m2 D : List Keyed} {k : Nat} (hl : m1.length = m2.length) (hk : k < T.length ∨ T.length + m1.length ≤ k) : (T ++ m1 ++ D)[k]? = (T ++ m2 ++ D)[k]? := by
  rcases hk with q | q
  · rw [List.append_assoc, List.append_assoc, List.getElem?_append_left q, List.getElem?_append_left q]
  · rw [List.getElem?_append_right (by simp; omega), List.getElem?_append_right (by simp; omega)]
    simp [hl]

/-- a stretch is put in order: what comes out -/
theorem placed {xs ys : Array Keyed} {T m1 m2 D : List Keyed} {a n : Nat} (hx : xs.toList = T ++ m1 ++ D) (hy : ys.toList = T ++ m2 ++ D) (hp : m2.Perm m1) (hT : T.length = a) (hm : m1.length = n) (hs : Ris key m2) :
    Turn xs ys a (a + n) ∧ Up key ys a (a + n) := by
  have hl := hp.length_eq
  refine ⟨⟨Array.perm_iff_toList_perm.mpr ?_, fun k hk => ?_⟩, up_of_ris ?_ ?_⟩
  · rw [hx, hy]; exact ((hp.append_left T).append_right D)
  · have := outside_ (T := T) (m1 := m2) (m2 := m1) (D := D) (k := k) hl (by omega)
    rw [← hx, ← hy] at this
    simpa using this
  · unfold seg
    rw [hy, List.append_assoc, List.drop_left' hT, List.take_left' (by omega)]
    exact hs
  · have : ys.size = ys.toList.length := by simp
    rw [this, hy]; simp; omega

theorem mergeAt_ {i sa na nb pw pw' : Nat} {Q : Bool → SortSt → Prop} (O : Ord prog w A s κ key P) (hk : kindOf st = κ) (hf : failedOf st = none) (hP : ∀ p ∈ (arrOf st).toList, P p)
    (hi : (pendingOf st)[i]? = some (sa, na, pw)) (hj : (pendingOf st)[i + 1]? = some (sa + na, nb, pw')) (na0 : 0 < na) (nb0 : 0 < nb) (hz : sa + na + nb ≤ (arrOf st).size)
    (ua : Up key (arrOf st) sa (sa + na)) (ub : Up key (arrOf st) (sa + na) (sa + na + nb))
    (h : ∀ st' : SortSt, kindOf st' = κ → failedOf st' = none → pendingOf st' = ((pendingOf st).setIfInBounds i (sa, na + nb, pw)).eraseIdxIfInBounds (i + 1) → Turn (arrOf st) (arrOf st') sa (sa + na + nb) → Up key (arrOf st') sa (sa + na + nb) → Q true st') :
    wpS (model prog w) A E s (mergeAt' i) Q st := by
  unfold mergeAt'
  refine wpS_bind (wpS_get ?_)
  rw [hi, hj]
  dsimp only
  refine wpS_bind (set_ ?_)
  have sr1 := ris_of_up ua (by omega)
  have sr2 := ris_of_up ub hz
  obtain ⟨b0, eb⟩ : ∃ b0, (arrOf st)[sa + na]? = some b0 := ⟨_, getElem?_pos (arrOf st) (sa + na) (by omega)⟩
  refine wpS_bind (elem_ (arr := arrOf st) eb ?_)
  refine wpS_bind (gallopR (arr := arrOf st) O hk (hP _ (List.mem_of_getElem? (toL eb))) hP (by omega) na0 sr1 fun k hk' k1 k2 => ?_)
  dsimp only
  by_cases e0 : na - k = 0
  · rw [if_pos (by simpa using e0)]
    refine wpS_pure (h _ hk hf rfl .refl (up_join ua ub (by omega) (by omega) ?_))
    obtain ⟨y, hy, e⟩ := atTake (key := key) (xs := arrOf st) (base := sa) (n := na) (k := k) (i := na - 1) (by omega) (by omega) (by omega)
    rw [show sa + na - 1 = sa + (na - 1) by omega, e, kk_at eb]
    exact k1 y hy
  rw [if_neg (by simpa using e0)]
  have ei : sa + k + (na - k) - 1 = sa + na - 1 := by omega
  rw [ei]
  obtain ⟨al, ea⟩ : ∃ al, (arrOf st)[sa + na - 1]? = some al := ⟨_, getElem?_pos (arrOf st) (sa + na - 1) (by omega)⟩
  refine wpS_bind (elem_ (arr := arrOf st) ea ?_)
  refine wpS_bind (gallopL (arr := arrOf st) O hk (hP _ (List.mem_of_getElem? (toL ea))) hP hz (by omega) sr2 fun nb' hb' q1 q2 => ?_)
  dsimp only
  by_cases e1 : nb' = 0
  · rw [if_pos (by simpa using e1)]
    refine wpS_pure (h _ hk hf rfl .refl (up_join ua ub (by omega) (by omega) ?_))
    obtain ⟨y, hy, e⟩ := atDrop (key := key) (xs := arrOf st) (base := sa + na) (n := nb) (k := nb') (i := 0) hz (by omega) (by omega)
    rw [Nat.add_zero] at e
    rw [e, kk_at ea]
    exact q2 y hy
  rw [if_neg (by simpa using e1)]
  -- the pieces
  obtain ⟨xs, hxs⟩ : ∃ xs, xs = arrOf st := ⟨_, rfl⟩
  have hP' : ∀ p ∈ xs.toList, P p := hxs ▸ hP
  rw [← hxs] at k1 k2 q1 q2 sr1 sr2 ea eb hz
  have sp := splitAt5 (l := xs.toList) (sa := sa) (na := na) (nb := nb) (k := k) (nb' := nb')
  unfold seg at sr1 sr2
  have ex : (xs.extract (sa + k) (sa + na)).toList = ((xs.toList.drop sa).take na).drop k := by
    simp [List.drop_take]
    congr 1; omega
  have ey : (xs.extract (sa + na) (sa + na + nb')).toList = ((xs.toList.drop (sa + na)).take nb).take nb' := by
    have e : (xs.extract (sa + na) (sa + na + nb')).toList = (xs.toList.drop (sa + na)).take (sa + na + nb' - (sa + na)) := by simp
    rw [e, List.take_take, show min nb' nb = sa + na + nb' - (sa + na) by omega]
  have lT : (xs.toList.take sa).length = sa := by simp; omega
  have lP : (((xs.toList.drop sa).take na).take k).length = k := by simp; omega
  have lX : (((xs.toList.drop sa).take na).drop k).length = na - k := by simp; omega
  have lY : (((xs.toList.drop (sa + na)).take nb).take nb').length = nb' := by simp; omega
  have lZ : (((xs.toList.drop (sa + na)).take nb).drop nb').length = nb - nb' := by simp; omega
  have sA := List.pairwise_append.mp (show List.Pairwise (fun x y => key x ≤ key y) (((xs.toList.drop sa).take na).take k ++ ((xs.toList.drop sa).take na).drop k) by rw [List.take_append_drop]; exact sr1)
  have sB := List.pairwise_append.mp (show List.Pairwise (fun x y => key x ≤ key y) (((xs.toList.drop (sa + na)).take nb).take nb' ++ ((xs.toList.drop (sa + na)).take nb).drop nb') by rw [List.take_append_drop]; exact sr2)
  have hb0 : ∀ z ∈ (xs.toList.drop (sa + na)).take nb, key b0 ≤ key z := fun z hz' => by
    have := headLe (l := (xs.toList.drop (sa + na)).take nb) (i := 0) (x := b0) (key := key) sr2 (by rw [List.getElem?_take_of_lt nb0, List.getElem?_drop, Nat.add_zero]; exact toL eb)
    exact this z (by simpa using hz')
  have hal : ∀ z ∈ (xs.toList.drop sa).take na, key z ≤ key al := fun z hz' => by
    have := lastLe (l := (xs.toList.drop sa).take na) (n := na) (x := al) (key := key) sr1 na0 (by rw [List.getElem?_take_of_lt (by omega), List.getElem?_drop, show sa + (na - 1) = sa + na - 1 by omega]; exact toL ea)
    exact this z (by rw [List.take_take, Nat.min_self]; exact hz')
  have lastX : (((xs.toList.drop sa).take na).drop k).drop (na - k - 1) = [al] := by
    rw [List.drop_drop, show k + (na - k - 1) = na - 1 by omega]
    have := one_ (x := al) (l := (xs.toList.drop sa).take na) (i := na - 1) (by rw [List.getElem?_take_of_lt (by omega), List.getElem?_drop, show sa + (na - 1) = sa + na - 1 by omega]; exact toL ea)
    rwa [List.take_of_length_le (by simp; omega)] at this
  generalize hgT : xs.toList.take sa = T at *
  generalize hgP : ((xs.toList.drop sa).take na).take k = Pp at *
  generalize hgX : ((xs.toList.drop sa).take na).drop k = X at *
  generalize hgY : ((xs.toList.drop (sa + na)).take nb).take nb' = Y at *
  generalize hgZ : ((xs.toList.drop (sa + na)).take nb).drop nb' = Z at *
  generalize hgD : xs.toList.drop (sa + na + nb) = D at *
  have hY : ∀ z ∈ Y, key b0 ≤ key z := fun z hz' => hb0 z (List.mem_of_mem_take (hgY ▸ hz'))
  have hZ : ∀ z ∈ Z, key b0 ≤ key z := fun z hz' => hb0 z (List.mem_of_mem_drop (hgZ ▸ hz'))
  have hX : ∀ z ∈ X, key z ≤ key al := fun z hz' => hal z (List.mem_of_mem_drop (hgX ▸ hz'))
  have szx : (xs.extract (sa + k) (sa + na)).size = na - k := by rw [← Array.length_toList, ex]; exact lX
  have fin : ∀ (M : Array Keyed) (st' : SortSt), Like (SortSt.mk' (kindOf st) xs (((pendingOf st).setIfInBounds i (sa, na + nb, pw)).eraseIdxIfInBounds (i + 1)) (gallopOf st) (failedOf st)) st' → Mgd key X Y M.toList →
      Q true (setArr st' (M.toList.zipIdx.foldl (fun a (p : Keyed × Nat) => a.setIfInBounds (sa + k + p.2) p.1) (arrOf st'))) := by
    intro M st' L m
    have lM : M.toList.length = (na - k) + nb' := by rw [m.1.length_eq, List.length_append, lX, lY]
    have ear : arrOf st' = xs := L.arr
    have wr := write_ (sa + k) M.toList 0 xs (by omega)
    have e1 : xs.toList.take (sa + k + 0) = T ++ Pp := by
      have sp' : xs.toList = (T ++ Pp) ++ (X ++ Y ++ Z ++ D) := by rw [sp]; simp only [List.append_assoc]
      rw [Nat.add_zero, sp', List.take_left' (by rw [List.length_append]; omega)]
    have e2 : xs.toList.drop (sa + k + 0 + M.toList.length) = Z ++ D := by
      rw [sp, List.append_assoc (T ++ Pp ++ X ++ Y), List.drop_left' (by rw [lM]; simp only [List.length_append]; omega)]
    rw [e1, e2] at wr
    have := placed (key := key) (xs := xs) (ys := M.toList.zipIdx.foldl (fun a (p : Keyed × Nat) => a.setIfInBounds (sa + k + p.2) p.1) xs) (T := T) (m1 := Pp ++ X ++ Y ++ Z) (m2 := Pp ++ M.toList ++ Z) (D := D) (a := sa) (n := na + nb)
      (by rw [sp]; simp only [List.append_assoc]) (by rw [wr]; simp only [List.append_assoc]) ?_ lT (by simp; omega) ?_
    · rw [← Nat.add_assoc] at this
      refine h _ (L.kind.trans hk) (L.failed.trans hf) L.pend ?_ ?_
      · rw [← hxs]; show Turn xs (M.toList.zipIdx.foldl _ (arrOf st')) _ _; rw [ear]; exact this.1
      · show Up key (M.toList.zipIdx.foldl _ (arrOf st')) _ _; rw [ear]; exact this.2
    · rw [List.append_assoc Pp X Y]
      exact (m.1.append_left Pp).append_right Z
    · have mm : ∀ z ∈ M.toList, z ∈ X ∨ z ∈ Y := fun z hz' => List.mem_append.mp (m.1.mem_iff.mp hz')
      refine List.pairwise_append.mpr ⟨List.pairwise_append.mpr ⟨sA.1, m.2, fun p hp z hz' => ?_⟩, sB.2.1, fun p hp z hz' => ?_⟩
      · rcases mm z hz' with q | q
        · exact sA.2.2 p hp z q
        · exact Int.le_trans (k1 p hp) (hY z q)
      · rcases List.mem_append.mp hp with q | q
        · exact Int.le_trans (k1 p q) (hZ z hz')
        · rcases mm p q with r | r
          · exact Int.le_trans (hX p r) (q2 z hz')
          · exact sB.2.2 p r z hz'
  have hxe : arrOf st = xs := hxs.symm
  have pX : ∀ p ∈ (xs.extract (sa + k) (sa + na)).toList, P p := fun p hp => by rw [ex, ← hgX] at hp; exact hP' p (List.mem_of_mem_drop (List.mem_of_mem_take (List.mem_of_mem_drop hp)))
  have pY : ∀ p ∈ (xs.extract (sa + na) (sa + na + nb')).toList, P p := fun p hp => by rw [ey, ← hgY] at hp; exact hP' p (List.mem_of_mem_drop (List.mem_of_mem_take (List.mem_of_mem_take hp)))
  have y0 : (xs.extract (sa + na) (sa + na + nb'))[0]? = some b0 := by
    rw [Array.getElem?_extract]
    simp
    exact ⟨by omega, eb⟩
  have hf1 : ∀ z ∈ (xs.extract (sa + k) (sa + na)).toList, key b0 ≤ key z := by rw [ex]; exact fun z hz' => Int.le_of_lt (k2 z hz')
  have hl1 : ∀ y ∈ (xs.extract (sa + na) (sa + na + nb')).toList, ∀ z ∈ (xs.extract (sa + k) (sa + na)).toList.drop ((xs.extract (sa + k) (sa + na)).size - 1), key y ≤ key z := by
    rw [ex, ey, szx, lastX]
    intro y hy z hz'
    rw [List.mem_singleton.mp hz']
    exact Int.le_of_lt (q1 y hy)
  have sx : Ris key (xs.extract (sa + k) (sa + na)).toList := by rw [ex]; exact sA.2.1
  have sy : Ris key (xs.extract (sa + na) (sa + na + nb')).toList := by rw [ey]; exact sB.1
  have hxe' : (sortPriv% PySem.Builtin.SortState.a) st = xs := hxe
  rw [hxe']
  have ffin : ∀ (M : Array Keyed) (st' : SortSt), Like (SortSt.mk' (kindOf st) xs (((pendingOf st).setIfInBounds i (sa, na + nb, pw)).eraseIdxIfInBounds (i + 1)) (gallopOf st) (failedOf st)) st' → (failedOf st').isNone = true := fun M st' L => by rw [L.failed]; show (failedOf st).isNone = true; rw [hf]; rfl
  by_cases hle : na - k ≤ nb'
  · rw [if_pos hle]
    refine wpS_bind (mergeLo_ O hk pX pY sx sy (by omega) y0 hf1 hl1 fun M st' L m => ?_)
    rw [ex, ey] at m
    refine wpS_bind (wpS_modify (wpS_bind (wpS_get ?_)))
    show wpS _ _ _ _ (pure (failedOf st').isNone) Q _
    rw [ffin M st' L]
    exact wpS_pure (fin M st' L m)
  · rw [if_neg hle]
    refine wpS_bind (mergeHi_ O hk pX pY sx sy (by omega) y0 hf1 hl1 fun M st' L m => ?_)
    rw [ex, ey] at m
    refine wpS_bind (wpS_modify (wpS_bind (wpS_get ?_)))
    show wpS _ _ _ _ (pure (failedOf st').isNone) Q _
    rw [ffin M st' L]
    exact wpS_pure (fin M st' L m)
end

/-- the runs that wait: side by side from a to b, each in order -/
def Runs (key : Keyed → Int) (xs : Array Keyed) : List (Nat × Nat × Nat) → Nat → Nat → Prop
  | [], a, b => a = b
  | r :: rs, a, b => r.1 = a ∧ 0 < r.2.1 ∧ Up key xs a (a + r.2.1) ∧ Runs key xs rs (a + r.2.1) b

section
variable {key : Keyed → Int} {xs ys : Array Keyed}

theorem Runs.le : ∀ {rs : List (Nat × Nat × Nat)} {a b : Nat}, Runs key xs rs a b → a + rs.length ≤ b
  | [], a, b, h => by have : a = b := h; simp; omega
  | r :: rs, a, b, h => by have := Runs.le h.2.2.2; have := h.2.1; simp; omega
theorem Runs.split : ∀ {p q : List (Nat × Nat × Nat)} {a c : Nat}, Runs key xs (p ++ q) a c → ∃ b, Runs key xs p a b ∧ Runs key xs q b c
  | [], q, a, c, h => ⟨a, rfl, h⟩
  | r :: p, q, a, c, h => by
    obtain ⟨b, h1, h2⟩ := Runs.split (p := p) h.2.2.2
    exact ⟨b, ⟨h.1, h.2.1, h.2.2.1, h1⟩, h2⟩
theorem Runs.join : ∀ {p q : List (Nat × Nat × Nat)} {a b c : Nat}, Runs key xs p a b → Runs key xs q b c → Runs key xs (p ++ q) a c
  | [], q, a, b, c, h, k => by have : a = b := h; rw [this]; exact k
  | r :: p, q, a, b, c, h, k => ⟨h.1, h.2.1, h.2.2.1, Runs.join h.2.2.2 k⟩
theorem up_turn {c d p q : Nat} (T : Turn xs ys c d) (u : Up key xs p q) (h : q ≤ c ∨ d ≤ p) : Up key ys p q := fun i j h1 h2 h3 => by
  rw [kk_congr (T.2 i (by omega)), kk_congr (T.2 j (by omega))]; exact u i j h1 h2 h3
theorem Runs.turn {c d : Nat} (T : Turn xs ys c d) : ∀ {rs : List (Nat × Nat × Nat)} {a b : Nat}, Runs key xs rs a b → b ≤ c ∨ d ≤ a → Runs key ys rs a b
  | [], a, b, h, _ => h
  | r :: rs, a, b, h, hd => by
    have := Runs.le h.2.2.2
    exact ⟨h.1, h.2.1, up_turn T h.2.2.1 (by omega), Runs.turn T h.2.2.2 (by omega)⟩
theorem Runs.modify {pw : Nat} : ∀ {rs : List (Nat × Nat × Nat)} {i a b : Nat}, Runs key xs rs a b → Runs key xs (rs.modify i fun x => (x.1, x.2.1, pw)) a b
  | [], i, a, b, h => by cases i <;> exact h
  | r :: rs, 0, a, b, h => ⟨h.1, h.2.1, h.2.2.1, h.2.2.2⟩
  | r :: rs, i + 1, a, b, h => ⟨h.1, h.2.1, h.2.2.1, Runs.modify (i := i) h.2.2.2⟩
end

section
variable {prog : Program} {w : World} {A : Around} {E : Value → Shared → Prop} {s : Shared} {κ : SortKind} {key : Keyed → Int} {P : Keyed → Prop} {st : SortSt}

theorem split2 {α : Type} {p : Array α} {i : Nat} (hi : i + 1 < p.size) : ∃ p1 r1 r2 p2, p.toList = p1 ++ r1 :: r2 :: p2 ∧ p1.length = i := by
  have h1 : i < p.toList.length := by simp; omega
  have h2 : i + 1 < p.toList.length := by simpa using hi
  refine ⟨p.toList.take i, p.toList[i], p.toList[i + 1], p.toList.drop (i + 2), ?_, by simp; omega⟩
  conv => lhs; rw [← List.take_append_drop i p.toList, List.drop_eq_getElem_cons h1, List.drop_eq_getElem_cons h2]

theorem mergeRuns {i b : Nat} {Q : Bool → SortSt → Prop} (O : Ord prog w A s κ key P) (hk : kindOf st = κ) (hf : failedOf st = none) (hP : ∀ p ∈ (arrOf st).toList, P p) (hi : i + 1 < (pendingOf st).size)
    (R : Runs key (arrOf st) (pendingOf st).toList 0 b) (hb : b ≤ (arrOf st).size)
    (h : ∀ st' : SortSt, kindOf st' = κ → failedOf st' = none → Turn (arrOf st) (arrOf st') 0 b → (pendingOf st').size + 1 = (pendingOf st).size → Runs key (arrOf st') (pendingOf st').toList 0 b → Q true st') :
    wpS (model prog w) A E s (mergeAt' i) Q st := by
  obtain ⟨p1, ⟨s1, n1, w1⟩, ⟨s2, n2, w2⟩, p2, hp, hl⟩ := split2 hi
  have R' := R
  rw [hp] at R'
  obtain ⟨m, R1, R2⟩ := R'.split
  obtain ⟨e1, z1, u1, e2, z2, u2, R3⟩ := R2
  dsimp only at e1 z1 u1 e2 z2 u2 R3
  subst e1 e2
  have l1 := R1.le
  have l3 := R3.le
  have hi' : (pendingOf st)[i]? = some (s1, n1, w1) := by
    rw [← Array.getElem?_toList, hp, List.getElem?_append_right (by omega), hl, Nat.sub_self]; rfl
  have hj' : (pendingOf st)[i + 1]? = some (s1 + n1, n2, w2) := by
    rw [← Array.getElem?_toList, hp, List.getElem?_append_right (by omega), hl, show i + 1 - i = 1 by omega]; rfl
  refine mergeAt_ O hk hf hP hi' hj' z1 z2 (by omega) u1 u2 fun st' hk' hf' hpe T U => ?_
  have ep : (pendingOf st').toList = p1 ++ (s1, n1 + n2, w1) :: p2 := by
    rw [hpe]
    have : (((pendingOf st).setIfInBounds i (s1, n1 + n2, w1)).eraseIdxIfInBounds (i + 1)).toList = ((pendingOf st).toList.set i (s1, n1 + n2, w1)).eraseIdx (i + 1) := by simp
    rw [this, hp, ← hl]
    simp [List.set_append_right, List.eraseIdx_append_of_length_le]
  refine h st' hk' hf' (T.mono (Nat.zero_le _) (by omega)) ?_ ?_
  · have e3 : (pendingOf st').size = (pendingOf st').toList.length := by simp
    have e4 : (pendingOf st).size = (pendingOf st).toList.length := by simp
    rw [e3, e4, ep, hp]; simp; omega
  · rw [ep]
    refine Runs.join (R1.turn T (.inl (Nat.le_refl _))) ⟨rfl, by show 0 < n1 + n2; omega, ?_, ?_⟩
    · show Up key (arrOf st') s1 (s1 + (n1 + n2)); rw [← Nat.add_assoc]; exact U
    · show Runs key (arrOf st') p2 (s1 + (n1 + n2)) b; rw [← Nat.add_assoc]; exact R3.turn T (.inr (Nat.le_refl _))

theorem sortRuns_ {Q : Unit → SortSt → Prop} {a₀ : Array Keyed} (O : Ord prog w A s κ key P) (hk : kindOf st = κ) (hf : failedOf st = none) (hP : ∀ p ∈ a₀.toList, P p) (ha : arrOf st = a₀) (hpe : pendingOf st = #[]) (h0 : 0 < a₀.size)
    (h : ∀ st' : SortSt, (arrOf st').Perm a₀ → failedOf st' = none → Up key (arrOf st') 0 a₀.size → Q () st') : wpS (model prog w) A E s sortRuns' Q st := by
  rw [sortRuns'_eq]
  refine wpS_bind (wpS_get ?_)
  have hsz : (arrOf st).size = a₀.size := by rw [ha]
  simp only [hsz]
  generalize minRun' a₀.size a₀.size 0 = mr
  refine wpS_bind (wpS_mono (wpS_forRange
    (I := fun x c (st' : SortSt) => ∃ lo, c = (none, lo) ∧ x ≤ lo ∧ lo ≤ a₀.size ∧ kindOf st' = κ ∧ failedOf st' = none ∧ (arrOf st').Perm a₀ ∧ Runs key (arrOf st') (pendingOf st').toList 0 lo)
    (Q := fun c (st' : SortSt) => c = (none, a₀.size) ∧ kindOf st' = κ ∧ failedOf st' = none ∧ (arrOf st').Perm a₀ ∧ Runs key (arrOf st') (pendingOf st').toList 0 a₀.size) ?step ?fin ?init) ?post)
  case init => exact ⟨0, rfl, Nat.le_refl _, Nat.zero_le _, hk, hf, by rw [ha], by rw [hpe]; rfl⟩
  case fin =>
    rintro c st' ⟨lo, rfl, h1, h2, h3⟩
    have : lo = a₀.size := by omega
    subst this
    exact ⟨rfl, h3⟩
  case step =>
    rintro x c st₁ _ hx ⟨lo, rfl, h1, h2, hk₁, hf₁, pm₁, R₁⟩
    dsimp only
    by_cases hge : lo ≥ a₀.size
    · rw [if_pos hge]
      have : lo = a₀.size := by omega
      subst this
      exact wpS_pure ⟨rfl, hk₁, hf₁, pm₁, R₁⟩
    rw [if_neg hge]
    have sz₁ := pm₁.size_eq
    have hP₁ : ∀ p ∈ (arrOf st₁).toList, P p := fun p hp => hP p ((Array.perm_iff_toList_perm.mp pm₁).mem_iff.mp hp)
    refine wpS_bind (countRun_ O hk₁ hP₁ (by omega) (by omega) fun m ys T hm1 hm2 U => ?_)
    dsimp only
    have hP₂ := turnP T hP₁
    have sz₂ := T.size
    by_cases hlt : m < mr
    · rw [if_pos hlt]
      refine wpS_bind (wpS_lift (wpAny_rule ⟨rfl, ?_⟩))
      refine wpS_bind (binarySort_ (st := setArr st₁ ys) O hk₁ hP₂ (show lo + min (a₀.size - lo) mr ≤ ys.size by omega) (by omega) U fun zs T' U₂ => ?_)
      simp only [Bool.not_true, Bool.false_eq_true, if_false]
      have T₂ : Turn (arrOf st₁) zs lo a₀.size := (T.mono (Nat.le_refl _) (by omega)).trans (Turn.mono T' (Nat.le_refl _) (by omega))
      have R₂ : Runs key zs (pendingOf st₁).toList 0 lo := R₁.turn T₂ (.inl (Nat.le_refl _))
      have pm₂ : zs.Perm a₀ := T₂.1.trans pm₁
      have hP₃ := turnP T₂ hP₁
      have hN : 1 ≤ min (a₀.size - lo) mr ∧ lo + min (a₀.size - lo) mr ≤ a₀.size := by omega
      refine wpS_bind (wpS_get ?_)
      cases hb : (pendingOf st₁).back? with
      | none =>
        dsimp only
        refine wpS_bind (wpS_modify (wpS_pure ⟨lo + min (a₀.size - lo) mr, rfl, by omega, by omega, hk₁, hf₁, pm₂, ?_⟩))
        show Runs key zs ((pendingOf st₁).push (lo, min (a₀.size - lo) mr, 0)).toList 0 (lo + min (a₀.size - lo) mr)
        rw [Array.toList_push]
        exact R₂.join ⟨rfl, hN.1, U₂, rfl⟩
      | some r =>
        obtain ⟨s1, n1, w1⟩ := r
        dsimp only
        refine wpS_bind (wpS_mono (wpS_forRange
          (I := fun _ c (st' : SortSt) => c = (none, ()) ∧ kindOf st' = κ ∧ failedOf st' = none ∧ (arrOf st').Perm a₀ ∧ Up key (arrOf st') lo (lo + min (a₀.size - lo) mr) ∧ Runs key (arrOf st') (pendingOf st').toList 0 lo)
          (Q := fun c (st' : SortSt) => c = (none, ()) ∧ kindOf st' = κ ∧ failedOf st' = none ∧ (arrOf st').Perm a₀ ∧ Up key (arrOf st') lo (lo + min (a₀.size - lo) mr) ∧ Runs key (arrOf st') (pendingOf st').toList 0 lo) ?jstep (fun _ _ hh => hh) ⟨rfl, hk₁, hf₁, pm₂, U₂, R₂⟩) ?jpost)
        case jstep =>
          rintro y c st₃ _ _ ⟨rfl, hk₃, hf₃, pm₃, U₃, R₃⟩
          have sz₃ := pm₃.size_eq
          have hP₄ : ∀ p ∈ (arrOf st₃).toList, P p := fun p hp => hP p ((Array.perm_iff_toList_perm.mp pm₃).mem_iff.mp hp)
          refine wpS_bind (wpS_get ?_)
          by_cases hs : (pendingOf st₃).size > 1
          · rw [if_pos hs, getElem?_pos (pendingOf st₃) ((pendingOf st₃).size - 2) (by omega)]
            dsimp only
            split
            · exact wpS_pure ⟨rfl, hk₃, hf₃, pm₃, U₃, R₃⟩
            · refine wpS_bind (mergeRuns O hk₃ hf₃ hP₄ (by omega) R₃ (by omega) fun st₄ hk₄ hf₄ T₄ _ R₄ => ?_)
              simp only [Bool.not_true, Bool.false_eq_true, if_false]
              exact wpS_pure ⟨rfl, hk₄, hf₄, T₄.1.trans pm₃, up_turn T₄ U₃ (.inr (Nat.le_refl _)), R₄⟩
          · rw [if_neg hs]
            exact wpS_pure ⟨rfl, hk₃, hf₃, pm₃, U₃, R₃⟩
        case jpost =>
          rintro c st₃ ⟨rfl, hk₃, hf₃, pm₃, U₃, R₃⟩
          dsimp only
          refine wpS_bind (wpS_modify (wpS_bind (wpS_modify (wpS_pure ⟨lo + min (a₀.size - lo) mr, rfl, by omega, by omega, hk₃, hf₃, pm₃, ?_⟩))))
          show Runs key (arrOf st₃) (((pendingOf st₃).modify ((pendingOf st₃).size - 1) fun x => (x.1, x.2.1, power' a₀.size (2 * s1 + n1) (2 * s1 + n1 + n1 + min (a₀.size - lo) mr) a₀.size)).push (lo, min (a₀.size - lo) mr, 0)).toList 0 (lo + min (a₀.size - lo) mr)
          rw [Array.toList_push, Array.toList_modify]
          exact R₃.modify.join ⟨rfl, hN.1, U₃, rfl⟩
    · rw [if_neg hlt]
      obtain ⟨zs, hzs⟩ : ∃ zs, zs = ys := ⟨_, rfl⟩
      have T₂ : Turn (arrOf st₁) zs lo a₀.size := hzs ▸ T.mono (Nat.le_refl _) (by omega)
      have U₂ : Up key zs lo (lo + m) := hzs ▸ U
      rw [← hzs]
      have R₂ : Runs key zs (pendingOf st₁).toList 0 lo := R₁.turn T₂ (.inl (Nat.le_refl _))
      have pm₂ : zs.Perm a₀ := T₂.1.trans pm₁
      have hP₃ := turnP T₂ hP₁
      have hN : 1 ≤ m ∧ lo + m ≤ a₀.size := by omega
      refine wpS_bind (wpS_get ?_)
      cases hb : (pendingOf st₁).back? with
      | none =>
        dsimp only
        refine wpS_bind (wpS_modify (wpS_pure ⟨lo + m, rfl, by omega, by omega, hk₁, hf₁, pm₂, ?_⟩))
        show Runs key zs ((pendingOf st₁).push (lo, m, 0)).toList 0 (lo + m)
        rw [Array.toList_push]
        exact R₂.join ⟨rfl, hN.1, U₂, rfl⟩
      | some r =>
        obtain ⟨s1, n1, w1⟩ := r
        dsimp only
        refine wpS_bind (wpS_mono (wpS_forRange
          (I := fun _ c (st' : SortSt) => c = (none, ()) ∧ kindOf st' = κ ∧ failedOf st' = none ∧ (arrOf st').Perm a₀ ∧ Up key (arrOf st') lo (lo + m) ∧ Runs key (arrOf st') (pendingOf st').toList 0 lo)
          (Q := fun c (st' : SortSt) => c = (none, ()) ∧ kindOf st' = κ ∧ failedOf st' = none ∧ (arrOf st').Perm a₀ ∧ Up key (arrOf st') lo (lo + m) ∧ Runs key (arrOf st') (pendingOf st').toList 0 lo) ?jstep (fun _ _ hh => hh) ⟨rfl, hk₁, hf₁, pm₂, U₂, R₂⟩) ?jpost)
        case jstep =>
          rintro y c st₃ _ _ ⟨rfl, hk₃, hf₃, pm₃, U₃, R₃⟩
          have sz₃ := pm₃.size_eq
          have hP₄ : ∀ p ∈ (arrOf st₃).toList, P p := fun p hp => hP p ((Array.perm_iff_toList_perm.mp pm₃).mem_iff.mp hp)
          refine wpS_bind (wpS_get ?_)
          by_cases hs : (pendingOf st₃).size > 1
          · rw [if_pos hs, getElem?_pos (pendingOf st₃) ((pendingOf st₃).size - 2) (by omega)]
            dsimp only
            split
            · exact wpS_pure ⟨rfl, hk₃, hf₃, pm₃, U₃, R₃⟩
            · refine wpS_bind (mergeRuns O hk₃ hf₃ hP₄ (by omega) R₃ (by omega) fun st₄ hk₄ hf₄ T₄ _ R₄ => ?_)
              simp only [Bool.not_true, Bool.false_eq_true, if_false]
              exact wpS_pure ⟨rfl, hk₄, hf₄, T₄.1.trans pm₃, up_turn T₄ U₃ (.inr (Nat.le_refl _)), R₄⟩
          · rw [if_neg hs]
            exact wpS_pure ⟨rfl, hk₃, hf₃, pm₃, U₃, R₃⟩
        case jpost =>
          rintro c st₃ ⟨rfl, hk₃, hf₃, pm₃, U₃, R₃⟩
          dsimp only
          refine wpS_bind (wpS_modify (wpS_bind (wpS_modify (wpS_pure ⟨lo + m, rfl, by omega, by omega, hk₃, hf₃, pm₃, ?_⟩))))
          show Runs key (arrOf st₃) (((pendingOf st₃).modify ((pendingOf st₃).size - 1) fun x => (x.1, x.2.1, power' a₀.size (2 * s1 + n1) (2 * s1 + n1 + n1 + m) a₀.size)).push (lo, m, 0)).toList 0 (lo + m)
          rw [Array.toList_push, Array.toList_modify]
          exact R₃.modify.join ⟨rfl, hN.1, U₃, rfl⟩
  case post =>
    rintro c st₁ ⟨rfl, hk₁, hf₁, pm₁, R₁⟩
    dsimp only
    have le₁ := R₁.le
    refine wpS_bind (wpS_mono (wpS_forRange
      (I := fun x c (st' : SortSt) => c = (none, ()) ∧ kindOf st' = κ ∧ failedOf st' = none ∧ (arrOf st').Perm a₀ ∧ Runs key (arrOf st') (pendingOf st').toList 0 a₀.size ∧ (pendingOf st').size + x ≤ a₀.size)
      (Q := fun c (st' : SortSt) => c = (none, ()) ∧ kindOf st' = κ ∧ failedOf st' = none ∧ (arrOf st').Perm a₀ ∧ Runs key (arrOf st') (pendingOf st').toList 0 a₀.size ∧ (pendingOf st').size ≤ 1) ?estep ?efin ⟨rfl, hk₁, hf₁, pm₁, R₁, by simpa using le₁⟩) ?epost)
    case efin =>
      rintro c st' ⟨hc, a1, a2, a3, a4, a5⟩
      exact ⟨hc, a1, a2, a3, a4, by omega⟩
    case estep =>
      rintro x c st₃ _ hx ⟨rfl, hk₃, hf₃, pm₃, R₃, z₃⟩
      have sz₃ := pm₃.size_eq
      have hP₄ : ∀ p ∈ (arrOf st₃).toList, P p := fun p hp => hP p ((Array.perm_iff_toList_perm.mp pm₃).mem_iff.mp hp)
      refine wpS_bind (wpS_get ?_)
      by_cases hs : (pendingOf st₃).size ≤ 1
      · rw [if_pos hs]
        exact wpS_pure ⟨rfl, hk₃, hf₃, pm₃, R₃, hs⟩
      · rw [if_neg hs]
        split
        all_goals
          refine wpS_bind (mergeRuns O hk₃ hf₃ hP₄ (by first | omega | (split <;> omega)) R₃ (by omega) fun st₄ hk₄ hf₄ T₄ l₄ R₄ => ?_)
          simp only [Bool.not_true, Bool.false_eq_true, if_false]
          exact wpS_pure ⟨rfl, hk₄, hf₄, T₄.1.trans pm₃, R₄, by omega⟩
    case epost =>
      rintro c st₃ ⟨rfl, hk₃, hf₃, pm₃, R₃, z₃⟩
      dsimp only
      refine wpS_pure (h st₃ pm₃ hf₃ ?_)
      have e : (pendingOf st₃).size = (pendingOf st₃).toList.length := by simp
      match hp : (pendingOf st₃).toList, R₃ with
      | [], R => exact absurd (show 0 = a₀.size from R) (by omega)
      | [r], R =>
        obtain ⟨_, _, u, q⟩ := R
        have q' : 0 + r.2.1 = a₀.size := q
        rw [q'] at u
        exact u
      | _ :: _ :: _, _ => rw [hp] at e; simp at e; omega
end

section
variable {prog : Program} {w : World} {A : Around} {E : Value → Shared → Prop} {s : Shared} {κ : SortKind} {key : Keyed → Int} {P : Keyed → Prop}

theorem sortOut {vs : List Value} {xs : Array Keyed} (hp : xs.Perm (pairsOf vs)) (u : Up key xs 0 (pairsOf vs).size) :
    (xs.map (·.2)).toList.Perm vs ∧ (xs.map (·.2)).toList.Pairwise fun x y => key (x, x) ≤ key (y, y) := by
  have hl : xs.toList.Perm (vs.zip vs) := by rw [← pairsOf_toList]; exact Array.perm_iff_toList_perm.mp hp
  have hmem : ∀ p, p ∈ xs.toList → p.1 = p.2 ∧ p.1 ∈ vs := fun p hp' => mem_zip_self (hl.mem_iff.mp hp')
  refine ⟨?_, ?_⟩
  · rw [Array.toList_map]
    have := hl.map (·.2)
    rwa [List.map_snd_zip (Nat.le_refl _)] at this
  · have r := ris_of_up (a := 0) (n := xs.size) (by rw [Nat.zero_add, hp.size_eq]; exact u) (by omega)
    unfold seg at r
    rw [List.drop_zero, List.take_of_length_le (by simp)] at r
    rw [Array.toList_map, List.pairwise_map]
    refine List.Pairwise.imp_of_mem (fun {a b} ha hb e => ?_) r
    have ea : (a.2, a.2) = a := Prod.ext (hmem a ha).1.symm rfl
    have eb : (b.2, b.2) = b := Prod.ext (hmem b hb).1.symm rfl
    rw [ea, eb]; exact e

theorem listSort {a : Addr} {vs : List Value} {n : Nat} {Pp : PySem.Fin → Shared → Prop} (ho : s.heap.get? a = some (listOf vs.toArray n)) (hz : vs.length < 1000000)
    (hkind : 2 ≤ vs.length → ∀ s', ExL a s s' → wpAny (model prog w) A (keyKind' vs.toArray) (fun κ' s'' => κ' = κ ∧ s'' = s') No s')
    (hord : ∀ s', ExL a s s' → Ord prog w A s' κ key P) (hP : ∀ v ∈ vs, P (v, v))
    (h : ∀ s' (out : List Value) m, ExL a s s' → s'.heap.get? a = some (listOf out.toArray m) → out.Perm vs → (out.Pairwise fun x y => key (x, x) ≤ key (y, y)) → Pp (.done (.ret .none)) s') :
    wpAny (model prog w) A (Builtin.«list.sort» ⟨[.ref a], []⟩) Pp E s := by
  rw [list_sort_plain]
  have ha : a < s.heap.objs.size := Heap.lt_size ho
  refine wpAny_bind (listItems_at ho rfl ?_)
  refine wpAny_bind (listUpdate_at ho rfl ?_ (by rw [List.size_toArray, sizeLine_eq]; omega) (Nat.zero_le _))
  obtain ⟨e1, ho1⟩ : ∃ e1, (s.heap.update a (Obj.mapSeq fun _ => #[])).get? a = some (seqObj "list" #[] e1) := ⟨_, get?_update_seq ho (fun _ => #[])⟩
  refine wpAny_bind (seqEpoch_at ho1 rfl ?_)
  refine wpAny_bind (wpAny_newTuple ?_ (by show vs.length ≤ _; rw [sizeLine_eq]; omega))
  refine wpAny_bind (wpAny_newList ?_ (Nat.zero_le _))
  refine wpAny_holding ?_
  show wpAny (model prog w) A _ Pp E { s with heap := ((s.heap.update a (Obj.mapSeq fun _ => #[])).push (seqObj "tuple" vs.toArray 0)).push (seqObj "list" #[] 0) }
  have ho6 : (((s.heap.update a (Obj.mapSeq fun _ => #[])).push (seqObj "tuple" vs.toArray 0)).push (seqObj "list" #[] 0)).get? a = some (seqObj "list" #[] e1) := Heap.get?_push_of_some _ (Heap.get?_push_of_some _ ho1)
  have x6 : ExL a s { s with heap := ((s.heap.update a (Obj.mapSeq fun _ => #[])).push (seqObj "tuple" vs.toArray 0)).push (seqObj "list" #[] 0) } :=
    ⟨fun b o nb e => Heap.get?_push_of_some _ (Heap.get?_push_of_some _ ((Heap.get?_update_other _ _ (Ne.symm nb)).trans e)), rfl, rfl⟩
  generalize ((s.heap.update a (Obj.mapSeq fun _ => #[])).push (seqObj "tuple" vs.toArray 0)).push (seqObj "list" #[] 0) = h6 at *
  dsimp only
  have fin : ∀ st' : SortSt, (arrOf st').Perm (pairsOf vs) → Up key (arrOf st') 0 (pairsOf vs).size → Pp (.done (.ret .none)) { s with heap := h6.update a (Obj.mapSeq fun _ => (arrOf st').map (·.2)) } := by
    intro st' hp u
    obtain ⟨p1, p2⟩ := sortOut hp u
    obtain ⟨e2, he2⟩ : ∃ e2, (h6.update a (Obj.mapSeq fun _ => (arrOf st').map (·.2))).get? a = some (seqObj "list" ((arrOf st').map (·.2)) e2) := ⟨_, get?_update_seq ho6 _⟩
    refine h _ ((arrOf st').map (·.2)).toList e2 (x6.trans ⟨fun b o nb e => (Heap.get?_update_other _ _ (Ne.symm nb)).trans e, rfl, rfl⟩) ?_ p1 p2
    rw [Array.toArray_toList]; exact he2
  by_cases h2 : vs.toArray.size < 2
  · rw [if_pos h2, if_pos h2]
    refine wpAny_bind (wpAny_pure ?_)
    rw [StateT.run_pure]
    refine wpAny_bind (wpAny_pure ?_)
    dsimp only
    refine wpAny_bind (seqEpoch_at ho6 rfl ?_)
    refine wpAny_bind (listUpdate_at ho6 rfl ?_ (Nat.zero_le _) (by show (((vs.toArray.zip vs.toArray)).map (·.2)).size ≤ _; rw [Array.size_map]; show (pairsOf vs).size ≤ _; rw [pairsOf_size, sizeLine_eq]; omega))
    simp only [bne_self_eq_false, Bool.false_eq_true, if_false]
    refine wpAny_pure (fin (SortSt.mk' general' (vs.toArray.zip vs.toArray) #[] 7 none) (Array.Perm.refl _) ?_)
    intro i j _ hij hj
    rw [pairsOf_size] at hj
    rw [List.size_toArray] at h2
    have : i = j := by omega
    subst this; exact Int.le_refl _
  · rw [if_neg h2, if_neg h2]
    rw [List.size_toArray] at h2
    refine wpAny_bind (wpAny_mono (hkind (by omega) _ x6) (fun κ' s'' hk => ?_) fun _ _ q => q.elim)
    obtain ⟨rfl, rfl⟩ := hk
    refine wpAny_bind (wpAny_mono (sortRuns_ (Q := fun _ st' => (arrOf st').Perm (pairsOf vs) ∧ failedOf st' = none ∧ Up key (arrOf st') 0 (pairsOf vs).size) (a₀ := pairsOf vs) (st := SortSt.mk' κ' (vs.toArray.zip vs.toArray) #[] 7 none) (hord _ x6) rfl rfl (fun p hp => ?_) rfl rfl (by rw [pairsOf_size]; omega) fun st' a1 a2 a3 => ⟨a1, a2, a3⟩) ?_ fun _ _ e => e)
    · rw [pairsOf_toList] at hp
      have := mem_zip_self hp
      have e : p = (p.1, p.1) := Prod.ext rfl this.1.symm
      rw [e]; exact hP _ this.2
    · rintro ⟨⟨⟩, st'⟩ s' ⟨rfl, hp, hf, hs⟩
      dsimp only
      refine wpAny_bind (seqEpoch_at ho6 rfl ?_)
      refine wpAny_bind (listUpdate_at ho6 rfl ?_ (Nat.zero_le _) (by refine Nat.le_trans (Nat.le_of_eq ((Array.size_map ..).trans (hp.size_eq.trans (pairsOf_size _)))) ?_; rw [sizeLine_eq]; omega))
      rw [hf]
      simp only [bne_self_eq_false, Bool.false_eq_true, if_false]
      exact wpAny_pure (fin st' hp hs)

/-- sorted(v) -/
theorem sortedCall {v : Value} {Q : Value → Shared → Prop}
    (hcol : wpAny (model prog w) A.in1 (collect v) (fun xs s₁ => Grow s s₁ ∧ xs.length < 1000000 ∧ (2 ≤ xs.length → ∀ (A' : Around) s', A'.units ≤ A.units + 10 → Grow s₁ s' → wpAny (model prog w) A' (keyKind' xs.toArray) (fun κ' s'' => κ' = κ ∧ s'' = s') No s') ∧
      (∀ (A' : Around) s', A'.units ≤ A.units + 10 → Grow s₁ s' → Ord prog w A' s' κ key P) ∧ (∀ x ∈ xs, P (x, x)) ∧
      ∀ s' D (out : List Value) m, Grow s₁ s' → s₁.heap.get? D = none → s'.heap.get? D = some (listOf out.toArray m) → out.Perm xs → (out.Pairwise fun x y => key (x, x) ≤ key (y, y)) → Q (.ref D) s') E s) :
    wpAny (model prog w) A (call (.builtin "sorted") [v]) Q E s := by
  refine Calls.call_function_entry kind_sorted plain_sorted entry_sorted (args_sorted1 _) ?_
  unfold Builtin.«sorted»
  refine wpAny_bind (m := checkCount "sorted" 1 1 _) (wpAny_pure ?_)
  refine wpAny_bind (wpAny_mono hcol (fun xs s₁ ⟨g₁, hz, hk, ho, hP, hQ⟩ => ?_) fun _ _ q => q)
  refine wpAny_bind (newList_ (fun s₂ D g₂ hD nD => ?_) (by omega))
  have gx : ∀ {s'}, ExL D s₂ s' → Grow s₁ s' := fun {s'} x => ⟨fun b o e => x.keep b o (fun q => by rw [q, nD] at e; cases e) (g₂.keep b o e), x.os.trans g₂.os, x.gens.trans g₂.gens⟩
  refine wpAny_bind (wpAny_holding (wpAny_call_entry slot_list_sort ⟨_, hD, rfl⟩ entry_list_sort (listSort hD hz (fun h2 s' x => hk h2 _ s' ?_ (gx x)) (fun s' x => ho _ s' ?_ (gx x)) hP fun s' out m x hD' p1 p2 => ⟨_, rfl, ?_⟩) (args_list_sort _)))
  · show A.units + 1 + 1 ≤ A.units + 10; omega
  · show A.units + 1 + 1 ≤ A.units + 10; omega
  · exact wpAny_pure ⟨_, rfl, hQ s' D out m (gx x) nD hD' p1 p2⟩

/-- a list's items -/
theorem collectList {l : Addr} {vs : List Value} {n : Nat} {Q : List Value → Shared → Prop} (hl : s.heap.get? l = some (listOf vs.toArray n)) (hz : vs.length < 1000000) (h : ∀ s', Grow s s' → Q vs s') : wpAny (model prog w) A (collect (.ref l)) Q E s := by
  refine collect_list (isL hl) (h _ ⟨fun b o e => ?_, rfl, rfl⟩) (by rw [sizeLine_eq]; omega)
  rw [Heap.get?_update_other _ _ (Ne.symm (Nat.ne_of_lt (Heap.lt_size e)))]
  exact Heap.get?_push_of_some _ e

/-- ints by rank -/
theorem ordInt : Ord prog w A s oneType' (fun p => numOf p.1) (fun p => ∃ n t, p.1 = .int n t) where
  lt := by
    rintro E Q ⟨x, x'⟩ ⟨y, y'⟩ ⟨n, t, rfl⟩ ⟨m, u, rfl⟩ h
    rw [keyLt'_oneType]
    exact oneLt_int h

theorem kindInts {vs : List Value} {ns : List Int} (ha : All2 RepI vs ns) (h2 : 2 ≤ vs.length) : keyKind' vs.toArray = pure oneType' := by
  have hI : IntsAre vs ns := by
    clear h2
    induction ha with
    | nil => exact .nil
    | cons r _ ih => obtain ⟨t, rfl⟩ := r; exact .cons _ t ih
  match vs, h2, hI with
  | v₁ :: v₂ :: rest, _, hI => exact keyKind_ints hI

theorem all2_map {vs : List Value} (h : ∀ v ∈ vs, ∃ n t, v = .int n t) : All2 RepI vs (vs.map numOf) := by
  induction vs with
  | nil => exact .nil
  | cons v vs ih =>
    obtain ⟨n, t, rfl⟩ := h v (.head _)
    exact .cons ⟨t, rfl⟩ (ih fun u hu => h u (.tail _ hu))
theorem all2_nums {vs : List Value} {ns : List Int} (ha : All2 RepI vs ns) : vs.map numOf = ns := by
  induction ha with
  | nil => rfl
  | cons r _ ih => obtain ⟨t, rfl⟩ := r; rw [List.map_cons, ih]; rfl
theorem all2_int {vs : List Value} {ns : List Int} (ha : All2 RepI vs ns) : ∀ v ∈ vs, ∃ n t, v = .int n t := by
  induction ha with
  | nil => intro v hv; cases hv
  | cons r _ ih =>
    intro v hv
    rcases List.mem_cons.mp hv with rfl | hv
    · obtain ⟨t, rfl⟩ := r; exact ⟨_, t, rfl⟩
    · exact ih v hv

/-- sorted(l) of a list of ints -/
theorem sortedInts {l : Addr} {vs : List Value} {ns : List Int} {n : Nat} {Q : Value → Shared → Prop} (hl : s.heap.get? l = some (listOf vs.toArray n)) (ha : All2 RepI vs ns) (hz : vs.length < 1000000)
    (h : ∀ s' D (out : List Value) (ns' : List Int) m, Grow s s' → s.heap.get? D = none → s'.heap.get? D = some (listOf out.toArray m) → All2 RepI out ns' → ns'.Perm ns → ns'.Pairwise (· ≤ ·) → Q (.ref D) s') :
    wpAny (model prog w) A (call (.builtin "sorted") [.ref l]) Q E s := by
  refine sortedCall (κ := oneType') (key := fun p => numOf p.1) (P := fun p => ∃ n t, p.1 = .int n t) (collectList hl hz fun s₁ g₁ => ⟨g₁, hz, fun h2 A' s' _ _ => ?_, fun A' s' _ _ => ordInt, fun x hx => all2_int ha x hx, fun s' D out m g₂ nD hD p1 p2 => ?_⟩)
  · rw [kindInts ha h2]
    exact wpAny_pure ⟨rfl, rfl⟩
  · refine h s' D out (out.map numOf) m (g₁.trans g₂) ?_ hD (all2_map fun v hv => all2_int ha v (p1.mem_iff.mp hv)) ?_ ?_
    · cases q : s.heap.get? D with
      | none => rfl
      | some o => rw [g₁.keep _ _ q] at nD; cases nD
    · have := p1.map numOf
      rwa [all2_nums ha] at this
    · rw [List.pairwise_map]; exact p2
end

abbrev pg1 : Program := PySem.Challenge.pw_dn0234_01

def mul8 (i : Nat) (x : Int) : Nat := (if i = 0 then (x.fmod 8 + 1).fdiv 3 else (x.fmod 8 + 1).fmod 3).toNat
theorem mul8_int (i : Nat) (x : Int) : (if i = 0 then (x.fmod 8 + 1).fdiv 3 else (x.fmod 8 + 1).fmod 3) = ((mul8 i x : Nat) : Int) ∧ mul8 i x ≤ 2 := by
  have h1 : 0 ≤ x.fmod 8 := Int.fmod_nonneg_of_pos x (by decide)
  have h2 : x.fmod 8 < 8 := Int.fmod_lt_of_pos x (by decide)
  have h3 : 0 ≤ (x.fmod 8 + 1).fmod 3 := Int.fmod_nonneg_of_pos _ (by decide)
  have h4 : (x.fmod 8 + 1).fmod 3 < 3 := Int.fmod_lt_of_pos _ (by decide)
  have h5 : (x.fmod 8 + 1).fdiv 3 = (x.fmod 8 + 1) / 3 := Int.fdiv_eq_ediv_of_nonneg _ (by decide)
  unfold mul8
  split
  · rw [h5]; omega
  · omega
def made8 (i : Nat) (X : List Int) : List Int := X.flatMap fun x => List.replicate (mul8 i x) (x.fdiv 8)
theorem made8_len (i : Nat) (X : List Int) : (made8 i X).length ≤ 2 * X.length := by
  induction X with
  | nil => simp [made8]
  | cons x X ih => have := (mul8_int i x).2; simp [made8] at ih ⊢; omega
theorem made8_snoc (i : Nat) (X : List Int) (x : Int) : made8 i (X ++ [x]) = made8 i X ++ List.replicate (mul8 i x) (x.fdiv 8) := by simp [made8]
theorem all2_rep {x : Nat} {a : Int} {t : Tok} : All2 RepI (List.replicate x (Value.int a t)) (List.replicate x a) := by
  induction x with
  | zero => exact .nil
  | succ x ih => exact .cons ⟨t, rfl⟩ ih

section
variable {prog : Program} {w : World} {A : Around} {s : Shared} {f l : Addr} {cd : Value} {vs : List Value} {X : List Int} {i : Nat} {ti : Tok}

theorem numbers_call {R : Result → Shared → Prop} (fn : Fn s.heap f "_law_numbers" (stmtAt pg1 3) cd) (lim : s.heap.NoLimit) (hr : A.depth < recursionLimit) (hh : A.handled = none) (hu : A.units < 7000) (hb : Bn s.heap "divmod" (.builtin "divmod")) (hb' : Bn s.heap "sorted" (.builtin "sorted"))
    (hl : s.heap.IsList l vs.toArray) (ha : All2 RepI vs X) (hz : X.length ≤ 63) (hi : i < 2)
    (hR : ∀ s' D us ns j, Grow s s' → s.heap.get? D = none → s'.heap.get? D = some (listOf us.toArray j) → All2 RepI us ns → ns.Perm (made8 i X) → ns.Pairwise (· ≤ ·) → R (.ok (.ret (.ref D))) s') :
    codeAny (model prog w) A (.call (.ref f) ⟨[.ref l, .int (i : Nat) ti], []⟩) R s := by
  refine callFn (binds := [("script", .ref l), ("which", .int (i : Nat) ti)]) fn lim hr (fun _ _ _ _ => rfl) (locs rfl) (fun s₁ F g => ?_) (by decide)
  refine wpAny_mono (E := No) ?_ (fun _ _ q => q) fun _ _ q => q.elim
  generalize hL : s.heap.objs.size = L at F ⊢
  have nL : s.heap.get? L = none := hL ▸ Heap.get?_none_of_le (Nat.le_refl _)
  refine wpAny_execs_cons (wpAny_Assign_Name (List_ (spliced_none (newList_ fun s₂ aR g₂ gR nR => st_ (frGrow F g₂) fun s₃ F₃ g₃ => ?_))))
  have lL : s₁.heap.get? L ≠ none := fun q => by
    obtain ⟨o, _, _, e, _⟩ := F.ns
    rw [e] at q; cases q
  have RL : aR ≠ L := fun q => lL (q ▸ nR)
  have nR₀ : s.heap.get? aR = none := by
    cases q : s.heap.get? aR with
    | none => rfl
    | some o => rw [g.keep _ _ q] at nR; cases nR
  have gR₃ := g₃.keep _ _ RL gR
  obtain ⟨ol, hol, rl⟩ := hl
  have hl₃ : s₃.heap.IsList l vs.toArray := ⟨ol, F₃.keep _ _ hol, rl⟩
  have lne : l ≠ L := fun q => by rw [q, nL] at hol; cases hol
  have lR : l ≠ aR := fun q => by rw [q, nR₀] at hol; cases hol
  refine wpAny_execs_cons (forS (RA := RepI) (X := X) (fps := fun it => [it, l]) F₃ hh (ld F₃ (upd_ne (by decide) rfl) (srcListI (.refl _) hl₃ ha)) ?_
    (fun it k s' m' => m' "numbers" = some (.ref aR) ∧ m' "which" = some (.int (i : Nat) ti) ∧ ∃ us j, s'.heap.get? aR = some (listOf us.toArray j) ∧ All2 RepI us (made8 i (X.take k)) ∧ s'.os = s.os ∧ s'.gens = s.gens) ?_ ?_ ?_ ?_)
  · intro it ni q
    rcases List.mem_cons.mp q with q | q
    · obtain ⟨o, _, _, e, _⟩ := F₃.ns
      rw [q, ni] at e; cases e
    · exact lne (List.mem_singleton.mp q).symm
  · rintro it k s₄ s₅ m' ni ⟨hm, hw, us, j, q1, b1, os, gens⟩ g
    have iR : aR ≠ it := fun q => by rw [← q, gR₃] at ni; cases ni
    exact ⟨hm, hw, us, j, g.keep _ _ iR RL q1, b1, g.os.trans os, g.gens.trans gens⟩
  · intro it s₄ ni g₄
    exact ⟨upd_same, upd_ne (by decide) rfl, [], 0, g₄.keep _ _ gR₃, .nil, g₄.os.trans (g₃.os.trans (g₂.os.trans g.os)), g₄.gens.trans (g₃.gens.trans (g₂.gens.trans g.gens))⟩
  · rintro it k v s₄ m₁ hk ni iL iz hfp ⟨t, rfl⟩ F₄ ⟨hm, hw, us, j, q1, b1, os, gens⟩
    have iR : aR ≠ it := fun q => by rw [← q, gR₃] at ni; cases ni
    have mx : upd m₁ "x" (.int X[k] t) "x" = some (.int X[k] t) := upd_same
    have hm' : upd m₁ "x" (.int X[k] t) "numbers" = some (.ref aR) := upd_ne (by decide) hm
    have hw' : upd m₁ "x" (.int X[k] t) "which" = some (.int (i : Nat) ti) := upd_ne (by decide) hw
    generalize upd m₁ "x" (.int X[k] t) = m₄ at *
    have tk := List.take_succ_eq_append_getElem hk
    have lt1 := made8_len i (X.take k)
    have lx : (X.take k).length ≤ 63 := by rw [List.length_take]; omega
    have z1 := b1.length
    have y1 := mul8_int i X[k]
    refine wpAny_execs_cons (extendMul (a := X[k].fdiv 8) (x := mul8 i X[k]) (EvV.name F₄.ns hm') q1 (by omega) (fun s₅ g₅ => EvI.div (EvI.name (frGrow F₄ g₅).ns mx) (by decide) (by decide)) (fun s₅ g₅ => ?_) fun s₅ j5 t5 g₅ q5 => ?_)
    · rw [← y1.1]
      exact EvI.divmod (nameB (frGrow F₄ g₅) hb ⟨rfl, rfl⟩) (EvI.add (EvI.mod (EvI.name (frGrow F₄ g₅).ns mx) (by decide)) fun _ _ => EvI.const) (by decide) (by decide) (frGrow F₄ g₅).ns hw' hi
    refine wpAny_execs_nil (.inl ⟨rfl, fun b hb o q => ?_, m₄, frExL F₄ g₅ (Ne.symm RL) nR₀, hm', hw', _, j5, q5, ?_, g₅.os.trans os, g₅.gens.trans gens⟩)
    · rcases List.mem_cons.mp hb with rfl | hb
      · exact g₅.keep _ _ (Ne.symm iR) q
      · rw [List.mem_singleton.mp hb] at q ⊢
        exact g₅.keep _ _ lR q
    · rw [tk, made8_snoc]; exact b1.append all2_rep
  · rintro it s₄ m' ni F' ⟨hm, hw, us, j, q1, b1, os, gens⟩
    rw [List.take_length] at b1
    have z1 := b1.length
    have lt1 := made8_len i X
    refine wpAny_execs_cons (wpAny_Return_some (Call_ (nameB F' hb' ?_)))
    refine callWith_builtin1 (spliced_more (ld F' hm (spliced_none ?_)))
    exact sortedInts q1 b1 (by omega) fun s₅ D out ns' m g₅ nD hD a1 a2 a3 => hR s₅ D out ns' m ⟨fun b o e => g₅.keep b o (F'.keep b o e), g₅.os.trans os, g₅.gens.trans gens⟩ (by
      cases q : s.heap.get? D with
      | none => rfl
      | some o => rw [F'.keep _ _ q] at nD; cases nD) hD a1 a2 a3
end

/-! what each answer holds, for lists in order -/
def incl (p : Option Int) (a : Int) (B : List Int) : Bool := !(B.contains a) && (p != some a || B.all fun b => decide (b < a))
def due {α : Type} (key : α → Int) (B : List Int) : Option Int → List α → List α
  | _, [] => []
  | p, a :: A => if incl p (key a) B then a :: due key B (some (key a)) A else due key B (some (key a)) A
def lastK {α : Type} (key : α → Int) (p : Option Int) (A : List α) : Option Int := match A.getLast? with
  | some b => some (key b)
  | none => p

section
variable {α : Type} {key : α → Int} {B B' : List Int} {x : Int}

theorem due_snoc (a : α) : ∀ (A : List α) (p : Option Int), due key B p (A ++ [a]) = due key B p A ++ if incl (lastK key p A) (key a) B then [a] else []
  | [], p => by show (if incl p (key a) B = true then [a] else []) = [] ++ _; rw [List.nil_append]; rfl
  | b :: A, p => by
    have e : lastK key (some (key b)) A = lastK key p (b :: A) := by
      unfold lastK
      cases A with
      | nil => rfl
      | cons c A => rw [List.getLast?_cons_cons]; rfl
    rw [List.cons_append, due, due, due_snoc a A, e]
    split <;> simp

theorem due_skip (h : incl (some x) x B = false) : ∀ A : List α, due key B (some x) A = due key B (some x) (A.dropWhile fun z => key z == x)
  | [] => rfl
  | a :: A => by
    rw [List.dropWhile_cons]
    by_cases e : key a = x
    · rw [if_pos (by simpa using e), due, e, h, if_neg (by decide)]
      exact due_skip h A
    · rw [if_neg (by simpa using e)]
theorem due_prev (A : List α) (h : ∀ a ∈ A, x < key a) : due key B (some x) A = due key B none A := by
  cases A with
  | nil => rfl
  | cons a A =>
    have hx := h a (.head _)
    have e : incl (some x) (key a) B = incl none (key a) B := by
      unfold incl
      have : (some x != some (key a)) = true := by simp; omega
      rw [this]; rfl
    rw [due, due, e]
theorem due_congr : ∀ (A : List α) (p : Option Int), (∀ a ∈ A, ∀ p, incl p (key a) B = incl p (key a) B') → due key B p A = due key B' p A
  | [], _, _ => rfl
  | a :: A, p, h => by rw [due, due, h a (.head _) p, due_congr A _ fun b hb => h b (.tail _ hb)]
theorem incl_congr {a : Int} (h1 : B.contains a = B'.contains a) (h2 : (B.all fun b => decide (b < a)) = B'.all fun b => decide (b < a)) (p : Option Int) : incl p a B = incl p a B' := by
  unfold incl; rw [h1, h2]

abbrev Srt (key : α → Int) (l : List α) : Prop := l.Pairwise fun x y => key x ≤ key y

theorem rest_gt {x : α} {xs : List α} (h : Srt key (x :: xs)) : ∀ a ∈ xs.dropWhile (fun z => key z == key x), key x < key a := by
  have h' := List.pairwise_cons.mp h
  intro a ha
  have hle := h'.1 a ((List.dropWhile_sublist _).subset ha)
  have sd : Srt key (xs.dropWhile fun z => key z == key x) := h'.2.sublist (List.dropWhile_sublist _)
  cases hd : xs.dropWhile (fun z => key z == key x) with
  | nil => rw [hd] at ha; cases ha
  | cons b bs =>
    have hb : ¬ (key b == key x) = true := by
      have := List.head?_dropWhile_not (fun z => key z == key x) xs
      rw [hd] at this
      simpa using this
    have hb' : key b ≠ key x := by simpa using hb
    have hbx := h'.1 b ((List.dropWhile_sublist _).subset (by rw [hd]; exact .head _))
    rw [hd] at ha sd
    rcases List.mem_cons.mp ha with rfl | ha
    · omega
    · have := (List.pairwise_cons.mp sd).1 a ha
      omega
theorem split_run {x : α} (xs : List α) : ∃ n, (xs.map key) = List.replicate n (key x) ++ (xs.dropWhile fun z => key z == key x).map key := by
  induction xs with
  | nil => exact ⟨0, rfl⟩
  | cons a xs ih =>
    rw [List.dropWhile_cons]
    by_cases e : key a = key x
    · obtain ⟨n, hn⟩ := ih
      rw [if_pos (by simpa using e)]
      exact ⟨n + 1, by rw [List.map_cons, e, hn]; rfl⟩
    · rw [if_neg (by simpa using e)]
      exact ⟨0, rfl⟩
theorem run_contains {x : α} {xs : List α} {b : Int} (hb : b ≠ key x) : ((x :: xs).map key).contains b = ((xs.dropWhile fun z => key z == key x).map key).contains b := by
  obtain ⟨n, hn⟩ := split_run (key := key) (x := x) xs
  rw [List.map_cons, hn, List.contains_cons]
  have e1 : (b == key x) = false := by simpa using hb
  rw [e1, Bool.false_or]
  rw [Bool.eq_iff_iff]
  simp only [List.contains_iff_mem, List.mem_append, List.mem_replicate]
  constructor
  · rintro (h | h)
    · exact absurd h.2 hb
    · exact h
  · exact .inr
theorem run_all {x : α} {xs : List α} {b : Int} (hb : key x < b) : (((x :: xs).map key).all fun c => decide (c < b)) = ((xs.dropWhile fun z => key z == key x).map key).all fun c => decide (c < b) := by
  obtain ⟨n, hn⟩ := split_run (key := key) (x := x) xs
  rw [List.map_cons, hn, List.all_cons, List.all_append, decide_eq_true hb, Bool.true_and]
  have : ((List.replicate n (key x)).all fun c => decide (c < b)) = true := by
    rw [List.all_eq_true]
    intro c hc
    rw [(List.mem_replicate.mp hc).2]
    simpa using hb
  rw [this, Bool.true_and]
theorem run_incl {x : α} {xs : List α} {b : Int} (hb : key x < b) (p : Option Int) : incl p b ((x :: xs).map key) = incl p b ((xs.dropWhile fun z => key z == key x).map key) :=
  incl_congr (run_contains (by omega)) (run_all hb) p

theorem plainDue : ∀ (N : Nat) (X Y : List α), X.length + Y.length ≤ N → Srt key X → Srt key Y →
    sld (fun a b => some (decide (key a < key b))) (fun a b => decide (key a > key b)) (fun a b => key a == key b) X Y = some (due key (Y.map key) none X, due key (X.map key) none Y) := by
  have dueNil : ∀ (l : List α) (p : Option Int), due key [] p l = l := by
    intro l
    induction l with
    | nil => intro p; rfl
    | cons a l ih => intro p; rw [due, if_pos (by simp [incl]), ih]
  intro N
  induction N with
  | zero =>
    intro X Y h _ _
    cases X with
    | nil => cases Y with
      | nil => rw [sld_nil]; rfl
      | cons _ _ => simp at h
    | cons _ _ => simp at h
  | succ N ih =>
    intro X Y h sX sY
    cases X with
    | nil => rw [sld_nil, List.map_nil, dueNil]; rfl
    | cons x xs => cases Y with
      | nil => rw [sld_nil', List.map_nil, dueNil]; rfl
      | cons y ys =>
        rw [sld_cons]
        have l1 := dropWhile_len (fun z => key z == key x) xs
        have l2 := dropWhile_len (fun z => key z == key y) ys
        have sX' := List.pairwise_cons.mp sX
        have sY' := List.pairwise_cons.mp sY
        have r1 : Srt key (xs.dropWhile fun z => key z == key x) := sX'.2.sublist (List.dropWhile_sublist _)
        have r2 : Srt key (ys.dropWhile fun z => key z == key y) := sY'.2.sublist (List.dropWhile_sublist _)
        have g1 := rest_gt sX
        have g2 := rest_gt sY
        simp only [List.length_cons] at h
        have mY : ∀ b ∈ (y :: ys).map key, key y ≤ b := by
          intro b hb
          obtain ⟨c, hc, rfl⟩ := List.mem_map.mp hb
          rcases List.mem_cons.mp hc with rfl | hc
          · exact Int.le_refl _
          · exact sY'.1 c hc
        have mX : ∀ b ∈ (x :: xs).map key, key x ≤ b := by
          intro b hb
          obtain ⟨c, hc, rfl⟩ := List.mem_map.mp hb
          rcases List.mem_cons.mp hc with rfl | hc
          · exact Int.le_refl _
          · exact sX'.1 c hc
        have below : ∀ {p : Option Int} {z : α} {zs : List α} {c : Int}, c < key z → (∀ b ∈ (z :: zs).map key, key z ≤ b) → incl p c ((z :: zs).map key) = (p != some c) := by
          intro p z zs c hc hm
          unfold incl
          have e1 : ((z :: zs).map key).contains c = false := by
            rw [Bool.eq_false_iff]
            intro q
            have := hm c (List.contains_iff_mem.mp q)
            omega
          have e2 : (((z :: zs).map key).all fun b => decide (b < c)) = false := by
            rw [List.map_cons, List.all_cons, decide_eq_false (by omega), Bool.false_and]
          rw [e1, e2]; simp
        have same : ∀ {p : Option Int} {z : α} {zs : List α} {c : Int}, c = key z → incl p c ((z :: zs).map key) = false := by
          intro p z zs c hc
          unfold incl
          rw [List.map_cons, List.contains_cons, hc]; simp
        by_cases hlt : key x < key y
        · rw [decide_eq_true hlt]
          dsimp only
          rw [ih _ _ (by simp only [List.length_cons]; omega) r1 sY]
          have e1 : due key ((y :: ys).map key) none (x :: xs) = x :: due key ((y :: ys).map key) none (xs.dropWhile fun z => key z == key x) := by
            rw [due, below hlt mY, if_pos (by simp), due_skip (by rw [below hlt mY]; simp), due_prev _ g1]
          have e2 : due key ((x :: xs).map key) none (y :: ys) = due key ((xs.dropWhile fun z => key z == key x).map key) none (y :: ys) :=
            due_congr _ _ fun b hb p => run_incl (by have := mY (key b) (List.mem_map.mpr ⟨b, hb, rfl⟩); omega) p
          rw [e1, e2]; rfl
        · rw [decide_eq_false hlt]
          dsimp only
          by_cases hgt : key x > key y
          · rw [decide_eq_true hgt, if_pos rfl, ih _ _ (by simp only [List.length_cons]; omega) sX r2]
            have e1 : due key ((x :: xs).map key) none (y :: ys) = y :: due key ((x :: xs).map key) none (ys.dropWhile fun z => key z == key y) := by
              rw [due, below hgt mX, if_pos (by simp), due_skip (by rw [below hgt mX]; simp), due_prev _ g2]
            have e2 : due key ((y :: ys).map key) none (x :: xs) = due key ((ys.dropWhile fun z => key z == key y).map key) none (x :: xs) :=
              due_congr _ _ fun b hb p => run_incl (by have := mX (key b) (List.mem_map.mpr ⟨b, hb, rfl⟩); omega) p
            rw [e1, e2]; rfl
          · have heq : key x = key y := by omega
            rw [decide_eq_false hgt, if_neg (by decide), ih _ _ (by omega) r1 r2]
            have e1 : due key ((y :: ys).map key) none (x :: xs) = due key ((ys.dropWhile fun z => key z == key y).map key) none (xs.dropWhile fun z => key z == key x) := by
              rw [due, same heq, if_neg (by decide), due_skip (same heq), due_prev _ g1]
              exact due_congr _ _ fun b hb p => run_incl (by have := g1 b hb; omega) p
            have e2 : due key ((x :: xs).map key) none (y :: ys) = due key ((xs.dropWhile fun z => key z == key x).map key) none (ys.dropWhile fun z => key z == key y) := by
              rw [due, same heq.symm, if_neg (by decide), due_skip (same heq.symm), due_prev _ g2]
              exact due_congr _ _ fun b hb p => run_incl (by have := g2 b hb; omega) p
            rw [e1, e2]
end

theorem any_nums {vs : List Value} {Y : List Int} (ha : All2 RepI vs Y) (x : Int) : (vs.toArray.any fun y => numOf y == x) = Y.contains x := by
  rw [List.any_toArray]
  induction ha with
  | nil => rfl
  | cons r _ ih =>
    obtain ⟨t, rfl⟩ := r
    rw [List.any_cons, ih, List.contains_cons]
    congr 1
    exact Bool.beq_comm
theorem all_last {Y : List Int} {yl x : Int} (h : (Y ++ [yl]).Pairwise (· ≤ ·)) : ((Y ++ [yl]).all fun b => decide (b < x)) = decide (x > yl) := by
  have h' := (List.pairwise_append.mp h).2.2
  rw [Bool.eq_iff_iff, List.all_eq_true, decide_eq_true_eq]
  constructor
  · intro q
    have := q yl (by simp)
    simpa using this
  · intro q b hb
    rcases List.mem_append.mp hb with hb | hb
    · have := h' b hb yl (.head _)
      simp; omega
    · rw [List.mem_singleton.mp hb]; simpa using q
theorem lastK_take {Z : List (Int × Addr)} {k : Nat} (hk : k < Z.length) : lastK Prod.fst none (Z.take k) = if k = 0 then none else some ((Z.map Prod.fst).getD (k - 1) 0) := by
  unfold lastK
  cases k with
  | zero => rfl
  | succ k =>
    have : (Z.take (k + 1)).getLast? = some Z[k] := by
      rw [List.take_succ_eq_append_getElem (by omega), List.getLast?_concat]
    rw [this, if_neg (by omega)]
    simp
    rw [List.getElem?_eq_getElem (by omega)]; rfl

section
variable {prog : Program} {w : World} {A : Around} {s : Shared} {f l1 l2 lr : Addr} {cd : Value} {vs ws : List Value} {X Y : List Int} {cs : List Addr} {j1 j2 j3 : Nat}

theorem due_call {R : Result → Shared → Prop} (fn : Fn s.heap f "_law_due" (stmtAt pg1 4) cd) (lim : s.heap.NoLimit) (hr : A.depth < recursionLimit) (hh : A.handled = none) (hu : A.units < 7000) (hb : Bn s.heap "range" (.type "range")) (hb' : Bn s.heap "len" (.builtin "len"))
    (h1 : s.heap.get? l1 = some (listOf vs.toArray j1)) (ha : All2 RepI vs X) (hz : X.length < 1000) (h2 : s.heap.get? l2 = some (listOf ws.toArray j2)) (ha' : All2 RepI ws Y) (hz' : Y.length < 1000) (sY : Y.Pairwise (· ≤ ·))
    (h3 : s.heap.get? lr = some (listOf (cs.map Value.ref).toArray j3)) (hc : cs.length = X.length)
    (hR : ∀ s' D j, Grow s s' → s.heap.get? D = none → s'.heap.get? D = some (listOf ((due Prod.fst Y none (X.zip cs)).map fun z => Value.ref z.2).toArray j) → R (.ok (.ret (.ref D))) s') :
    codeAny (model prog w) A (.call (.ref f) ⟨[.ref l1, .ref l2, .ref lr], []⟩) R s := by
  refine callFn (binds := [("own", .ref l1), ("other", .ref l2), ("rows", .ref lr)]) fn lim hr (fun _ _ _ _ => rfl) (locs rfl) (fun s₁ F g => ?_) (by decide)
  refine wpAny_mono (E := No) ?_ (fun _ _ q => q) fun _ _ q => q.elim
  generalize hL : s.heap.objs.size = L at F ⊢
  have nL : s.heap.get? L = none := hL ▸ Heap.get?_none_of_le (Nat.le_refl _)
  refine wpAny_execs_cons (wpAny_Assign_Name (List_ (spliced_none (newList_ fun s₂ aD g₂ gD nD => st_ (frGrow F g₂) fun s₃ F₃ g₃ => ?_))))
  have lL : s₁.heap.get? L ≠ none := fun q => by
    obtain ⟨o, _, _, e, _⟩ := F.ns
    rw [e] at q; cases q
  have DL : aD ≠ L := fun q => lL (q ▸ nD)
  have nD₀ : s.heap.get? aD = none := by
    cases q : s.heap.get? aD with
    | none => rfl
    | some o => rw [g.keep _ _ q] at nD; cases nD
  have gD₃ := g₃.keep _ _ DL gD
  have lv := ha.length
  have zl : (X.zip cs).length = X.length := by simp [hc]
  have dl : ∀ (p : Option Int) (l : List (Int × Addr)), (due Prod.fst Y p l).length ≤ l.length := by
    intro p l
    induction l generalizing p with
    | nil => exact Nat.le_refl _
    | cons a l ih =>
      rw [due]
      split
      · have := ih (some a.1); simp; omega
      · have := ih (some a.1); simp; omega
  refine wpAny_execs_cons (forS (RA := fun v (k : Nat) => ∃ t, v = .int (k : Nat) t) (X := List.range vs.length) (fps := fun it => [it]) F₃ hh ?_ ?_
    (fun it k s' m' => m' "own" = some (.ref l1) ∧ m' "other" = some (.ref l2) ∧ m' "rows" = some (.ref lr) ∧ m' "due" = some (.ref aD) ∧ s'.os = s.os ∧ s'.gens = s.gens ∧ ∃ j, s'.heap.get? aD = some (listOf ((due Prod.fst Y none ((X.zip cs).take k)).map fun z => Value.ref z.2).toArray j)) ?_ ?_ ?_ ?_)
  · refine wpAny_mono (rangeLen (nameB F₃ hb ⟨rfl, rfl⟩) (fun s₄ g₄ => nameB (frGrow F₃ g₄) hb' ⟨rfl, rfl⟩) (fun s₄ g₄ => EvV.name (frGrow F₃ g₄).ns (upd_ne (by decide) rfl)) (F₃.keep _ _ h1) (by omega)) (fun v s₄ ⟨r, t, u, w', e, g₄, hr'⟩ => ?_) fun _ _ q => q
    subst e
    exact srcRangeF g₄ hr' (by omega)
  · intro it ni q
    obtain ⟨o, _, _, e, _⟩ := F₃.ns
    rw [List.mem_singleton.mp q, ni] at e; cases e
  · rintro it k s₄ s₅ m' ni ⟨e1, e2, e3, e4, os, gens, j, q1⟩ g
    have iR : aD ≠ it := fun q => by rw [← q, gD₃] at ni; cases ni
    exact ⟨e1, e2, e3, e4, g.os.trans os, g.gens.trans gens, j, g.keep _ _ iR DL q1⟩
  · intro it s₄ ni g₄
    exact ⟨upd_ne (by decide) rfl, upd_ne (by decide) rfl, upd_ne (by decide) rfl, upd_same, g₄.os.trans (g₃.os.trans (g₂.os.trans g.os)), g₄.gens.trans (g₃.gens.trans (g₂.gens.trans g.gens)), 0, g₄.keep _ _ gD₃⟩
  · rintro it k v s₄ m₁ hk ni iL iz hfp rv F₄ ⟨e1, e2, e3, e4, os, gens, j, q1⟩
    have iR : aD ≠ it := fun q => by rw [← q, gD₃] at ni; cases ni
    rw [List.getElem_range] at rv
    obtain ⟨t, rfl⟩ := rv
    rw [List.length_range] at hk
    have hkX : k < X.length := by omega
    have hkZ : k < (X.zip cs).length := by omega
    have mk : upd m₁ "k" (.int (k : Nat) t) "k" = some (.int (k : Nat) t) := upd_same
    have e1' : upd m₁ "k" (.int (k : Nat) t) "own" = some (.ref l1) := upd_ne (by decide) e1
    have e2' : upd m₁ "k" (.int (k : Nat) t) "other" = some (.ref l2) := upd_ne (by decide) e2
    have e3' : upd m₁ "k" (.int (k : Nat) t) "rows" = some (.ref lr) := upd_ne (by decide) e3
    have e4' : upd m₁ "k" (.int (k : Nat) t) "due" = some (.ref aD) := upd_ne (by decide) e4
    generalize upd m₁ "k" (.int (k : Nat) t) = m₄ at *
    obtain ⟨tx, hx⟩ := ha.get k hk hkX
    have hvk : vs[k]? = some (.int X[k] tx) := by rw [List.getElem?_eq_getElem hk, hx]
    have ownK : ∀ {s₅ : Shared} {m' : Str → Option Value} {p1 p2 p3 : Pos}, Fr s.heap L s₅.heap m' → m' "own" = some (.ref l1) → m' "k" = some (.int (k : Nat) t) → EvV prog w (A.deeper (envOf "_law_due" (scopeOf (stmtAt pg1 4)) L f cd)) (envOf "_law_due" (scopeOf (stmtAt pg1 4)) L f cd) (.Subscript (.Name "own" p1) (.Name "k" p2) p3) (.int X[k] tx) s₅ :=
      fun F' a b => EvV.item (EvV.name F'.ns a) (F'.keep _ _ h1) hvk (by omega) fun s₆ g₆ => EvI.name (frGrow F' g₆).ns b
    -- single = k == 0 or own[k - 1] != own[k]
    have lk := lastK_take (Z := X.zip cs) (k := k) hkZ
    rw [List.map_fst_zip (by omega)] at lk
    have stepS : ∀ {E' : Value → Shared → Prop} {Q' : Value → Shared → Prop} {pos pa pb pc p1 p2 p3 p4 p5 p6 p7 p8 p9 : Pos} {k0 k1 : Nat}, (∀ s₅, Grow s₄ s₅ → Q' (.bool (lastK Prod.fst none ((X.zip cs).take k) != some X[k])) s₅) →
        wpAny (model prog w) (A.deeper (envOf "_law_due" (scopeOf (stmtAt pg1 4)) L f cd)) (eval (.BoolOp .Or [.Compare (.Name "k" p1) [.Eq] [.Constant (.int 0) k0 p2] pa, .Compare (.Subscript (.Name "own" p3) (.BinOp (.Name "k" p4) .Sub (.Constant (.int 1) k1 p5) p6) p7) [.NotEq] [.Subscript (.Name "own" p8) (.Name "k" p9) pb] pc] pos) (envOf "_law_due" (scopeOf (stmtAt pg1 4)) L f cd)) Q' E' s₄ := by
      intro E' Q' pos pa pb pc p1 p2 p3 p4 p5 p6 p7 p8 p9 k0 k1 hq
      refine BoolOp_or (wpAny_Compare1 (ld F₄ mk (EvI.const.use fun s₅ t5 g₅ => eq_int (wpAny_truthy_bool ?_))))
      by_cases e0 : k = 0
      · have : ((k : Int) == 0) = true := by simp [e0]
        rw [this, if_pos rfl]
        have e : (lastK Prod.fst none ((X.zip cs).take k) != some X[k]) = true := by rw [lk, if_pos e0]; rfl
        rw [e] at hq
        exact hq s₅ g₅
      · have : ((k : Int) == 0) = false := by simp; omega
        rw [this, if_neg (by decide)]
        obtain ⟨ty, hy⟩ := ha.get (k - 1) (by omega) (by omega)
        have hvk1 : vs[k - 1]? = some (.int X[k - 1] ty) := by rw [List.getElem?_eq_getElem (by omega), hy]
        refine BoolOp_one (wpAny_Compare1 ?_)
        have F₅ := frGrow F₄ g₅
        refine (EvV.item (i := k - 1) (EvV.name F₅.ns e1') (F₅.keep _ _ h1) hvk1 (by omega) fun s₆ g₆ => ?_).use fun s₆ g₆ => ?_
        · have : ((k - 1 : Nat) : Int) = (k : Int) - 1 := by omega
          rw [this]
          exact EvI.sub (EvI.name (frGrow F₅ g₆).ns mk) fun _ _ => EvI.const
        refine (ownK (frGrow F₅ g₆) e1' mk).use fun s₇ g₇ => ne_int ?_
        have e : (lastK Prod.fst none ((X.zip cs).take k) != some X[k]) = (X[k - 1] != X[k]) := by
          rw [lk, if_neg e0, List.getD_eq_getElem?_getD, List.getElem?_eq_getElem (by omega)]; rfl
        rw [e] at hq
        exact hq s₇ (g₅.trans (g₆.trans g₇))
    refine wpAny_execs_cons (wpAny_Assign_Name (stepS fun s₅ g₅ => st_ (frGrow F₄ g₅) fun s₆ F₆ g₆ => ?_))
    clear stepS
    have x46 : ExL L s₄ s₆ := g₅.exL.trans g₆
    have q6 := x46.keep _ _ DL q1
    have hsg : ∃ sg, sg = (lastK Prod.fst none ((X.zip cs).take k) != some X[k]) := ⟨_, rfl⟩
    obtain ⟨sg, hsg⟩ := hsg
    rw [← hsg] at F₆
    have f0 : upd m₄ "single" (.bool sg) "single" = some (.bool sg) := upd_same
    have fk : upd m₄ "single" (.bool sg) "k" = some (.int (k : Nat) t) := upd_ne (by decide) mk
    have f1 : upd m₄ "single" (.bool sg) "own" = some (.ref l1) := upd_ne (by decide) e1'
    have f2 : upd m₄ "single" (.bool sg) "other" = some (.ref l2) := upd_ne (by decide) e2'
    have f3 : upd m₄ "single" (.bool sg) "rows" = some (.ref lr) := upd_ne (by decide) e3'
    have f4 : upd m₄ "single" (.bool sg) "due" = some (.ref aD) := upd_ne (by decide) e4'
    generalize upd m₄ "single" (.bool sg) = m₆ at *
    have ul : (A.deeper (envOf "_law_due" (scopeOf (stmtAt pg1 4)) L f cd)).units < cLine := Nat.lt_of_lt_of_le (show A.units + 3 < 9000 by omega) (by decide)
    have tk : (X.zip cs).take (k + 1) = (X.zip cs).take k ++ [(X.zip cs)[k]] := List.take_succ_eq_append_getElem hkZ
    have zk : (X.zip cs)[k] = (X[k], cs[k]'(by omega)) := by simp
    have sn := due_snoc (key := Prod.fst) (B := Y) ((X.zip cs)[k]) ((X.zip cs).take k) none
    rw [← tk, zk] at sn
    dsimp only at sn
    have it6 : ∀ o, s₄.heap.get? it = some o → s₆.heap.get? it = some o := fun o e => x46.keep _ _ iL e
    have rowK : ∀ {s₅ : Shared} {p1 p2 p3 : Pos}, Fr s.heap L s₅.heap m₆ → EvV prog w (A.deeper (envOf "_law_due" (scopeOf (stmtAt pg1 4)) L f cd)) (envOf "_law_due" (scopeOf (stmtAt pg1 4)) L f cd) (.Subscript (.Name "rows" p1) (.Name "k" p2) p3) (.ref (cs[k]'(by omega))) s₅ :=
      fun F' => EvV.item (EvV.name F'.ns f3) (F'.keep _ _ h3) (by rw [List.getElem?_map, List.getElem?_eq_getElem (by omega)]; rfl) (by omega) fun s₆ g₆ => EvI.name (frGrow F' g₆).ns fk
    have finS : ∀ s₇, Grow s₆ s₇ → incl (lastK Prod.fst none ((X.zip cs).take k)) X[k] Y = false → (Flow.next = .next ∧ Stay [it] s₄.heap s₇.heap ∧ ∃ m₃, Fr s.heap L s₇.heap m₃ ∧ m₃ "own" = some (.ref l1) ∧ m₃ "other" = some (.ref l2) ∧ m₃ "rows" = some (.ref lr) ∧ m₃ "due" = some (.ref aD) ∧ s₇.os = s.os ∧ s₇.gens = s.gens ∧ ∃ j, s₇.heap.get? aD = some (listOf ((due Prod.fst Y none ((X.zip cs).take (k + 1))).map fun z => Value.ref z.2).toArray j)) := by
      intro s₇ g₇ hi
      rw [hi, if_neg (by decide), List.append_nil] at sn
      rw [sn]
      exact ⟨rfl, fun b hb o e => by rw [List.mem_singleton.mp hb] at e ⊢; exact g₇.keep _ _ (it6 o e), m₆, frGrow F₆ g₇, f1, f2, f3, f4, g₇.os.trans (x46.os.trans os), g₇.gens.trans (x46.gens.trans gens), j, g₇.keep _ _ q6⟩
    have finA : ∀ s₇ s₈ s₉ j', Grow s₆ s₇ → Grow s₇ s₈ → ExL aD s₈ s₉ → s₉.heap.get? aD = some (listOf (((due Prod.fst Y none ((X.zip cs).take k)).map fun z => Value.ref z.2) ++ [Value.ref (cs[k]'(by omega))]).toArray j') → incl (lastK Prod.fst none ((X.zip cs).take k)) X[k] Y = true →
        (Flow.next = .next ∧ Stay [it] s₄.heap s₉.heap ∧ ∃ m₃, Fr s.heap L s₉.heap m₃ ∧ m₃ "own" = some (.ref l1) ∧ m₃ "other" = some (.ref l2) ∧ m₃ "rows" = some (.ref lr) ∧ m₃ "due" = some (.ref aD) ∧ s₉.os = s.os ∧ s₉.gens = s.gens ∧ ∃ j, s₉.heap.get? aD = some (listOf ((due Prod.fst Y none ((X.zip cs).take (k + 1))).map fun z => Value.ref z.2).toArray j)) := by
      intro s₇ s₈ s₉ j' g₇ g₈ g₉ hD₉ hi
      rw [hi, if_pos rfl] at sn
      rw [sn, List.map_append]
      exact ⟨rfl, fun b hb o e => by rw [List.mem_singleton.mp hb] at e ⊢; exact g₉.keep _ _ (Ne.symm iR) (g₈.keep _ _ (g₇.keep _ _ (it6 o e))), m₆, frExL (frGrow F₆ (g₇.trans g₈)) g₉ (Ne.symm DL) nD₀, f1, f2, f3, f4, g₉.os.trans ((g₇.trans g₈).os.trans (x46.os.trans os)), g₉.gens.trans ((g₇.trans g₈).gens.trans (x46.gens.trans gens)), j', hD₉⟩
    -- own[k] not in other
    refine wpAny_execs_cons (wpAny_If (isTrue_and (wpAny_isTrue_Compare1 ((ownK F₆ f1 fk).use fun s₇ g₇ => ld (frGrow F₆ g₇) f2 ?_))))
    have F₇ := frGrow F₆ g₇
    refine notIn_listAt (fun y => numOf y == X[k]) (isL (F₇.keep _ _ h2)) (fun y hy => ?_) (wpAny_truthy_bool ?_)
    · obtain ⟨n, u, rfl⟩ := all2_int ha' y (by simpa using hy)
      exact EqAt.int_int n u X[k] tx
    rw [any_nums ha']
    cases hcon : Y.contains X[k] with
    | true =>
      rw [if_neg (by decide), if_neg (by decide)]
      repeat refine wpAny_execs_nil ?_
      exact .inl (finS s₇ g₇ (by unfold incl; rw [hcon]; rfl))
    | false =>
      rw [if_pos (by decide)]
      refine isTrue_and (isTrue_or (isTrue_plain (ld F₇ f0 (wpAny_truthy_bool ?_))))
      cases hs : sg with
      | true =>
        rw [if_pos rfl, if_pos rfl]
        refine isTrue_and_nil ?_
        rw [if_pos rfl]
        refine wpAny_execs_cons (append_ F₇ f4 ((g₇).keep _ _ q6) (by rw [List.length_map]; have := dl none ((X.zip cs).take k); rw [List.length_take] at this; omega) ((rowK F₇).use fun sa ga => ⟨ga, fun sb gb hDb => ?_⟩))
        repeat refine wpAny_execs_nil ?_
        exact .inl (finA _ _ sb _ (g₇) ga gb hDb (by unfold incl; rw [hcon, ← hsg, hs]; rfl))
      | false =>
        rw [if_neg (by decide)]
        refine isTrue_or (wpAny_isTrue_Compare1 (ld F₇ f2 (List_ (spliced_none (newList_ fun s₈ B g₈ hB nB => ?_)))))
        have F₈ := frGrow F₇ g₈
        refine cmp_ofEq (rcEmpty (F₈.keep _ _ h2) hB ul _ _ _ _ (wpAny_truthy_bool ?_))
        rcases List.eq_nil_or_concat Y with eY | ⟨Y', yl, eY⟩
        · subst eY
          cases ha'
          rw [show ([] : List Value).isEmpty = true from rfl, if_pos rfl, if_pos rfl]
          refine isTrue_and_nil ?_
          rw [if_pos rfl]
          refine wpAny_execs_cons (append_ F₈ f4 ((g₇.trans g₈).keep _ _ q6) (by rw [List.length_map]; have := dl none ((X.zip cs).take k); rw [List.length_take] at this; omega) ((rowK F₈).use fun sa ga => ⟨ga, fun sb gb hDb => ?_⟩))
          repeat refine wpAny_execs_nil ?_
          exact .inl (finA _ _ sb _ (g₇.trans g₈) ga gb hDb (by unfold incl; rw [hcon]; simp))
        · rw [List.concat_eq_append] at eY
          subst eY
          obtain ⟨ws', wl, rfl, ha'', tl, rfl⟩ := All2.snoc ha'
          rw [show (ws' ++ [Value.int yl tl]).isEmpty = false by simp, if_neg (by decide)]
          refine isTrue_or (wpAny_isTrue_Compare1 ((ownK F₈ f1 fk).use fun s₉ g₉ => ?_))
          have F₉ := frGrow F₈ g₉
          refine (EvV.last (EvV.name F₉.ns f2) (F₉.keep _ _ h2) (by simp at hz'; have := ha''.length; omega)).use fun s₁₀ g₁₀ => gt_int (wpAny_truthy_bool ?_)
          have hall := all_last (x := X[k]) sY
          by_cases hg : X[k] > yl
          · rw [decide_eq_true hg, if_pos rfl, if_pos rfl]
            refine isTrue_and_nil ?_
            rw [if_pos rfl]
            have F₁₀ := frGrow F₉ g₁₀
            refine wpAny_execs_cons (append_ F₁₀ f4 ((g₇.trans (g₈.trans (g₉.trans g₁₀))).keep _ _ q6) (by rw [List.length_map]; have := dl none ((X.zip cs).take k); rw [List.length_take] at this; omega) ((rowK F₁₀).use fun sa ga => ⟨ga, fun sb gb hDb => ?_⟩))
            repeat refine wpAny_execs_nil ?_
            exact .inl (finA _ _ sb _ (g₇.trans (g₈.trans (g₉.trans g₁₀))) ga gb hDb (by unfold incl; rw [hcon, hall, decide_eq_true hg]; simp))
          · rw [decide_eq_false hg, if_neg (by decide)]
            refine isTrue_or_nil ?_
            rw [if_neg (by decide), if_neg (by decide)]
            repeat refine wpAny_execs_nil ?_
            exact .inl (finS s₁₀ (g₇.trans (g₈.trans (g₉.trans g₁₀))) (by unfold incl; rw [hcon, ← hsg, hs, hall, decide_eq_false hg]; rfl))
  · rintro it s₄ m' ni F' ⟨e1, e2, e3, e4, os, gens, j, q1⟩
    rw [List.length_range] at q1
    have : (X.zip cs).take vs.length = X.zip cs := List.take_of_length_le (by omega)
    rw [this] at q1
    refine wpAny_execs_cons (wpAny_Return_some (ld F' e4 ?_))
    exact hR s₄ aD j ⟨F'.keep, os, gens⟩ nD₀ q1
end

/-- a row [n] -/
def RR (h₀ : Heap) (u : Value) (n : Int) (h : Heap) : Prop := ∃ c t j, u = .ref c ∧ h.get? c = some (listOf #[.int n t] j) ∧ h₀.get? c = none
/-- an item with its place -/
def RZ (h : Heap) (v : Value) (z : Int × Addr) : Prop := v = .ref z.2 ∧ ∃ t j, h.get? z.2 = some (listOf #[.int z.1 t] j)

theorem rr_split {h₀ h : Heap} {us : List Value} {N : List Int} (a : All2 (fun u n => RR h₀ u n h) us N) :
    ∃ cs : List Addr, us = cs.map Value.ref ∧ cs.length = N.length ∧ (∀ c ∈ cs, h₀.get? c = none ∧ ∃ n t j, h.get? c = some (listOf #[.int n t] j)) ∧ All2 (RZ h) us (N.zip cs) := by
  induction a with
  | nil => exact ⟨[], rfl, rfl, (fun c hc => by cases hc), .nil⟩
  | cons r _ ih =>
    obtain ⟨c, t, j, rfl, hc, nc⟩ := r
    obtain ⟨cs, rfl, l, h1, h2⟩ := ih
    refine ⟨c :: cs, rfl, by simp [l], fun d hd => ?_, .cons ⟨rfl, t, j, hc⟩ h2⟩
    rcases List.mem_cons.mp hd with rfl | hd
    · exact ⟨nc, _, t, j, hc⟩
    · exact h1 d hd
theorem rz_refs {h : Heap} {us : List Value} {Z : List (Int × Addr)} (a : All2 (RZ h) us Z) : us = Z.map fun z => Value.ref z.2 := by
  induction a with
  | nil => rfl
  | cons r _ ih => rw [r.1, ih]; rfl

section
variable {prog : Program} {w : World} {base h₀ : Heap} {L : Addr} {m : Str → Option Value}

theorem RZ.kp {v : Value} {z : Int × Addr} {h : Heap} (x : RZ h₀ v z) (F : Fr base L h₀ m) (k : Kp [L] h₀ h) : RZ h v z := by
  obtain ⟨e, t, j, hc⟩ := x
  refine ⟨e, t, j, k.keep _ _ hc fun q => ?_⟩
  obtain ⟨es, n, o, ho, hd⟩ := frDict F
  rw [List.mem_singleton.mp q, ho] at hc; cases hc; cases hd

theorem uLine1 {n : Nat} (h : n < 9000) : n < cLine := Nat.lt_of_lt_of_le h (by decide)
theorem eqZ (F : Fr base L h₀ m) : EqOk prog w [L] h₀ (RZ h₀) (fun a b => a.1 == b.1) := by
  intro A E s Q v u x y kp hu rv ru h
  obtain ⟨rfl, t, j, ha⟩ := rv.kp F kp
  obtain ⟨rfl, t', j', hb⟩ := ru.kp F kp
  refine cmp_ofEq (rcList (R := RepI) (R' := RepI) (us := [.int x.1 t]) (vs := [.int y.1 t']) (X := [x.1]) (Y := [y.1]) (eq := fun a b => a == b) ha hb (uLine1 hu) (.cons ⟨t, rfl⟩ .nil) (.cons ⟨t', rfl⟩ .nil) ?_ _ _ _ _ ?_)
  · rintro _ a _ b ⟨t1, rfl⟩ ⟨t2, rfl⟩
    exact EqAt.int_int a t1 b t2
  · have := h s (.refl _)
    simpa [eqList] using this
theorem ltZ (F : Fr base L h₀ m) : LtOk prog w [L] h₀ (RZ h₀) (fun a b => some (decide (a.1 < b.1))) := by
  intro A E s Q v u x y kp hu hh rv ru h _
  obtain ⟨rfl, t, j, ha⟩ := rv.kp F kp
  obtain ⟨rfl, t', j', hb⟩ := ru.kp F kp
  exact ltL1 ha hb (uLine1 hu) (h _ rfl _ (.refl _))
theorem gtZ (F : Fr base L h₀ m) : GtOk prog w [L] h₀ (RZ h₀) (fun a b => some (decide (a.1 < b.1))) (fun a b => decide (a.1 > b.1)) := by
  intro A E s Q v u x y kp hu hh rv ru _ h
  obtain ⟨rfl, t, j, ha⟩ := rv.kp F kp
  obtain ⟨rfl, t', j', hb⟩ := ru.kp F kp
  exact gtL1 ha hb (uLine1 hu) (h _ (.refl _))
end

/-- all but the rows cs and the frame stands; the rows are lists -/
structure Mk (cs : List Addr) (L : Addr) (B : Nat) (s s' : Shared) : Prop where
  keep : ∀ b o, b ∉ cs → b ≠ L → s.heap.get? b = some o → s'.heap.get? b = some o
  rows : ∀ c ∈ cs, ∃ (vs : List Value) (j : Nat), s'.heap.get? c = some (listOf vs.toArray j) ∧ vs.length ≤ B
  os : s'.os = s.os
  gens : s'.gens = s.gens

section
variable {prog : Program} {w : World} {A : Around} {E : Value → Shared → Prop} {s : Shared} {name : Str} {fscope : Scope} {L a : Addr} {cd : Value} {base : Heap} {m : Str → Option Value}

/-- «for k in range(len(on)): on[k].append(e)» -/
theorem markLoop {on : Str} {e : Expr} {pl : Sem Bool} {cs own : List Addr} {R : Addr} {jr B : Nat} {val : Nat → Int} {px pos q1 q2 q3 q4 q5 q6 q7 q8 q9 q10 : Pos} {Q : Flow → Shared → Prop} (F : Fr base L s.heap m) (hh : A.handled = none) (hr : Bn base "range" (.type "range")) (hl : Bn base "len" (.builtin "len"))
    (mo : m on = some (.ref R)) (nk : on ≠ ("k" : Str)) (hR : s.heap.get? R = some (listOf (own.map Value.ref).toArray jr)) (sub : ∀ c ∈ own, c ∈ cs) (nR : R ∉ cs) (hRL : R ≠ L) (hz : own.length + B < 10000)
    (rows : ∀ c ∈ cs, base.get? c = none ∧ c ≠ L ∧ ∃ (vs : List Value) (j : Nat), s.heap.get? c = some (listOf vs.toArray j) ∧ vs.length ≤ B)
    (he : ∀ s₁ m₁ k t, Fr base L s₁.heap m₁ → m₁ "k" = some (.int (k : Nat) t) → EvI prog w A (envOf name fscope L a cd) e (val k) s₁)
    (hQ : ∀ s' m', Fr base L s'.heap m' → (∀ y, y ≠ ("k" : Str) → m' y = m y) → Mk cs L (B + own.length) s s' → Q .next s')
    (hk : fscope.kind = .function := by rfl) (kk' : (envOf name fscope L a cd).kindOf "k" = some .local := by rfl) (ko : (envOf name fscope L a cd).kindOf on = some .local := by rfl) (kr : (envOf name fscope L a cd).kindOf "range" = some .globalImplicit := by rfl) (kl : (envOf name fscope L a cd).kindOf "len" = some .globalImplicit := by rfl)
    (dn : (on == ("__debug__" : Str)) = false := by decide)
    (hc1 : eval (.Call (.Name "range" q1) [.Call (.Name "len" q2) [.Name on q3] [] q4] [] q5) (envOf name fscope L a cd) = (do callWith q5 (← eval (.Name "range" q1) (envOf name fscope L a cd)) [] (backTo q5 (starEach [.Call (.Name "len" q2) [.Name on q3] [] q4] (envOf name fscope L a cd))) (backToKw q5 (keywordEach [] (envOf name fscope L a cd)))) := by rfl)
    (hc2 : eval (.Call (.Name "len" q2) [.Name on q3] [] q4) (envOf name fscope L a cd) = (do callWith q4 (← eval (.Name "len" q2) (envOf name fscope L a cd)) [] (backTo q4 (starEach [.Name on q3] (envOf name fscope L a cd))) (backToKw q4 (keywordEach [] (envOf name fscope L a cd)))) := by rfl)
    (hc3 : eval (.Call (.Attribute (.Subscript (.Name on q6) (.Name "k" q7) q8) "append" q9) [e] [] q10) (envOf name fscope L a cd) = (do
      let ov ← eval (.Subscript (.Name on q6) (.Name "k" q7) q8) (envOf name fscope L a cd)
      standAt q9.atName
      let (f, first) ← holding [ov] (getMethod ov "append" pl)
      callWith q10 f first (backTo q10 (starEach [e] (envOf name fscope L a cd))) []) := by rfl)
    (hs1 : starEach [.Call (.Name "len" q2) [.Name on q3] [] q4] (envOf name fscope L a cd) = (false, eval (.Call (.Name "len" q2) [.Name on q3] [] q4) (envOf name fscope L a cd)) :: starEach [] (envOf name fscope L a cd) := by rfl)
    (hs2 : starEach [e] (envOf name fscope L a cd) = [(false, eval e (envOf name fscope L a cd))] := by rfl) (hi : interactive (envOf name fscope L a cd) = false := by rfl) {pe : Pos} :
    wpAny (model prog w) A (exec (.For (.Name "k" px) (.Call (.Name "range" q1) [.Call (.Name "len" q2) [.Name on q3] [] q4] [] q5) [.Expr (.Call (.Attribute (.Subscript (.Name on q6) (.Name "k" q7) q8) "append" q9) [e] [] q10) pe] [] pos) (envOf name fscope L a cd)) Q E s := by
  have RLn : ∀ c ∈ cs, c ≠ R := fun c hc q => nR (q ▸ hc)
  refine forS (RA := fun v (k : Nat) => ∃ t, v = .int (k : Nat) t) (X := List.range (own.map Value.ref).length) (fps := fun it => [it]) F hh ?_ ?_
    (fun it k s' m' => (∀ y, y ≠ ("k" : Str) → m' y = m y) ∧ (∀ b o, b ∉ cs → b ≠ it → b ≠ L → s.heap.get? b = some o → s'.heap.get? b = some o) ∧ (∀ c ∈ cs, ∃ (vs : List Value) (j : Nat), s'.heap.get? c = some (listOf vs.toArray j) ∧ vs.length ≤ B + k) ∧ s'.os = s.os ∧ s'.gens = s.gens) ?_ ?_ ?_ ?_ hk kk'
  · refine wpAny_mono (rangeLen (nameB F hr ⟨rfl, rfl⟩ hk kr) (fun s₄ g₄ => nameB (frGrow F g₄) hl ⟨rfl, rfl⟩ hk kl) (fun s₄ g₄ => EvV.name (frGrow F g₄).ns mo hk ko dn) hR (by simp; omega) hc1 hs1 hc2) (fun v s₄ ⟨r, t, u, w', e, g₄, hr'⟩ => ?_) fun _ _ q => q
    subst e
    exact srcRangeF g₄ hr' (by simp; omega)
  · intro it ni q
    obtain ⟨o, _, _, e, _⟩ := F.ns
    rw [List.mem_singleton.mp q, ni] at e; cases e
  · rintro it k s₄ s₅ m' ni ⟨h1, h2, h3, os, gens⟩ g
    refine ⟨h1, fun b o n1 n2 n3 e => g.keep b o n2 n3 (h2 b o n1 n2 n3 e), fun c hc => ?_, g.os.trans os, g.gens.trans gens⟩
    obtain ⟨vs, j, e, l⟩ := h3 c hc
    obtain ⟨_, cL, _, _, ec, _⟩ := rows c hc
    exact ⟨vs, j, g.keep c _ (fun q => by rw [q, ni] at ec; cases ec) cL e, l⟩
  · intro it s₄ ni g₄
    exact ⟨fun _ _ => rfl, fun b o _ _ _ e => g₄.keep b o e, fun c hc => by obtain ⟨_, _, vs, j, e, l⟩ := rows c hc; exact ⟨vs, j, g₄.keep _ _ e, l⟩, g₄.os, g₄.gens⟩
  · rintro it k v s₄ m₁ hk' ni iL iz hfp rv F₄ ⟨h1, h2, h3, os, gens⟩
    rw [List.getElem_range] at rv
    obtain ⟨t, rfl⟩ := rv
    rw [List.length_range, List.length_map] at hk'
    have mk : upd m₁ "k" (.int (k : Nat) t) "k" = some (.int (k : Nat) t) := upd_same
    have mo' : upd m₁ "k" (.int (k : Nat) t) on = some (.ref R) := upd_ne nk ((h1 on nk).trans mo)
    have h1' : ∀ y, y ≠ ("k" : Str) → upd m₁ "k" (.int (k : Nat) t) y = m y := fun y hy => upd_ne hy (h1 y hy)
    generalize upd m₁ "k" (.int (k : Nat) t) = m₄ at *
    have hc := sub _ (List.getElem_mem hk')
    obtain ⟨vs, j, ec, lc⟩ := h3 _ hc
    obtain ⟨bc, cL, _, _, ec0, _⟩ := rows _ hc
    have ci : own[k] ≠ it := fun q => by rw [q, ni] at ec0; cases ec0
    have Ri : R ≠ it := fun q => by rw [q, ni] at hR; cases hR
    have hR₄ := h2 R _ nR Ri hRL hR
    refine wpAny_execs_cons (appendAny (EvV.item (EvV.name F₄.ns mo' hk ko dn) hR₄ (v := .ref own[k]) (i := k) (by rw [List.getElem?_map, List.getElem?_eq_getElem hk']; rfl) (by omega) fun s₅ g₅ => EvI.name (frGrow F₄ g₅).ns mk hk kk') ec (by omega) (fun s₅ g₅ => (he s₅ m₄ k t (frGrow F₄ g₅) mk).use fun s₆ t6 g₆ => ⟨g₆, fun s₇ g₇ hD => ?_⟩) hc3 hs2 hi)
    have g46 := g₅.trans g₆
    refine wpAny_execs_nil (.inl ⟨rfl, fun b hb o q => ?_, m₄, frExL (frGrow F₄ g46) g₇ (Ne.symm cL) bc, h1', fun b o n1 n2 n3 q => ?_, fun c hc' => ?_, g₇.os.trans (g46.os.trans os), g₇.gens.trans (g46.gens.trans gens)⟩)
    · rw [List.mem_singleton.mp hb] at q ⊢
      exact g₇.keep _ _ (Ne.symm ci) (g46.keep _ _ q)
    · exact g₇.keep b o (fun r => n1 (r ▸ hc)) (g46.keep b o (h2 b o n1 n2 n3 q))
    · by_cases r : c = own[k]
      · subst r
        exact ⟨_, _, hD, by simp; omega⟩
      · obtain ⟨vs', j', e', l'⟩ := h3 c hc'
        exact ⟨vs', j', g₇.keep _ _ r (g46.keep _ _ e'), by omega⟩
  · rintro it s' m' ni F' ⟨h1, h2, h3, os, gens⟩
    rw [List.length_range, List.length_map] at h3
    refine hQ s' m' F' h1 ⟨fun b o n1 n2 e => h2 b o n1 (fun q => by rw [q, ni] at e; cases e) n2 e, h3, os, gens⟩
end

theorem Bn.keep1 {h h' : Heap} {x : Str} {v : Value} (b : Bn h x v) (k : ∀ b o, h.get? b = some o → h'.get? b = some o) : Bn h' x v :=
  let ⟨mg, mb, g, n, b', e⟩ := b; ⟨mg, mb, g.keeps k, n, b'.keeps k, e⟩
theorem srtZip {N : List Int} {cs : List Addr} (h : N.Pairwise (· ≤ ·)) (hl : cs.length = N.length) : Srt Prod.fst (N.zip cs) := by
  have : ((N.zip cs).map Prod.fst).Pairwise (· ≤ ·) := by rw [List.map_fst_zip (by omega)]; exact h
  rw [List.pairwise_map] at this
  exact this
theorem Kp.exL1 {s s' : Shared} {L : Addr} (k : Kp [L] s.heap s'.heap) (os : s'.os = s.os) (gens : s'.gens = s.gens) : ExL L s s' :=
  ⟨fun b o n e => k.keep b o e fun q => n (List.mem_singleton.mp q), os, gens⟩

section
variable {prog : Program} {w : World} {A : Around} {s s' : Shared} {base : Heap} {L fa l : Addr} {cd : Value} {m : Str → Option Value} {vs us : List Value} {X : List Int} {k : Nat}

theorem law01 {f1 f3 f4 : Addr} {c1 c3 c4 : Value} {Q : Flow → Shared → Prop} (F : Fr base L s.heap m) (hh : A.handled = none) (hr : A.depth < recursionLimit) (hu : A.units < 6000)
    (hst : A.frames = some [envOf "law" (scopeOf (stmtAt pg1 5)) L fa cd]) (lim : base.NoLimit)
    (ms : m "script" = some (.ref l)) (hl : base.IsList l vs.toArray) (ha : All2 RepI vs X) (hz : X.length ≤ 63)
    (G1 : Gn base "sorted_list_difference" (.ref f1)) (fn1 : Fn base f1 "sorted_list_difference" (stmtAt PySem.Challenge.pw_dn0234_01 1) c1)
    (G3 : Gn base "_law_numbers" (.ref f3)) (fn3 : Fn base f3 "_law_numbers" (stmtAt pg1 3) c3)
    (G4 : Gn base "_law_due" (.ref f4)) (fn4 : Fn base f4 "_law_due" (stmtAt pg1 4) c4)
    (hI : Bn base "IndexError" (.type "IndexError")) (hDm : Bn base "divmod" (.builtin "divmod")) (hSo : Bn base "sorted" (.builtin "sorted")) (hRg : Bn base "range" (.type "range")) (hLn : Bn base "len" (.builtin "len"))
    (hQ : ∀ s' m', Fr base L s'.heap m' → s'.os = s.os → s'.gens = s.gens → Q (.ret (.bool true)) s') :
    wpAny (model prog w) A (execs (bodyOf (stmtAt pg1 5)) (envOf "law" (scopeOf (stmtAt pg1 5)) L fa cd)) Q No s := by
  have lF : ∀ {s : Shared} {m : Str → Option Value}, Fr base L s.heap m → s.heap.get? L ≠ none := fun F q => by
    obtain ⟨o, _, _, e, _⟩ := F.ns
    rw [e] at q; cases q
  have nb : ∀ {s : Shared} {m : Str → Option Value} {a : Addr}, Fr base L s.heap m → s.heap.get? a = none → base.get? a = none := fun {s m a} F q => by
    cases q' : base.get? a with
    | none => rfl
    | some o => rw [F.keep _ _ q'] at q; cases q
  have neL : ∀ {s : Shared} {m : Str → Option Value} {a : Addr}, Fr base L s.heap m → s.heap.get? a = none → a ≠ L := fun F q r => lF F (r ▸ q)
  have hlk : ∀ {h : Heap}, base.StaysIn h → h.IsList l vs.toArray := fun k => by obtain ⟨o, ho, r⟩ := hl; exact ⟨o, k _ _ ho, r⟩
  have ul : A.units < cLine := uLine1 (by omega)
  have ul1 : A.in1.units < cLine := uLine1 (show A.units + 1 < 9000 by omega)
  -- first = _law_numbers(script, 0)
  refine wpAny_execs_cons (wpAny_Assign_Name (callName F G3 fn3 (spliced_more (ld F ms (spliced_more (EvI.const.use fun s₁ t1 g₁ => spliced_none ⟨(frGrow F g₁).keep, ?_⟩))))))
  have F₁ := frGrow F g₁
  refine numbers_call (i := 0) (ti := t1) (fn3.keep F₁.keep) (lim.keeps F₁.keep) hr hh (by omega) (hDm.keep1 F₁.keep) (hSo.keep1 F₁.keep) (hlk F₁.keep) ha hz (by decide) fun s₂ D1 us1 N1 j1 g₂ nD1 hD1 A1 p1 S1 => st_ (frGrow F₁ g₂) fun s₃ F₃ g₃ => ?_
  have D1L := neL F₁ nD1
  have hD1₃ := g₃.keep _ _ D1L hD1
  -- second = _law_numbers(script, 1)
  refine wpAny_execs_cons (wpAny_Assign_Name (callName F₃ G3 fn3 (spliced_more (ld F₃ (upd_ne (by decide) ms) (spliced_more (EvI.const.use fun s₄ t4 g₄ => spliced_none ⟨(frGrow F₃ g₄).keep, ?_⟩))))))
  have F₄ := frGrow F₃ g₄
  refine numbers_call (i := 1) (ti := t4) (fn3.keep F₄.keep) (lim.keeps F₄.keep) hr hh (by omega) (hDm.keep1 F₄.keep) (hSo.keep1 F₄.keep) (hlk F₄.keep) ha hz (by decide) fun s₅ D2 us2 N2 j2 g₅ nD2 hD2 A2 p2 S2 => st_ (frGrow F₄ g₅) fun s₆ F₆ g₆ => ?_
  have D2L := neL F₄ nD2
  have x36 : ExL L s₃ s₆ := (g₄.trans g₅).exL.trans g₆
  have hD2₆ := g₆.keep _ _ D2L hD2
  have hD1₆ := x36.keep _ _ D1L hD1₃
  have z1 : N1.length ≤ 126 := by rw [p1.length_eq]; have := made8_len 0 X; omega
  have z2 : N2.length ≤ 126 := by rw [p2.length_eq]; have := made8_len 1 X; omega
  have e1 : upd (upd m "first" (.ref D1)) "second" (.ref D2) "first" = some (.ref D1) := upd_ne (by decide) upd_same
  have e2 : upd (upd m "first" (.ref D1)) "second" (.ref D2) "second" = some (.ref D2) := upd_same
  generalize upd (upd m "first" (.ref D1)) "second" (.ref D2) = m₆ at *
  have os₆ : s₆.os = s.os := x36.os.trans (g₃.os.trans (g₂.os.trans g₁.os))
  have gens₆ : s₆.gens = s.gens := x36.gens.trans (g₃.gens.trans (g₂.gens.trans g₁.gens))
  -- rows = [[n] for n in first]
  have rmono : ∀ (h₀ : Heap) (u : Value) (b : Int) (h h' : Heap), RR h₀ u b h → (∀ c ∈ rf u, ∀ o, h.get? c = some o → h'.get? c = some o) → RR h₀ u b h' := by
    rintro h₀ u b h h' ⟨c, t, j, rfl, hc, nc⟩ k
    exact ⟨c, t, j, rfl, k c (.head _) _ hc, nc⟩
  have rnod : ∀ (h₀ : Heap) (u : Value) (b : Int) (h : Heap), RR h₀ u b h → ∀ c ∈ rf u, ∀ o es n, h.get? c = some o → o.data ≠ .dict es n := by
    rintro h₀ u b h ⟨c, t, j, rfl, hc, nc⟩ c' hc' o es n ho q
    rw [List.mem_singleton.mp hc', hc] at ho; cases ho; cases q
  have relt : ∀ {s₀ s₁ : Shared} {env : Env} {a' : Int} {v : Value} {m' : Str → Option Value} {q1 q2 : Pos}, Grow s₀ s₁ → RepI v a' → s₁.heap.Ns env.locals m' → m' "n" = some v → env.scope.kind = .function → env.kindOf "n" = some .local → starEach [.Name "n" q1] env = [(false, eval (.Name "n" q1) env)] →
      wpAny (model prog w) A (eval (.List [.Name "n" q1] q2) env) (fun u s₂ => Grow s₁ s₂ ∧ RR s₀.heap u a' s₂.heap ∧ ∀ c ∈ rf u, s₂.heap.get? c ≠ none ∧ (s₁.heap.get? c = none ∨ s₀.heap.get? c ≠ none)) No s₁ := by
    rintro s₀ s₁ env a' v m' q1 q2 g ⟨t, rfl⟩ hn hv hk hloc hse
    refine List_ (spliced_more (ldE hn hv (spliced_none (newList_ fun s₂ D g₂ hD nD => ⟨g₂, ⟨D, t, 0, rfl, hD, ?_⟩, fun c hc => ?_⟩)) hk hloc (by decide)) hse)
    · cases q : s₀.heap.get? D with
      | none => rfl
      | some o => rw [g.keep _ _ q] at nD; cases nD
    · rw [List.mem_singleton.mp hc]
      exact ⟨(by rw [hD]; exact fun q => by cases q), .inl nD⟩
  refine wpAny_execs_cons (assignComp1 (RA := RepI) (RO := RR s₆.heap) (X := N1) (p := fun _ => true) (f := fun n => n) (cl := []) F₆ hh (rmono _) (rnod _) (ld F₆ e1 (srcList (.refl _) hD1₆ A1)) (by omega) (fun v a' s₁ Lc m' g rv hn hv => conds_nil ⟨.refl _, rfl⟩) (fun v a' s₁ Lc m' g rv _ hn hv => relt g rv hn hv rfl rfl rfl) fun s₇ R1 us3 j3 F₇ x67 nR1 hR1 A3 l3 o3 => ?_)
  have idf : ∀ N : List Int, (N.filter fun _ => true).map (fun n => n) = N := fun N => by rw [List.filter_eq_self.mpr fun _ _ => rfl, List.map_id']
  rw [idf] at A3
  obtain ⟨cs1, rfl, lc1, q1, Z1⟩ := rr_split A3
  have R1L := neL F₆ nR1
  -- others = [[n] for n in second]
  have e2₇ : upd m₆ "rows" (.ref R1) "second" = some (.ref D2) := upd_ne (by decide) e2
  refine wpAny_execs_cons (assignComp1 (RA := RepI) (RO := RR s₇.heap) (X := N2) (p := fun _ => true) (f := fun n => n) (cl := []) F₇ hh (rmono _) (rnod _) (ld F₇ e2₇ (srcList (.refl _) (x67.keep _ _ D2L hD2₆) A2)) (by omega) (fun v a' s₁ Lc m' g rv hn hv => conds_nil ⟨.refl _, rfl⟩) (fun v a' s₁ Lc m' g rv _ hn hv => relt g rv hn hv rfl rfl rfl) fun s₈ R2 us4 j4 F₈ x78 nR2 hR2 A4 l4 o4 => ?_)
  rw [idf] at A4
  obtain ⟨cs2, rfl, lc2, q2, Z2⟩ := rr_split A4
  have R2L := neL F₇ nR2
  have f1' : upd (upd m₆ "rows" (.ref R1)) "others" (.ref R2) "rows" = some (.ref R1) := upd_ne (by decide) upd_same
  have f2' : upd (upd m₆ "rows" (.ref R1)) "others" (.ref R2) "others" = some (.ref R2) := upd_same
  have f3' : upd (upd m₆ "rows" (.ref R1)) "others" (.ref R2) "first" = some (.ref D1) := upd_ne (by decide) (upd_ne (by decide) e1)
  have f4' : upd (upd m₆ "rows" (.ref R1)) "others" (.ref R2) "second" = some (.ref D2) := upd_ne (by decide) (upd_ne (by decide) e2)
  generalize upd (upd m₆ "rows" (.ref R1)) "others" (.ref R2) = m₈ at *
  have c1L : ∀ c ∈ cs1, c ≠ L := fun c hc => (o3 (.ref c) (List.mem_map.mpr ⟨c, hc, rfl⟩) c (.head _)).2.2
  have c2L : ∀ c ∈ cs2, c ≠ L := fun c hc => (o4 (.ref c) (List.mem_map.mpr ⟨c, hc, rfl⟩) c (.head _)).2.2
  have hR1₈ := x78.keep _ _ R1L hR1
  -- all the rows, at s₈
  have row8 : ∀ c ∈ cs1 ++ cs2, c ≠ L ∧ base.get? c = none ∧ ∃ n t j, s₈.heap.get? c = some (listOf #[.int n t] j) := by
    intro c hc
    rcases List.mem_append.mp hc with hc | hc
    · obtain ⟨nc, n, t, j, e⟩ := q1 c hc
      exact ⟨c1L c hc, nb F₆ nc, n, t, j, x78.keep _ _ (c1L c hc) e⟩
    · obtain ⟨nc, n, t, j, e⟩ := q2 c hc
      exact ⟨c2L c hc, nb F₇ nc, n, t, j, e⟩
  have off8 : ∀ {s' : Shared} {a : Addr}, ExL L s₈ s' → s'.heap.get? a = none → a ∉ cs1 ++ cs2 := fun {s' a} x q hc => by
    obtain ⟨cL, _, n, t, j, e⟩ := row8 a hc
    rw [x.keep _ _ cL e] at q; cases q
  have D1off : D1 ∉ cs1 ++ cs2 := fun hc => by
    rcases List.mem_append.mp hc with hc | hc
    · rw [(q1 D1 hc).1] at hD1₆; cases hD1₆
    · have := x67.keep _ _ D1L hD1₆
      rw [(q2 D1 hc).1] at this; cases this
  have D2off : D2 ∉ cs1 ++ cs2 := fun hc => by
    rcases List.mem_append.mp hc with hc | hc
    · rw [(q1 D2 hc).1] at hD2₆; cases hD2₆
    · have := x67.keep _ _ D2L hD2₆
      rw [(q2 D2 hc).1] at this; cases this
  have R1off : R1 ∉ cs1 ++ cs2 := fun hc => by
    rcases List.mem_append.mp hc with hc | hc
    · exact (o3 (.ref R1) (List.mem_map.mpr ⟨R1, hc, rfl⟩) R1 (.head _)).2.1 rfl
    · rw [(q2 R1 hc).1] at hR1; cases hR1
  have R2off : R2 ∉ cs1 ++ cs2 := fun hc => by
    rcases List.mem_append.mp hc with hc | hc
    · obtain ⟨_, n, t, j, e⟩ := q1 R2 hc
      rw [nR2] at e; cases e
    · exact (o4 (.ref R2) (List.mem_map.mpr ⟨R2, hc, rfl⟩) R2 (.head _)).2.1 rfl
  have v1 := A1.length
  have v2 := A2.length
  have w1 : (cs1.map Value.ref).length < 1000 := by rw [List.length_map]; omega
  have w2 : (cs2.map Value.ref).length < 1000 := by rw [List.length_map]; omega
  -- expected = rows[:] ; actual = others[:]
  refine wpAny_execs_cons (wpAny_Assign_Name (sliceAll (EvV.name F₈.ns f1') hR1₈ (by omega) fun s₉ E1 g₉ nE1 hE1 => st_ (frGrow F₈ g₉) fun s₁₀ F₁₀ g₁₀ => ?_))
  have x8a : ExL L s₈ s₁₀ := g₉.exL.trans g₁₀
  have E1L := neL F₈ nE1
  have hE1' := g₁₀.keep _ _ E1L hE1
  refine wpAny_execs_cons (wpAny_Assign_Name (sliceAll (EvV.name F₁₀.ns (upd_ne (by decide) f2')) (x8a.keep _ _ R2L hR2) (by omega) fun s₁₁ E2 g₁₁ nE2 hE2 => st_ (frGrow F₁₀ g₁₁) fun s₁₂ F₁₂ g₁₂ => ?_))
  have xac : ExL L s₁₀ s₁₂ := g₁₁.exL.trans g₁₂
  have x8c := x8a.trans xac
  have E2L := neL F₁₀ nE2
  have hE2c := g₁₂.keep _ _ E2L hE2
  have hE1c := xac.keep _ _ E1L hE1'
  have E1off := off8 (.refl L s₈) nE1
  have E2off := off8 x8a nE2
  have h1c : upd (upd m₈ "expected" (.ref E1)) "actual" (.ref E2) "expected" = some (.ref E1) := upd_ne (by decide) upd_same
  have h2c : upd (upd m₈ "expected" (.ref E1)) "actual" (.ref E2) "actual" = some (.ref E2) := upd_same
  have h3c : upd (upd m₈ "expected" (.ref E1)) "actual" (.ref E2) "rows" = some (.ref R1) := upd_ne (by decide) (upd_ne (by decide) f1')
  have h4c : upd (upd m₈ "expected" (.ref E1)) "actual" (.ref E2) "others" = some (.ref R2) := upd_ne (by decide) (upd_ne (by decide) f2')
  have h5c : upd (upd m₈ "expected" (.ref E1)) "actual" (.ref E2) "first" = some (.ref D1) := upd_ne (by decide) (upd_ne (by decide) f3')
  have h6c : upd (upd m₈ "expected" (.ref E1)) "actual" (.ref E2) "second" = some (.ref D2) := upd_ne (by decide) (upd_ne (by decide) f4')
  generalize upd (upd m₈ "expected" (.ref E1)) "actual" (.ref E2) = mc at *
  -- told = sorted_list_difference(expected, actual)
  have Z1c : All2 (RZ s₁₂.heap) (cs1.map Value.ref) (N1.zip cs1) := Z1.mono fun u z hu ⟨e, t, j, q⟩ => by
    subst e
    obtain ⟨c, hc, e⟩ := List.mem_map.mp hu
    cases e
    have cl := c1L _ hc
    exact ⟨rfl, t, j, x8c.keep _ _ cl (x78.keep _ _ cl q)⟩
  have Z2c : All2 (RZ s₁₂.heap) (cs2.map Value.ref) (N2.zip cs2) := Z2.mono fun u z hu ⟨e, t, j, q⟩ => by
    subst e
    obtain ⟨c, hc, e⟩ := List.mem_map.mp hu
    cases e
    exact ⟨rfl, t, j, x8c.keep _ _ (c2L _ hc) q⟩
  have B : Below A base [envOf "law" (scopeOf (stmtAt pg1 5)) L fa cd] s₁₂.heap := ⟨hst, F₁₂.keep, mkFrames (outer := []) (h₀ := s₁₂.heap) trivial (Kp.refl [] _) F₁₂⟩
  have szb : base.objs.size ≤ s₁₂.heap.objs.size := Nat.le_trans F₁₂.above (Nat.le_of_lt F₁₂.ns.lt)
  have Pl := plainDue (key := Prod.fst) _ (N1.zip cs1) (N2.zip cs2) (Nat.le_refl _) (srtZip S1 lc1) (srtZip S2 lc2)
  rw [List.map_fst_zip (by omega), List.map_fst_zip (by omega)] at Pl
  have lz1 : (N1.zip cs1).length < 100000 := by rw [List.length_zip]; omega
  have lz2 : (N2.zip cs2).length < 100000 := by rw [List.length_zip]; omega
  refine wpAny_execs_cons (wpAny_Assign_Name (callName F₁₂ G1 fn1 (spliced_more (ld F₁₂ h1c (spliced_more (ld F₁₂ h2c (spliced_none ⟨F₁₂.keep,
    sld_call (Rep := RZ s₁₂.heap) (X := N1.zip cs1) (Y := N2.zip cs2) (lt := fun a b => some (decide (a.1 < b.1))) (gt := fun a b => decide (a.1 > b.1)) (eq := fun a b => a.1 == b.1) (outer := [envOf "law" (scopeOf (stmtAt pg1 5)) L fa cd])
      (sqList hE1c (fun q => E1L (List.mem_singleton.mp q)) Z1c lz1) (sqList hE2c (fun q => E2L (List.mem_singleton.mp q)) Z2c lz2) (eqZ F₁₂) (ltZ F₁₂) (gtZ F₁₂) (by omega) hr hh B szb lim hI fn1 ?_ ?_⟩)))))))
  case refine_2 => intro hn; rw [Pl] at hn; cases hn
  intro s₁₃ t aM aU mm mu n1' n2' kp os gens ht nt hMM hUU nM nU MU fi
  obtain ⟨r, er, am, au⟩ := fi
  rw [Pl] at er
  cases er
  have am := rz_refs am
  have au := rz_refs au
  have xcd : ExL L s₁₂ s₁₃ := Kp.exL1 kp os gens
  have F₁₃ : Fr base L s₁₃.heap mc := frKp (S := []) F₁₂ kp (fun _ hb => by cases hb)
  refine st_ F₁₃ fun s₁₄ F₁₄ g₁₄ => ?_
  have xce : ExL L s₁₂ s₁₄ := xcd.trans g₁₄
  have x8e := x8c.trans xce
  have tL := neL F₁₂ nt
  have ML := neL F₁₂ nM
  have UL := neL F₁₂ nU
  have toff := off8 x8c nt
  have Moff := off8 x8c nM
  have Uoff := off8 x8c nU
  have hte := g₁₄.keep _ _ tL ht
  have hMe := g₁₄.keep _ _ ML hMM
  have hUe := g₁₄.keep _ _ UL hUU
  have i1 : upd mc "told" (.ref t) "expected" = some (.ref E1) := upd_ne (by decide) h1c
  have i2 : upd mc "told" (.ref t) "actual" = some (.ref E2) := upd_ne (by decide) h2c
  have i3 : upd mc "told" (.ref t) "rows" = some (.ref R1) := upd_ne (by decide) h3c
  have i4 : upd mc "told" (.ref t) "others" = some (.ref R2) := upd_ne (by decide) h4c
  have i5 : upd mc "told" (.ref t) "first" = some (.ref D1) := upd_ne (by decide) h5c
  have i6 : upd mc "told" (.ref t) "second" = some (.ref D2) := upd_ne (by decide) h6c
  have i7 : upd mc "told" (.ref t) "told" = some (.ref t) := upd_same
  generalize upd mc "told" (.ref t) = me at *
  -- for k in range(len(rows)): rows[k].append(k)
  have rows_e : ∀ c ∈ cs1 ++ cs2, base.get? c = none ∧ c ≠ L ∧ ∃ (vs : List Value) (j : Nat), s₁₄.heap.get? c = some (listOf vs.toArray j) ∧ vs.length ≤ 1 := fun c hc => by
    obtain ⟨cL, bc, n, t, j, e⟩ := row8 c hc
    exact ⟨bc, cL, [.int n t], j, x8e.keep _ _ cL e, Nat.le_refl _⟩
  have hR1e := x8e.keep _ _ R1L hR1₈
  have hR2e := x8e.keep _ _ R2L hR2
  refine wpAny_execs_cons (markLoop (cs := cs1 ++ cs2) (own := cs1) (val := fun k => (k : Int)) F₁₄ hh hRg hLn i3 (by decide) hR1e (fun c hc => List.mem_append_left _ hc) R1off R1L (by omega) rows_e (fun s₁ m₁ k t F' hk' => EvI.name F'.ns hk') fun s₁₅ mf F₁₅ ef M15 => ?_)
  have hR2f := M15.keep _ _ R2off R2L hR2e
  have rows_f : ∀ c ∈ cs1 ++ cs2, base.get? c = none ∧ c ≠ L ∧ ∃ (vs : List Value) (j : Nat), s₁₅.heap.get? c = some (listOf vs.toArray j) ∧ vs.length ≤ 1 + cs1.length := fun c hc => ⟨(rows_e c hc).1, (rows_e c hc).2.1, M15.rows c hc⟩
  refine wpAny_execs_cons (markLoop (cs := cs1 ++ cs2) (own := cs2) (val := fun k => -1 - (k : Int)) F₁₅ hh hRg hLn ((ef _ (by decide)).trans i4) (by decide) hR2f (fun c hc => List.mem_append_right _ hc) R2off R2L (by omega) rows_f (fun s₁ m₁ k t F' hk' => EvI.sub (EvI.neg EvI.const) fun s₂ g₂ => EvI.name (frGrow F' g₂).ns hk') fun s₁₆ mg F₁₆ eg M16 => ?_)
  have kf : ∀ {y : Str} {v : Value}, y ≠ ("k" : Str) → me y = some v → mg y = some v := fun ny q => (eg _ ny).trans ((ef _ ny).trans q)
  have kp16 : ∀ {b : Addr} {o : Obj}, b ∉ cs1 ++ cs2 → b ≠ L → s₁₄.heap.get? b = some o → s₁₆.heap.get? b = some o := fun n1 n2 e => M16.keep _ _ n1 n2 (M15.keep _ _ n1 n2 e)
  have hD1g := kp16 D1off D1L (x8e.keep _ _ D1L (x78.keep _ _ D1L (x67.keep _ _ D1L hD1₆)))
  have hD2g := kp16 D2off D2L (x8e.keep _ _ D2L (x78.keep _ _ D2L (x67.keep _ _ D2L hD2₆)))
  have hR1g := kp16 R1off R1L hR1e
  have hR2g := kp16 R2off R2L hR2e
  have hE1g := kp16 E1off E1L (xce.keep _ _ E1L hE1c)
  have hE2g := kp16 E2off E2L (xce.keep _ _ E2L hE2c)
  have htg := kp16 toff tL hte
  have hMg := kp16 Moff ML hMe
  have hUg := kp16 Uoff UL hUe
  -- if expected != rows or actual != others
  refine wpAny_execs_cons (wpAny_If (isTrue_or (wpAny_isTrue_Compare1 (ld F₁₆ (kf (by decide) i1) (ld F₁₆ (kf (by decide) i3) ?_)))))
  refine cmp_ofNotEq (neSame hE1g hR1g ul _ _ _ _ (wpAny_truthy_bool ?_))
  rw [if_neg (by decide)]
  refine isTrue_or (wpAny_isTrue_Compare1 (ld F₁₆ (kf (by decide) i2) (ld F₁₆ (kf (by decide) i4) ?_)))
  refine cmp_ofNotEq (neSame hE2g hR2g ul _ _ _ _ (wpAny_truthy_bool ?_))
  rw [if_neg (by decide)]
  refine isTrue_or_nil ?_
  rw [if_neg (by decide)]
  refine wpAny_execs_nil ?_
  -- return told == (.., ..)
  refine wpAny_execs_cons (wpAny_Return_some (wpAny_Compare1 (ld F₁₆ (kf (by decide) i7) (Tuple_ (spliced_more (callName F₁₆ G4 fn4 (spliced_more (ld F₁₆ (kf (by decide) i5) (spliced_more (ld F₁₆ (kf (by decide) i6) (spliced_more (ld F₁₆ (kf (by decide) i3) (spliced_none ⟨F₁₆.keep, due_call (fn4.keep F₁₆.keep) (lim.keeps F₁₆.keep) hr hh (by omega) (hRg.keep1 F₁₆.keep) (hLn.keep1 F₁₆.keep) hD1g A1 (by omega) hD2g A2 (by omega) S2 hR1g lc1 fun s₁₇ V1 jv1 g₁₇ nV1 hV1 => ?_⟩)))))))))))))
  have F₁₇ := frGrow F₁₆ g₁₇
  refine spliced_more (callName F₁₇ G4 fn4 (spliced_more (ld F₁₇ (kf (by decide) i6) (spliced_more (ld F₁₇ (kf (by decide) i5) (spliced_more (ld F₁₇ (kf (by decide) i4) (spliced_none ⟨F₁₇.keep, due_call (fn4.keep F₁₇.keep) (lim.keeps F₁₇.keep) hr hh (by omega) (hRg.keep1 F₁₇.keep) (hLn.keep1 F₁₇.keep) (g₁₇.keep _ _ hD2g) A2 (by omega) (g₁₇.keep _ _ hD1g) A1 (by omega) S1 (g₁₇.keep _ _ hR2g) lc2 fun s₁₈ V2 jv2 g₁₈ nV2 hV2 => ?_⟩))))))))
  refine spliced_none (newTuple_ fun s₁₉ T g₁₉ hT nT => ?_)
  have ge := g₁₇.trans (g₁₈.trans g₁₉)
  have it1 : s₁₉.heap.IsTuple t [Value.ref aM, .ref aU].toArray := ⟨_, ge.keep _ _ htg, rfl, _, rfl⟩
  have it2 : s₁₉.heap.IsTuple T [Value.ref V1, .ref V2].toArray := ⟨_, hT, rfl, _, rfl⟩
  have ne1 : aM ≠ V1 := fun q => by rw [← q, hMg] at nV1; cases nV1
  have ne2 : aU ≠ V2 := fun q => by rw [← q, g₁₇.keep _ _ hUg] at nV2; cases nV2
  have hM1 := ge.keep _ _ hMg
  have hU1 := ge.keep _ _ hUg
  rw [am] at hM1
  rw [au] at hU1
  refine eq_tupleAt (e := fun _ => true) it1 it2 ul (fun j h1 h2 => ?_) ?_
  · match j, h1 with
    | 0, _ => exact EqAt.of_refs ne1 (eqSame hM1 ((g₁₈.trans g₁₉).keep _ _ hV1) ul1)
    | 1, _ => exact EqAt.of_refs ne2 (eqSame hU1 (g₁₉.keep _ _ hV2) ul1)
  · refine hQ s₁₉ mg (frGrow F₁₆ ge) ?_ ?_
    · exact ge.os.trans (M16.os.trans (M15.os.trans (x8e.os.trans (x78.os.trans (x67.os.trans os₆)))))
    · exact ge.gens.trans (M16.gens.trans (M15.gens.trans (x8e.gens.trans (x78.gens.trans (x67.gens.trans gens₆)))))
end
open_top hd for PySem.Challenge.rw_dn0234_01

theorem gn_of {K : Frag} {h : Heap} {mg : Str → Option Value} {n : Str} {v : Value} (X : K.In h) (G : h.Ns mainGlobals mg) (e : nsIn K mainGlobals n = some (some v)) : Gn h n v := ⟨mg, G, mg_of X G e⟩
theorem bn_of {K : Frag} {h : Heap} {mg mb : Str → Option Value} {p : Program} {loose : List Str} {n : Str} {v : Value} (X : K.In h) (T : TopRead p loose mg mb h) (e : nsIn K mainGlobals n = some none) (hv : bootBuiltins n = some v) (hn : n ≠ "__name__" := by decide) : Bn h n v :=
  ⟨mg, mb, T.g, mg_none_of X T.g e, T.b, by rw [T.builtins n hn]; exact hv⟩

theorem top01 : PySem.Challenge.rw_dn0234_01.Holds := hd (by
  k_go0
  rename_i hg KX X V GL T B TE TW w9 w8 M w7 w6 hcd w5 hs hlay0 hLa hr1 hl2 w4 w3 w2 w1 w0 hL ra ww r0 hI hr hc hct K0 hD h₁ F N0
  have TR := topRead_of T
  refine wpAny_mono (law01 (fa := _) (Q := fun f s' => f = .ret (.bool true) ∧ ∃ m', Fr _ _ s'.heap m' ∧ s'.os = _ ∧ s'.gens = _) F rfl (show callerA.depth + 1 < recursionLimit by decide) (show callerA.units + 3 < 6000 by decide) rfl TR.nolimit rfl hL (intsAll hI) (by omega)
    (gn_of KX TR.g (by with_unfolding_all rfl)) (fn_of_K KX (by with_unfolding_all rfl) (by with_unfolding_all rfl))
    (gn_of KX TR.g (by with_unfolding_all rfl)) (fn_of_K KX (by with_unfolding_all rfl) (by with_unfolding_all rfl))
    (gn_of KX TR.g (by with_unfolding_all rfl)) (fn_of_K KX (by with_unfolding_all rfl) (by with_unfolding_all rfl))
    (bn_of KX TR (by with_unfolding_all rfl) (by with_unfolding_all rfl)) (bn_of KX TR (by with_unfolding_all rfl) (by with_unfolding_all rfl)) (bn_of KX TR (by with_unfolding_all rfl) (by with_unfolding_all rfl)) (bn_of KX TR (by with_unfolding_all rfl) (by with_unfolding_all rfl)) (bn_of KX TR (by with_unfolding_all rfl) (by with_unfolding_all rfl))
    fun s' m' F' os gens => ⟨rfl, m', F', os, gens⟩) (fun f s' q => ?_) fun _ _ q => q.elim
  obtain ⟨rfl, m', F', os, gens⟩ := q
  exact goodW_bool F' (gens.trans hg) (fun _ => rfl) (by with_unfolding_all rfl) os)
end Mine

theorem PySem.Challenge.cw_dn0234_01_holds : PySem.Challenge.rw_dn0234_01.Holds :=
  Mine.top01
