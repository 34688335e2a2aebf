import PyProof.Rows.All
import Wide.All
import OpenK.AllK
import Wide.FinOn
import PySem.Challenge.RW_dn0234_02
set_option Elab.async false
set_option maxRecDepth 100000
set_option maxHeartbeats 8000000
open PySem PySem.W PyProof.Rows PySem.Calls
namespace Mine

/-! heaps: everything is kept, but the slots of the frames S may turn -/
structure Kp (S : List Addr) (h h' : Heap) : Prop where
  keep : ∀ b o, h.get? b = some o → b ∉ S → h'.get? b = some o
  slot : ∀ b o, h.get? b = some o → ∃ sl, h'.get? b = some { o with slots := sl }

theorem Kp.refl (S : List Addr) (h : Heap) : Kp S h h := ⟨fun _ _ e _ => e, fun _ o e => ⟨o.slots, e⟩⟩
theorem Kp.trans {S : List Addr} {a b c : Heap} (x : Kp S a b) (y : Kp S b c) : Kp S a c :=
  ⟨fun d o e n => y.keep d o (x.keep d o e n) n, fun d o e => let ⟨_, e₁⟩ := x.slot d o e; let ⟨sl, e₂⟩ := y.slot d _ e₁; ⟨sl, e₂⟩⟩
theorem Kp.of_keep {S : List Addr} {h h' : Heap} (k : ∀ b o, h.get? b = some o → h'.get? b = some o) : Kp S h h' :=
  ⟨fun b o e _ => k b o e, fun b o e => ⟨o.slots, k b o e⟩⟩
theorem Kp.mono {S S' : List Addr} {h h' : Heap} (x : Kp S h h') (hs : ∀ b, b ∈ S → b ∈ S') : Kp S' h h' :=
  ⟨fun b o e n => x.keep b o e fun q => n (hs b q), x.slot⟩
theorem Kp.of_slotsOnly {S : List Addr} {h h' : Heap} (x : Heap.SlotsOnly S h h') : Kp S h h' :=
  ⟨fun b _ e n => (x.2.1 b n).trans e, x.2.2⟩
theorem Kp.ns {S : List Addr} {h h' : Heap} {a : Addr} {m : Str → Option Value} (x : Kp S h h') (hn : h.Ns a m) : h'.Ns a m := by
  obtain ⟨o, es, ep, ho, hd, r⟩ := hn
  obtain ⟨sl, hs⟩ := x.slot a o ho
  exact ⟨_, es, ep, hs, hd, r⟩
theorem Kp.frames {S : List Addr} {h h' base : Heap} {l : List Env} (x : Kp S h h') (hl : h.FunFrames base l) : h'.FunFrames base l :=
  hl.of_keeps fun b o e _ => let ⟨_, e'⟩ := x.slot b o e; ⟨_, e', rfl⟩
theorem Kp.fresh {S : List Addr} {h h' : Heap} (x : Kp S h h') : h.get? h'.objs.size = none := by
  cases hq : h.get? h'.objs.size with
  | none => rfl
  | some o => obtain ⟨sl, e⟩ := x.slot _ _ hq; exact absurd (Heap.lt_size e) (Nat.lt_irrefl _)

/-- an exception on its way: everything of hm stands, e is new -/
structure Fly (hm : Addr → Option Obj) (S : List Addr) (e : Addr) (cls : String) (tr : Bool) (c : Value) (h : Heap) : Prop where
  keep : ∀ b o, hm b = some o → b ∉ S → h.get? b = some o
  slot : ∀ b o, hm b = some o → ∃ sl, h.get? b = some { o with slots := sl }
  new : hm e = none
  there : ∃ oe vs, h.get? e = some oe ∧ oe.cls = .type cls ∧ oe.data = .fields vs ∧ vs.size = 6 ∧ vs[2]? = some c ∧
    (match tr with
     | false => vs[1]? = some .none
     | true => ∃ T oT ts, vs[1]? = some (.ref T) ∧ hm T = none ∧ T ≠ e ∧ h.get? T = some oT ∧ oT.data = .fields ts ∧ 3 < ts.size)

theorem Fly.of_new {hm h : Heap} {S : List Addr} {e : Addr} {cls : String} (x : Heap.NewExc hm h e cls) : Fly hm.get? S e cls false .none h := by
  obtain ⟨ob, t, he, hc, hd⟩ := x.there
  exact ⟨fun b o q _ => x.keeps b o q, fun b o q => ⟨o.slots, x.keeps b o q⟩, x.new, ob, _, he, hc, hd, rfl, rfl, rfl⟩
theorem Fly.kp {hm h : Heap} {S : List Addr} {e : Addr} {cls : String} {tr : Bool} {c : Value} (x : Fly hm.get? S e cls tr c h) : Kp S hm h := ⟨x.keep, x.slot⟩
/-- another thing to keep in view while e is on its way -/
theorem Fly.anew {hm : Addr → Option Obj} {h h' : Heap} {S : List Addr} {e L : Addr} {cls : String} {c : Value} (x : Fly hm S e cls true c h) (hL : ∃ es n o, h.get? L = some o ∧ o.data = .dict es n)
    (k : ∀ b o, b ≠ L → h.get? b = some o → h'.get? b = some o) : ∃ hm' : Addr → Option Obj, Fly hm' S e cls true c h' ∧ ∀ b o, hm b ≠ none → h'.get? b = some o → hm' b = some o := by
  obtain ⟨_, _, ne, oe, vs, he, hc, hd, hsz, h2, T, oT, ts, h1, nT, hTe, gT, dT, sT⟩ := x
  obtain ⟨es, n, oL, q1, q2⟩ := hL
  have heL : e ≠ L := fun q => by rw [q, q1] at he; cases he; rw [q2] at hd; cases hd
  have hTL : T ≠ L := fun q => by rw [q, q1] at gT; cases gT; rw [q2] at dT; cases dT
  refine ⟨fun b => if b = e ∨ b = T then none else h'.get? b, ⟨fun b o q _ => ?_, fun b o q => ⟨o.slots, ?_⟩, by simp, oe, vs, k _ _ heL he, hc, hd, hsz, h2, T, oT, ts, h1, by simp, hTe, k _ _ hTL gT, dT, sT⟩, fun b o nb q => ?_⟩
  · split at q
    · cases q
    · exact q
  · split at q
    · cases q
    · exact q
  · show (if _ then _ else _) = _
    rw [if_neg]
    · exact q
    · rintro (r | r)
      · exact nb (by rw [r, ne])
      · exact nb (by rw [r, nT])

section
variable {M : Model} {A : Around} {E : Value → Shared → Prop} {s : Shared} {base : Heap} {hm : Addr → Option Obj} {env : Env} {outer : List Env} {L e : Addr} {cls : String} {tr : Bool} {c : Value} {S : List Addr}

theorem not_frame {l : List Env} {h : Heap} (hl : h.FunFrames base l) {b : Addr} {o : Obj} {vs : Array Value} (ho : h.get? b = some o) (hd : o.data = .fields vs) : b ∉ l.filterMap (·.frame) := fun hb => by
  obtain ⟨_, o', ho', nf⟩ := hl.mem hb
  rw [ho] at ho'; cases ho'; exact nf vs hd

theorem entry_ {head : Value} {hadNext : Bool} {oe : Obj} {vs : Array Value} {Q : Unit → Shared → Prop}
    (hfr : A.frames = some (env :: outer)) (hl : s.heap.FunFrames base (env :: outer)) (hf : env.frame = some L)
    (keep : ∀ b o, hm b = some o → b ∉ (env :: outer).filterMap (·.frame) → s.heap.get? b = some o) (slot : ∀ b o, hm b = some o → ∃ sl, s.heap.get? b = some { o with slots := sl }) (new : hm e = none)
    (he : s.heap.get? e = some oe) (hc : oe.cls = .type cls) (hd : oe.data = .fields vs) (hsz : vs.size = 6) (h2 : vs[2]? = some c)
    (h : ∀ h', Fly hm ((env :: outer).filterMap (·.frame)) e cls true c h' → h'.FunFrames base (env :: outer) → Q () { s with heap := h' }) :
    wpAny M A (do let a ← frameOf env; let pl ← entryPlaceOf L hadNext; let b ← EntryCells.newEntry head a .none (rawInt L) .none pl; setField (.ref e) 1 b) Q E s := by
  have hene := not_frame hl he hd
  refine wpAny_bind (wpAny_frameOf_fun hfr hl hf fun h₁ hs₁ => ?_)
  refine wpAny_bind (wpAny_entryPlaceOf fun pl hpl => ?_)
  unfold EntryCells.newEntry newFields
  refine wpAny_bind (wpAny_newObj_type ?_ (hpl.sizeOk5 _ _ _ _ _))
  have he₁ : h₁.get? e = some oe := (hs₁.2.1 e hene).trans he
  have he₂ := Heap.get?_push_of_some (h := h₁) { cls := .type "traceback", dict := none, data := .fields ([head, .ref L, .none, rawInt L, .none] ++ (if pl.isEmpty then List.replicate 6 Value.none else pl)).toArray } he₁
  have hTe : h₁.objs.size ≠ e := Nat.ne_of_gt (Heap.lt_size he₁)
  have hd₃ := Obj.data_mapFields hd (·.setIfInBounds 1 (Value.ref h₁.objs.size))
  have he₃ := Heap.get?_update_self (Obj.mapFields (·.setIfInBounds 1 (Value.ref h₁.objs.size))) he₂ (Obj.isFreed_of_fields hd₃)
  have hT₃ := (Heap.get?_update_other (h₁.push { cls := .type "traceback", dict := none, data := .fields ([head, .ref L, .none, rawInt L, .none] ++ (if pl.isEmpty then List.replicate 6 Value.none else pl)).toArray })
    (Obj.mapFields (·.setIfInBounds 1 (Value.ref h₁.objs.size))) (Ne.symm hTe)).trans (Heap.get?_push_size h₁ rfl)
  have keep1 : ∀ b o, hm b = some o → b ∉ (env :: outer).filterMap (·.frame) → h₁.get? b = some o := fun b o q n => (hs₁.2.1 b n).trans (keep b o q n)
  have slot1 : ∀ b o, hm b = some o → ∃ sl, h₁.get? b = some { o with slots := sl } := fun b o q => by
    obtain ⟨sl, q'⟩ := slot b o q
    obtain ⟨sl', q''⟩ := hs₁.2.2 b _ q'
    exact ⟨sl', q''⟩
  have nn : hm h₁.objs.size = none := by
    cases q : hm h₁.objs.size with
    | none => rfl
    | some o => obtain ⟨sl, q'⟩ := slot1 _ _ q; exact absurd (Heap.lt_size q') (Nat.lt_irrefl _)
  have up : ∀ b o, b ≠ e → h₁.get? b = some o → ((h₁.push { cls := .type "traceback", dict := none, data := .fields ([head, .ref L, .none, rawInt L, .none] ++ (if pl.isEmpty then List.replicate 6 Value.none else pl)).toArray }).update e (Obj.mapFields (·.setIfInBounds 1 (Value.ref h₁.objs.size)))).get? b = some o := fun b o n q => by
    rw [Heap.get?_update_other _ _ (Ne.symm n)]; exact Heap.get?_push_of_some _ q
  refine wpAny_setField he₂ hd (by omega) (h _ ⟨fun b o hb n => ?_, fun b o hb => ?_, new, _, _, he₃, ?_, hd₃, ?_, ?_, h₁.objs.size, _, _, ?_, nn, hTe, hT₃, rfl, ?_⟩ ?_)
  · exact up b o (fun q => by rw [q, new] at hb; cases hb) (keep1 b o hb n)
  · obtain ⟨sl, q⟩ := slot1 b o hb
    exact ⟨sl, up b _ (fun q => by rw [q, new] at hb; cases hb) q⟩
  · rw [Obj.cls_mapFields]; exact hc
  · rw [Array.size_setIfInBounds]; exact hsz
  · rw [Array.getElem?_setIfInBounds_ne (by decide)]; exact h2
  · simp [hsz]
  · simp only [List.size_toArray, List.length_append, List.length_cons, List.length_nil] <;> omega
  · refine hl.of_keeps fun b o hb nf => ?_
    obtain ⟨sl, q⟩ := hs₁.2.2 b o hb
    exact ⟨_, up b _ (fun q' => by rw [q', he] at hb; cases hb; exact nf _ hd) q, rfl⟩

theorem note_ {Q : Unit → Shared → Prop} (hfr : A.frames = some (env :: outer)) (hl : s.heap.FunFrames base (env :: outer)) (hf : env.frame = some L)
    (X : Fly hm ((env :: outer).filterMap (·.frame)) e cls tr c s.heap)
    (h : ∀ h', Fly hm ((env :: outer).filterMap (·.frame)) e cls true c h' → h'.FunFrames base (env :: outer) → Q () { s with heap := h' }) : wpAny M A (noteFrame (.ref e) env) Q E s := by
  obtain ⟨keep, slot, new, oe, vs, he, hc, hd, hsz, h2, hT⟩ := id X
  unfold noteFrame
  simp only [hf]
  cases tr with
  | false =>
    refine wpAny_bind (wpAny_field he hd hT ?_)
    rw [if_neg (by decide)]
    exact entry_ hfr hl hf keep slot new he hc hd hsz h2 h
  | true =>
    obtain ⟨T, oT, ts, h1, nT, hTe, gT, dT, sT⟩ := hT
    refine wpAny_bind (wpAny_field he hd h1 ?_)
    rw [if_pos (show (Value.ref T != Value.none) = true from by simp)]
    refine wpAny_bind (wpAny_field gT dT (Array.getElem?_eq_getElem sT) ?_)
    by_cases hq : (ts[3] == rawInt L) = true
    · rw [if_pos hq]
      exact wpAny_pure (h _ X hl)
    · rw [if_neg hq]
      refine wpAny_bind (wpAny_setField gT dT sT ?_)
      have other : ∀ b, b ≠ T → (s.heap.update T (Obj.mapFields (·.setIfInBounds 3 Value.none))).get? b = s.heap.get? b := fun b hb => Heap.get?_update_other _ _ (Ne.symm hb)
      have nb : ∀ b o, hm b = some o → b ≠ T := fun b o hb q => by rw [q, nT] at hb; cases hb
      refine entry_ (s := { s with heap := s.heap.update T (Obj.mapFields (·.setIfInBounds 3 Value.none)) }) hfr (hl.of_keeps fun b o hb nf => ⟨o, (other b fun q => ?_).trans hb, rfl⟩) hf (fun b o hb n => ?_) (fun b o hb => ?_) new ((other e (Ne.symm hTe)).trans he) hc hd hsz h2 h
      · rw [q, gT] at hb; cases hb; exact nf _ dT
      · exact (other b (nb b o hb)).trans (keep b o hb n)
      · obtain ⟨sl, q⟩ := slot b o hb
        exact ⟨sl, (other b (nb b o hb)).trans q⟩

theorem flight_ {fr : Option Addr} {Q : Unit → Shared → Prop} {l : List Env} (X : Fly hm S e cls tr c s.heap) (hl : s.heap.FunFrames base l)
    (h : ∀ h', Fly hm S e cls tr c h' → h'.FunFrames base l → Q () { s with heap := h' }) : wpAny M A (setFlight (.ref e) fr) Q E s := by
  obtain ⟨keep, slot, new, oe, vs, he, hc, hd, hsz, h2, hT⟩ := id X
  unfold setFlight
  cases tr with
  | false =>
    refine wpAny_bind (wpAny_field he hd hT ?_)
    rw [if_neg (by decide)]
    exact wpAny_pure (h _ X hl)
  | true =>
    obtain ⟨T, oT, ts, h1, nT, hTe, gT, dT, sT⟩ := hT
    refine wpAny_bind (wpAny_field he hd h1 ?_)
    rw [if_pos (show (Value.ref T != Value.none) = true from by simp)]
    have other : ∀ v b, b ≠ T → (s.heap.update T (Obj.mapFields (·.setIfInBounds 3 v))).get? b = s.heap.get? b := fun v b hb => Heap.get?_update_other _ _ (Ne.symm hb)
    have nb : ∀ b o, hm b = some o → b ≠ T := fun b o hb q => by rw [q, nT] at hb; cases hb
    refine wpAny_setField gT dT sT (h _ ⟨fun b o hb n => (other _ b (nb b o hb)).trans (keep b o hb n), fun b o hb => ?_, new, oe, vs, (other _ e (Ne.symm hTe)).trans he, hc, hd, hsz, h2, T, _, _, h1, nT, hTe,
      Heap.get?_update_self _ gT (Obj.isFreed_of_fields (Obj.data_mapFields dT _)), Obj.data_mapFields dT _, by rw [Array.size_setIfInBounds]; exact sT⟩ (hl.of_keeps fun b o hb nf => ⟨o, (other _ b fun q => ?_).trans hb, rfl⟩))
    · obtain ⟨sl, q⟩ := slot b o hb
      exact ⟨sl, (other _ b (nb b o hb)).trans q⟩
    · rw [q, gT] at hb; cases hb; exact nf _ dT

theorem field1_ {Q : Value → Shared → Prop} (X : Fly hm S e cls true c s.heap) (h : ∀ T, Q (.ref T) s) : wpAny M A (field (.ref e) 1) Q E s := by
  obtain ⟨_, _, new, oe, vs, he, hc, hd, hsz, h2, T, oT, ts, h1, _⟩ := id X
  exact wpAny_field he hd h1 (h T)

theorem came_ {l : List Env} (X : Fly hm S e cls true c s.heap) (hl : s.heap.FunFrames base l) (h : ∀ h', Fly hm S e cls true c h' → h'.FunFrames base l → E (.ref e) { s with heap := h' }) : cameBackBy M A env E (.ref e) s := by
  unfold cameBackBy
  refine wpAny_bind (field1_ X fun T => ?_)
  rw [if_neg (show ¬ ((Value.ref T == Value.none) = true) from by simp)]
  first | exact flight_ X hl h | exact wpAny_bind (wpAny_pure (flight_ X hl h))

theorem passOn_ {α : Type} {what : String} {Q : α → Shared → Prop} {l : List Env} (X : Fly hm S e cls true c s.heap) (hl : s.heap.FunFrames base l) (h : ∀ h', Fly hm S e cls true c h' → h'.FunFrames base l → E (.ref e) { s with heap := h' }) :
    wpAny M A (PySem.passOn what (.ref e) env : Sem α) Q E s := by
  unfold PySem.passOn
  refine wpAny_bind (field1_ X fun T => ?_)
  rw [if_neg (show ¬ ((Value.ref T == Value.none) = true) from by simp)]
  first | exact wpAny_bind (flight_ X hl fun h' X' hl' => wpAny_throw (h h' X' hl')) | exact wpAny_bind (wpAny_pure (wpAny_bind (flight_ X hl fun h' X' hl' => wpAny_throw (h h' X' hl'))))

theorem noted_ (hfr : A.frames = some (env :: outer)) (hl : s.heap.FunFrames base (env :: outer)) (hf : env.frame = some L)
    (X : Fly hm ((env :: outer).filterMap (·.frame)) e cls tr c s.heap)
    (h : ∀ h', Fly hm ((env :: outer).filterMap (·.frame)) e cls true c h' → h'.FunFrames base (env :: outer) → E (.ref e) { s with heap := h' }) : notedBy M A env E (.ref e) s :=
  note_ hfr hl hf X h

theorem leaving_ {Q : Unit → Shared → Prop} (hfr : A.frames = some (env :: outer)) (hl : s.heap.FunFrames base (env :: outer)) (hf : env.frame = some L)
    (X : Fly hm ((env :: outer).filterMap (·.frame)) e cls tr c s.heap)
    (h : ∀ h', Fly hm ((env :: outer).filterMap (·.frame)) e cls true c h' → h'.FunFrames base (env :: outer) → Q () { s with heap := h' }) : wpAny M A (leaving env (.ref e)) Q E s := by
  unfold leaving
  exact wpAny_bind (note_ hfr hl hf X fun h' X' hl' => flight_ (s := { s with heap := h' }) X' hl' fun h'' X'' hl'' => h h'' X'' hl'')
end

/-- what is handled at hand: nothing, or an exception without a context, or one whose context has none -/
def Hd (A : Around) (h : Heap) : Prop :=
  A.handled = none ∨ ∃ e o vs, A.handled = some (.ref e) ∧ h.get? e = some o ∧ o.data = .fields vs ∧
    (vs[2]? = some .none ∨ ∃ e1 o1 vs1, vs[2]? = some (.ref e1) ∧ e1 ≠ e ∧ h.get? e1 = some o1 ∧ o1.data = .fields vs1 ∧ vs1[2]? = some .none)

theorem Hd.keep {A : Around} {h h' : Heap} (x : Hd A h) (k : ∀ b o, h.get? b = some o → h'.get? b = some o) : Hd A h' :=
  x.imp id fun ⟨e, o, vs, a, b, c, d⟩ => ⟨e, o, vs, a, k _ _ b, c, d.imp id fun ⟨e1, o1, vs1, q1, q2, q3, q4⟩ => ⟨e1, o1, vs1, q1, q2, k _ _ q3, q4⟩⟩

theorem entry_unchain : entryFor table "proto.unchain" = some Builtin.«proto.unchain» := entryFor_of_tree (by kernel_rfl)

section
variable {prog : Program} {w : World} {α : Type} {A : Around} {E : Value → Shared → Prop} {s : Shared} {S : List Addr}

theorem raiseNew_any {e : Addr} {oe : Obj} {t : Value} {hm : Heap} {cls : String} {Q : α → Shared → Prop} (hd : Hd A hm) (kp : ∀ b o, hm.get? b = some o → s.heap.get? b = some o) (new : hm.get? e = none)
    (he : s.heap.get? e = some oe) (hc : oe.cls = .type cls) (hD : oe.data = .fields #[t, .none, .none, .none, .bool false, .none])
    (h : ∀ h' c, Fly hm.get? S e cls false c h' → c = A.handled.getD .none → E (.ref e) { s with heap := h' }) : wpAny (model prog w) A (raiseNew (.ref e) : Sem α) Q E s := by
  unfold raiseNew
  refine wpAny_bind (wpAny_handled ?_)
  rcases hd with hd | ⟨e1, o1, vs1, hd, g1, d1, c1⟩
  · rw [hd]
    have q : Fly hm.get? S e cls false .none s.heap := ⟨fun b o q _ => kp b o q, fun b o q => ⟨o.slots, kp b o q⟩, new, oe, _, he, hc, hD, rfl, rfl, rfl⟩
    first
      | exact wpAny_throw (h _ _ q (by rw [hd]; rfl))
      | exact wpAny_bind (wpAny_pure (wpAny_throw (h _ _ q (by rw [hd]; rfl))))
  · rw [hd]
    have ne : e1 ≠ e := fun q => by rw [q, new] at g1; cases g1
    have hne : (Value.ref e1 != Value.ref e) = true := by simp [ne]
    simp only [hne, if_true]
    have fin : wpAny (model prog w) A (do updateField e 2 (.ref e1); throw (.ref e) : Sem α) Q E s := by
      refine wpAny_bind ?_
      unfold updateField
      refine wpAny_bind (wpAny_load he ?_)
      rw [hD]
      simp only [show (2 : Nat) < (#[t, Value.none, .none, .none, .bool false, .none] : Array Value).size from by simp, if_true]
      refine wpAny_update he (wpAny_throw (h _ (.ref e1) ⟨fun b o hb _ => ?_, fun b o hb => ⟨o.slots, ?_⟩, new, _, _, Heap.get?_update_self _ he (Obj.isFreed_of_fields (Obj.data_mapFields hD _)), ?_, Obj.data_mapFields hD _, ?_, ?_, ?_⟩ (by rw [hd]; rfl)))
      · rw [Heap.get?_update_other _ _ (fun q => by rw [← q, new] at hb; cases hb)]; exact kp b o hb
      · rw [Heap.get?_update_other _ _ (fun q => by rw [← q, new] at hb; cases hb)]; exact kp b o hb
      · rw [Obj.cls_mapFields]; exact hc
      · simp
      · simp
      · simp
    refine wpAny_bind (wpAny_holding (wpAny_runValue (codeAny_builtin entry_unchain ?_)))
    unfold Builtin.«proto.unchain»
    dsimp only
    rcases c1 with c1 | ⟨e2, o2, vs2, c1, ne2, g2, d2, c2⟩
    · refine wpAny_bind (wpAny_field (kp _ _ g1) d1 c1 ?_)
      simp only [beq_self_eq_true, if_true]
      refine wpAny_pure ?_
      exact fin
    · have n2 : e2 ≠ e := fun q => by rw [q, new] at g2; cases g2
      refine wpAny_bind (wpAny_field (kp _ _ g1) d1 c1 ?_)
      rw [if_neg (by simp)]
      have h1 : (Value.ref e2 == Value.ref e) = false := by simp [n2]
      have h2 : (Value.ref e2 == Value.ref e1) = false := by simp [ne2]
      rw [h1, if_neg (by decide), h2, if_neg (by decide), if_neg (by decide)]
      refine wpAny_bind (wpAny_pure ?_)
      refine wpAny_pure ⟨Code.quiet_builtin _ (by decide +kernel), codeAny_builtin entry_unchain ?_⟩
      dsimp only
      refine wpAny_bind (wpAny_field (kp _ _ g2) d2 c2 ?_)
      simp only [beq_self_eq_true, if_true]
      refine wpAny_pure ?_
      exact fin

theorem raiseWords_any {cls msg : String} {Q : α → Shared → Prop} (hp : PlainExc cls) (hd : Hd A s.heap)
    (h : ∀ h' tk e c, Fly s.heap.get? S e cls false c h' → c = A.handled.getD .none → E (.ref e) { s with heap := h', toks := tk }) :
    wpAny (model prog w) A (raiseErrorWords cls msg : Sem α) Q E s := by
  unfold raiseErrorWords
  refine wpAny_bind (wpAny_mkText (wpAny_bind ?_))
  unfold newExc newTuple
  refine wpAny_bind (wpAny_newObj_type ?_)
  refine wpAny_bind (m := firstArgMember _ _) (wpAny_of_eq (a := Value.none) (by simp only [firstArgMember, hp.first]; rfl) ?_)
  rw [hp.own]
  refine wpAny_newObj_type ?_
  refine raiseNew_any (hm := s.heap) (t := .ref s.heap.objs.size) hd (fun b o hb => Heap.get?_push_of_some _ (Heap.get?_push_of_some _ hb)) ?_ (Heap.get?_push_size _ rfl) rfl ?_ fun h' c X hc => h h' _ _ c X hc
  · exact Heap.get?_none_of_le (by simp)
  · simp

theorem raiseMade_any {cls msg : String} {Q : α → Shared → Prop} (hp : PlainExc cls) (hd : Hd A s.heap)
    (h : ∀ h' tk e c, Fly s.heap.get? S e cls false c h' → c = A.handled.getD .none → E (.ref e) { s with heap := h', toks := tk }) (hm : (msg : Str).length ≤ sizeLine := by size_fits) :
    wpAny (model prog w) A (raiseErrorMade cls msg : Sem α) Q E s := by
  unfold raiseErrorMade
  refine wpAny_bind (wpAny_mkStr (wpAny_bind ?_) hm)
  unfold newExc newTuple
  refine wpAny_bind (wpAny_newObj_type ?_)
  refine wpAny_bind (m := firstArgMember _ _) (wpAny_of_eq (a := Value.none) (by simp only [firstArgMember, hp.first]; rfl) ?_)
  rw [hp.own]
  refine wpAny_newObj_type ?_
  refine raiseNew_any (hm := s.heap) (t := .ref s.heap.objs.size) hd (fun b o hb => Heap.get?_push_of_some _ (Heap.get?_push_of_some _ hb)) ?_ (Heap.get?_push_size _ rfl) rfl ?_ fun h' c X hc => h h' _ _ c X hc
  · exact Heap.get?_none_of_le (by simp)
  · simp
end

section
variable {prog : Program} {w : World} {A : Around} {E : Value → Shared → Prop} {s : Shared} {S : List Addr}

theorem Hd.in1 {h : Heap} (x : Hd A h) : Hd A.in1 h := x

/-- xs[k] beyond a list's end -/
theorem getItem_list_out {l : Addr} {items : Array Value} {k : Int} {t : Tok} {Q : Value → Shared → Prop} (hd : Hd A s.heap) (hl : s.heap.IsList l items)
    (hout : (items.size : Int) ≤ k) (hhi : k < 2 ^ 63)
    (hE : ∀ h' tk e c, Fly s.heap.get? S e "IndexError" false c h' → c = A.handled.getD .none → E (.ref e) { s with heap := h', toks := tk }) :
    wpAny (model prog w) A (getItem (.ref l) (.int k t)) Q E s := by
  obtain ⟨o, ho, hc, ne, hD⟩ := id hl
  unfold getItem
  try with_reducible refine wpAny_holding ?_
  first | refine wpAny_bind (wpAny_pure ?_) | skip
  refine wpAny_bind (wpAny_sequenceKey hl.typeIs (by decide) ?_)
  refine wpAny_bind (wpAny_callSpecial?_slot (name := Str.ofString "__getitem__") hl.typeIs slot_list_getitem
    (wpAny_call_entry slot_list_getitem hl.typeIs entry_list_getitem ?_ (args_list_getitem _ _)))
  show wpAny _ _ (Builtin.List.listSubscript? (.int k t) >>= _) _ _ s
  refine wpAny_bind (wpAny_listSubscript_int (fitsIndex_both (by omega) hhi) ?_)
  clear hhi
  obtain ⟨j, rfl⟩ := Int.eq_ofNat_of_zero_le (show 0 ≤ k by omega)
  have hx : items[j]? = none := Array.getElem?_eq_none (by omega)
  show wpAny _ _ ((seqItemAt l j >>= fun r => pure (r.map (j, ·))) >>= _) _ _ s
  refine wpAny_bind (wpAny_bind (wpAny_seqItemAt ho hD (wpAny_pure ?_)))
  rw [hx]
  first
    | exact wpAny_bind (wpAny_rule (raiseWords_any plainExc_IndexError hd hE))
    | exact wpAny_bind (wpAny_rule (wpAny_bind (raiseWords_any plainExc_IndexError hd hE)))
    | exact wpAny_bind (wpAny_bind (wpAny_rule (raiseWords_any plainExc_IndexError hd hE)))
    | exact wpAny_rule (raiseWords_any plainExc_IndexError hd hE)
end

abbrev upd (m : Str → Option Value) (x : Str) (v : Value) : Str → Option Value := fun y => if y = x then some v else m y
theorem upd_same {m : Str → Option Value} {x : Str} {v : Value} : upd m x v x = some v := if_pos rfl
theorem upd_ne {m : Str → Option Value} {x y : Str} {v : Value} {r : Option Value} (hn : y ≠ x) (h : m y = r) : upd m x v y = r := (if_neg hn).trans h

inductive All2 {α β : Type} (R : α → β → Prop) : List α → List β → Prop
  | nil : All2 R [] []
  | cons {a b as bs} : R a b → All2 R as bs → All2 R (a :: as) (b :: bs)
theorem All2.length {α β : Type} {R : α → β → Prop} {as : List α} {bs : List β} (h : All2 R as bs) : as.length = bs.length := by
  induction h with
  | nil => rfl
  | cons _ _ ih => simp [ih]
theorem All2.append {α β : Type} {R : α → β → Prop} {as cs : List α} {bs ds : List β} (h : All2 R as bs) (k : All2 R cs ds) : All2 R (as ++ cs) (bs ++ ds) := by
  induction h with
  | nil => exact k
  | cons r _ ih => exact .cons r ih
theorem All2.get {α β : Type} {R : α → β → Prop} {as : List α} {bs : List β} (h : All2 R as bs) : ∀ (i : Nat) (h1 : i < as.length) (h2 : i < bs.length), R as[i] bs[i] := by
  induction h with
  | nil => intro i h1; exact absurd h1 (Nat.not_lt_zero _)
  | cons r _ ih =>
    intro i h1 h2
    cases i with
    | zero => exact r
    | succ i => exact ih i (Nat.lt_of_succ_lt_succ h1) (Nat.lt_of_succ_lt_succ h2)
theorem All2.drop {α β : Type} {R : α → β → Prop} {as : List α} {bs : List β} (h : All2 R as bs) : ∀ i : Nat, All2 R (as.drop i) (bs.drop i) := by
  induction h with
  | nil => intro i; simp; exact .nil
  | cons r k ih =>
    intro i
    cases i with
    | zero => exact .cons r k
    | succ i => exact ih i

/-- the state grows: nothing that stood has changed -/
structure Grow (s s' : Shared) : Prop where
  keep : ∀ b o, s.heap.get? b = some o → s'.heap.get? b = some o
  os : s'.os = s.os
  gens : s'.gens = s.gens
theorem Grow.refl (s : Shared) : Grow s s := ⟨fun _ _ e => e, rfl, rfl⟩
theorem Grow.trans {a b c : Shared} (x : Grow a b) (y : Grow b c) : Grow a c := ⟨fun d o e => y.keep d o (x.keep d o e), y.os.trans x.os, y.gens.trans x.gens⟩
theorem Grow.toks (s : Shared) (t : Nat) : Grow s { s with toks := t } := ⟨fun _ _ e => e, rfl, rfl⟩
theorem Grow.push (s : Shared) (o : Obj) (t : Nat) : Grow s { s with heap := s.heap.push o, toks := t } := ⟨fun _ _ e => Heap.get?_push_of_some _ e, rfl, rfl⟩

/-- all but the object at L stands -/
structure ExL (L : Addr) (s s' : Shared) : Prop where
  keep : ∀ b o, b ≠ L → s.heap.get? b = some o → s'.heap.get? b = some o
  os : s'.os = s.os
  gens : s'.gens = s.gens
theorem ExL.refl (L : Addr) (s : Shared) : ExL L s s := ⟨fun _ _ _ e => e, rfl, rfl⟩
theorem ExL.trans {L : Addr} {a b c : Shared} (x : ExL L a b) (y : ExL L b c) : ExL L a c := ⟨fun d o n e => y.keep d o n (x.keep d o n e), y.os.trans x.os, y.gens.trans x.gens⟩
theorem Grow.exL {L : Addr} {a b : Shared} (x : Grow a b) : ExL L a b := ⟨fun d o _ e => x.keep d o e, x.os, x.gens⟩

theorem frGrow {h₀ : Heap} {L : Addr} {s s' : Shared} {m : Str → Option Value} (F : Fr h₀ L s.heap m) (g : Grow s s') : Fr h₀ L s'.heap m :=
  ⟨F.ns.keeps g.keep, fun b o e => g.keep b o (F.keep b o e), F.above⟩
theorem kpGrow {S : List Addr} {h₀ : Heap} {s s' : Shared} (k : Kp S h₀ s.heap) (g : Grow s s') : Kp S h₀ s'.heap := k.trans (.of_keep g.keep)
theorem kpExL {S : List Addr} {h₀ : Heap} {L : Addr} {s s' : Shared} (k : Kp S h₀ s.heap) (g : ExL L s s') (n : h₀.get? L = none) : Kp S h₀ s'.heap :=
  ⟨fun b o e nS => g.keep b o (fun q => by rw [q, n] at e; cases e) (k.keep b o e nS),
   fun b o e => let ⟨sl, q⟩ := k.slot b o e; ⟨sl, g.keep b _ (fun q => by rw [q, n] at e; cases e) q⟩⟩
theorem hdOff {A : Around} {L : Addr} {s s' : Shared} (x : Hd A s.heap) (g : ExL L s s') (hL : ∃ o, s.heap.get? L = some o ∧ ∀ vs, o.data ≠ .fields vs) : Hd A s'.heap := by
  obtain ⟨oL, q1, q2⟩ := hL
  refine x.imp id fun ⟨e, o, vs, a, b, c, d⟩ => ⟨e, o, vs, a, g.keep _ _ (fun q => ?_) b, c, d.imp id fun ⟨e1, o1, vs1, r1, r2, r3, r4, r5⟩ => ⟨e1, o1, vs1, r1, r2, g.keep _ _ (fun q => ?_) r3, r4, r5⟩⟩
  · rw [q, q1] at b; cases b; exact q2 _ c
  · rw [q, q1] at r3; cases r3; exact q2 _ r4
theorem hdExL {A : Around} {L : Addr} {s s' : Shared} (x : Hd A s.heap) (g : ExL L s s') (hL : ∃ es n o, s.heap.get? L = some o ∧ o.data = .dict es n) : Hd A s'.heap :=
  hdOff x g (by
    obtain ⟨es, n, o, h1, h2⟩ := hL
    exact ⟨o, h1, fun vs q => by rw [h2] at q; cases q⟩)
theorem frDict {h₀ : Heap} {L : Addr} {h : Heap} {m : Str → Option Value} (F : Fr h₀ L h m) : ∃ es n o, h.get? L = some o ∧ o.data = .dict es n := by
  obtain ⟨o, es, ep, ho, hd, _⟩ := F.ns
  exact ⟨es, ep, o, ho, hd⟩

section
variable {M : Model} {A : Around} {E : Value → Shared → Prop} {s : Shared} {name : Str} {scope : Scope} {L a : Addr} {cd : Value} {h₀ : Heap} {m : Str → Option Value}

theorem st_ {x : Str} {v : Value} {Q : Unit → Shared → Prop} (F : Fr h₀ L s.heap m)
    (h : ∀ s', Fr h₀ L s'.heap (upd m x v) → ExL L s s' → Q () s')
    (hk : scope.kind = .function := by rfl) (hl : (envOf name scope L a cd).kindOf x = some .local := by rfl) :
    wpAny M A (storeName (envOf name scope L a cd) x v) Q E s :=
  wpAny_storeName_local hl F.ns (fun _ hn hs => h _ (F.set hn hs) ⟨fun b _ n e => (hs.2 b n).trans e, rfl, rfl⟩)
    (by show (scope.kind == .class || (scope.kind == .module && L != mainGlobals)) = false; rw [hk]; rfl)
end

/-- a sequence value (a list, a text) that a function reads: its items, its end, its rest from i on -/
structure Sq (prog : Program) (w : World) {α : Type} (S : List Addr) (h₀ : Heap) (Rep : Value → α → Prop) (V : Value) (X : List α) : Prop where
  len : X.length < 100000
  get : ∀ {A : Around} {E : Value → Shared → Prop} {s : Shared} {Q : Value → Shared → Prop} {value : Expr} {x : Str} {p : Pos} {i : Nat} {t : Tok} (_ : Kp S h₀ s.heap) (hi : i < X.length)
    (_ : ∀ v s', Grow s s' → Rep v X[i] → Q v s'), wpAny (model prog w) A (subscriptTail value (.Name x p) V (.int i t)) Q E s
  out : ∀ {A : Around} {E : Value → Shared → Prop} {s : Shared} {S' : List Addr} {Q : Value → Shared → Prop} {value : Expr} {x : Str} {p : Pos} {i : Nat} {t : Tok} (_ : Kp S h₀ s.heap) (_ : Hd A s.heap) (_ : X.length ≤ i) (_ : i < 200000)
    (_ : ∀ h' tk e c, Fly s.heap.get? S' e "IndexError" false c h' → c = A.handled.getD .none → E (.ref e) { s with heap := h', toks := tk }),
    wpAny (model prog w) A (subscriptTail value (.Name x p) V (.int i t)) Q E s
  cut : ∀ {A : Around} {E : Value → Shared → Prop} {s : Shared} {Q : Value → Shared → Prop} {value : Expr} {lo : Option Expr} {p : Pos} {i : Nat} {t : Tok} {sl aM : Addr} {ms : List Value} {n : Nat} (_ : Kp S h₀ s.heap) (_ : A.units < 9000) (_ : Hd A s.heap)
    (_ : s.heap.IsSliceOf sl (.int i t) .none .none) (_ : i ≤ X.length) (_ : s.heap.get? aM = some (listOf ms.toArray n)) (_ : ms.length < 100000) (_ : h₀.get? aM = none)
    (_ : ∀ s' vs n', ExL aM s s' → s'.heap.get? aM = some (listOf (ms ++ vs).toArray n') → All2 Rep vs (X.drop i) → Q .none s'),
    wpAny (model prog w) A (subscriptTail value (.Slice lo none none p) V (.ref sl)) (fun W s₁ => wpAny (model prog w) A (call (.builtin "list.extend") [.ref aM, W]) Q E s₁) E s

/-- equality of two items -/
def EqOk (prog : Program) (w : World) {α : Type} (S : List Addr) (h₀ : Heap) (Rep : Value → α → Prop) (eq : α → α → Bool) : Prop :=
  ∀ {A : Around} {E : Value → Shared → Prop} {s : Shared} {Q : Value → Shared → Prop} {v u : Value} {x y : α}, Kp S h₀ s.heap → A.units < 9000 → Rep v x → Rep u y →
    (∀ s', Grow s s' → Q (.bool (eq x y)) s') → wpAny (model prog w) A (compareOp .Eq v u) Q E s

section
variable {prog : Program} {w : World} {α : Type} {S : List Addr} {base h₀ : Heap} {Rep : Value → α → Prop} {V : Value} {X : List α} {eq : α → α → Bool}
  {A : Around} {E : Value → Shared → Prop} {s : Shared} {name : Str} {scope : Scope} {L a : Addr} {cd : Value} {m : Str → Option Value} {outer : List Env}

theorem mkFrames {h : Heap} (B0 : h₀.FunFrames base outer) (kp : Kp S h₀ h) (F : Fr base L h m) (hk : scope.kind = .function := by rfl) : h.FunFrames base (envOf name scope L a cd :: outer) :=
  .cons (by show scope.kind ≠ .module; rw [hk]; decide) rfl F.ns (by
    cases hq : base.get? L with
    | none => rfl
    | some o => exact absurd (Nat.lt_of_lt_of_le (Heap.lt_size hq) F.above) (Nat.lt_irrefl _)) (kp.frames B0)

theorem frKp {h h' : Heap} (F : Fr base L h m) (k : Kp (L :: S) h h') (hS : ∀ b ∈ S, base.get? b = none) : Fr base L h' m := by
  refine ⟨k.ns F.ns, fun b o e => k.keep b o (F.keep b o e) fun q => ?_, F.above⟩
  rcases List.mem_cons.mp q with q | q
  · exact absurd (Nat.lt_of_lt_of_le (Heap.lt_size e) F.above) (by rw [q]; exact Nat.lt_irrefl _)
  · rw [hS b q] at e; cases e

theorem kpDrop {h h' : Heap} (k : Kp S h₀ h) (k' : Kp (L :: S) h h') (hn : h₀.get? L = none) : Kp S h₀ h' := by
  refine ⟨fun b o e n => k'.keep b o (k.keep b o e n) fun q => ?_, fun b o e => let ⟨_, e₁⟩ := k.slot b o e; let ⟨sl, e₂⟩ := k'.slot b _ e₁; ⟨sl, e₂⟩⟩
  rcases List.mem_cons.mp q with q | q
  · rw [q, hn] at e; cases e
  · exact n q
theorem mkFramesX {h h' : Heap} (B0 : h₀.FunFrames base outer) (kp : Kp (outer.filterMap (·.frame)) h₀ h) (F : Fr base L h m) (k' : Kp (L :: outer.filterMap (·.frame)) h h') (hn : h₀.get? L = none) (hk : scope.kind = .function := by rfl) :
    h'.FunFrames base (envOf name scope L a cd :: outer) :=
  mkFrames B0 (kpDrop kp k' hn) (frKp F k' fun _ hb => (B0.mem hb).1) hk

/-- «while xs[ix] == el: ix += 1» -/
theorem inner {xs ix el : Str} {p1 p2 p3 p4 p5 p6 p7 p8 p9 : Pos} {k : Nat} {i : Nat} {ti : Tok} {ve : Value} {x0 : α} {Q : Flow → Shared → Prop}
    (Z : Sq prog w S h₀ Rep V X) (hq : EqOk prog w S h₀ Rep eq) (hS : S = outer.filterMap (·.frame)) (hu : A.units < 8000)
    (hfr : A.frames = some (envOf name scope L a cd :: outer)) (B0 : h₀.FunFrames base outer) (hn : h₀.get? L = none)
    (kp : Kp S h₀ s.heap) (F : Fr base L s.heap m) (hd : Hd A s.heap)
    (mx : m xs = some V) (mi : m ix = some (.int i ti)) (me : m el = some ve) (rx : Rep ve x0) (hi : i ≤ X.length)
    (hQ : ∀ s' m' i' ti', Fr base L s'.heap m' → ExL L s s' → (∀ y, y ≠ ix → m' y = m y) → m' ix = some (.int (i' : Nat) ti') → i ≤ i' → i' < X.length →
      X.drop i' = (X.drop i).dropWhile (fun x => eq x x0) → Q .next s')
    (hE : ∀ sm s' m' ti' e c, Fr base L sm.heap m' → ExL L s sm → (∀ y, y ≠ ix → m' y = m y) → m' ix = some (.int (X.length : Nat) ti') →
      [] = (X.drop i).dropWhile (fun x => eq x x0) → Fly sm.heap.get? (L :: S) e "IndexError" true c s'.heap → s'.heap.FunFrames base (envOf name scope L a cd :: outer) → s'.os = sm.os → s'.gens = sm.gens → c = A.handled.getD .none → E (.ref e) s')
    (nxi : xs ≠ ix) (nei : el ≠ ix)
    (hk : scope.kind = .function := by rfl) (kx : (envOf name scope L a cd).kindOf xs = some .local := by rfl) (ki : (envOf name scope L a cd).kindOf ix = some .local := by rfl) (ke : (envOf name scope L a cd).kindOf el = some .local := by rfl)
    (dx : (xs == ("__debug__" : Str)) = false := by decide) (di : (ix == ("__debug__" : Str)) = false := by decide) (de : (el == ("__debug__" : Str)) = false := by decide) :
    wpAny (model prog w) A (exec (.While (.Compare (.Subscript (.Name xs p1) (.Name ix p2) p3) [.Eq] [.Name el p4] p5) [.AugAssign (.Name ix p6) .Add (.Constant (.int 1) k p7) p8] [] p9) (envOf name scope L a cd)) Q E s := by
  subst hS
  refine wpAny_While (codeAny_whileLoop (fun n s₁ => ∃ m₁ i₁ t₁, Fr base L s₁.heap m₁ ∧ ExL L s s₁ ∧ (∀ y, y ≠ ix → m₁ y = m y) ∧ m₁ ix = some (.int (i₁ : Nat) t₁) ∧ i ≤ i₁ ∧ i₁ ≤ X.length ∧
      (X.drop i₁).dropWhile (fun x => eq x x0) = (X.drop i).dropWhile (fun x => eq x x0) ∧ n = X.length - i₁) ?_ (X.length - i) ⟨m, i, ti, F, .refl _ _, fun _ _ => rfl, mi, Nat.le_refl _, hi, rfl, rfl⟩)
  rintro n s₁ ⟨m₁, i₁, t₁, F₁, g₁, em, e1, l1, l2, dw, rfl⟩
  have kp₁ := kpExL kp g₁ hn
  have hd₁ := hdExL hd g₁ (frDict F)
  have lx := Z.len
  refine wpAny_isTrue_Compare1 (Subscript_ (ld F₁ ((em xs nxi).trans mx) (ld F₁ e1 ?_ hk ki di) hk kx dx)) (by with_unfolding_all rfl)
  by_cases hlt : i₁ < X.length
  · refine Z.get kp₁ hlt fun v s₂ g₂ rv => ?_
    have F₂ := frGrow F₁ g₂
    refine ld F₂ ((em el nei).trans me) ?_ hk ke de
    refine hq (kpGrow kp₁ g₂) (by omega) rv rx fun s₃ g₃ => wpAny_truthy_bool ?_
    have F₃ := frGrow F₂ g₃
    have g13 := g₁.trans (g₂.trans g₃).exL
    have dc : X.drop i₁ = X[i₁] :: X.drop (i₁ + 1) := List.drop_eq_getElem_cons hlt
    cases hb : eq X[i₁] x0 with
    | false =>
      rw [if_neg (by decide)]
      refine wpAny_execs_nil (hQ _ m₁ i₁ t₁ F₃ g13 em e1 l1 hlt ?_)
      rw [← dw, dc, List.dropWhile_cons, if_neg (by rw [hb]; decide)]
    | true =>
      rw [if_pos rfl]
      refine wpAny_execs_cons (wpAny_AugAssign_Name (ldn F₃ e1 (wpAny_Constant_int (AutoIntOps.iadd_0 ?_)) hk ki))
      refine st_ (s := _) (frGrow (frGrow F₃ (Grow.toks _ _)) (Grow.toks _ _)) (fun s₄ F₄ g₄ => ?_) hk ki
      refine wpAny_execs_nil ⟨X.length - (i₁ + 1), by omega, _, i₁ + 1, _, F₄, ?_, fun y hy => upd_ne hy (em y hy), upd_same, by omega, by omega, ?_, rfl⟩
      · exact g13.trans ⟨fun b o n e => g₄.keep b o n e, g₄.os, g₄.gens⟩
      · rw [← dw, dc, List.dropWhile_cons, if_pos hb]
  · have he : i₁ = X.length := by omega
    subst he
    refine Z.out (S' := L :: outer.filterMap (·.frame)) kp₁ hd₁ (Nat.le_refl _) (by omega) fun h' tk e c fl hc => ?_
    have FFm := mkFramesX (name := name) (a := a) (cd := cd) B0 kp₁ F₁ fl.kp hn hk
    refine noted_ (hm := s₁.heap.get?) (L := L) hfr FFm rfl fl fun h₂ fl₂ FF₂ => ?_
    refine came_ fl₂ FF₂ fun h₃ fl₃ FF₃ => ?_
    refine hE s₁ _ m₁ t₁ e c F₁ g₁ em e1 ?_ fl₃ FF₃ rfl rfl hc
    rw [← dw]; simp
end

theorem dropWhile_len {α : Type} (p : α → Bool) : ∀ l : List α, (l.dropWhile p).length ≤ l.length
  | [] => Nat.le_refl _
  | x :: l => by
    rw [List.dropWhile_cons]
    split
    · exact Nat.le_trans (dropWhile_len p l) (Nat.le_succ _)
    · exact Nat.le_refl _

/-- what sorted_list_difference reckons -/
def sld {α : Type} (lt : α → α → Option Bool) (gt eq : α → α → Bool) (xs ys : List α) : Option (List α × List α) :=
  match xs, ys with
  | [], ys => some ([], ys)
  | x :: xs, [] => some (x :: xs, [])
  | x :: xs, y :: ys =>
    match lt x y with
    | none => none
    | some true => (sld lt gt eq (xs.dropWhile fun z => eq z x) (y :: ys)).map fun r => (x :: r.1, r.2)
    | some false =>
      if gt x y then (sld lt gt eq (x :: xs) (ys.dropWhile fun z => eq z y)).map fun r => (r.1, y :: r.2)
      else sld lt gt eq (xs.dropWhile fun z => eq z x) (ys.dropWhile fun z => eq z y)
termination_by xs.length + ys.length
decreasing_by
  · have := dropWhile_len (fun z => eq z x) xs; simp only [List.length_cons]; omega
  · have := dropWhile_len (fun z => eq z y) ys; simp only [List.length_cons]; omega
  · have := dropWhile_len (fun z => eq z x) xs; have := dropWhile_len (fun z => eq z y) ys; simp only [List.length_cons]; omega

section
variable {α : Type} {lt : α → α → Option Bool} {gt eq : α → α → Bool}
theorem sld_nil (ys : List α) : sld lt gt eq [] ys = some ([], ys) := by rw [sld]
theorem sld_nil' (xs : List α) : sld lt gt eq xs [] = some (xs, []) := by cases xs <;> rw [sld]
theorem sld_cons (x y : α) (xs ys : List α) : sld lt gt eq (x :: xs) (y :: ys) = match lt x y with
    | none => none
    | some true => (sld lt gt eq (xs.dropWhile fun z => eq z x) (y :: ys)).map fun r => (x :: r.1, r.2)
    | some false =>
      if gt x y then (sld lt gt eq (x :: xs) (ys.dropWhile fun z => eq z y)).map fun r => (r.1, y :: r.2)
      else sld lt gt eq (xs.dropWhile fun z => eq z x) (ys.dropWhile fun z => eq z y) := by rw [sld]
end

/-- the comparisons of two items -/
def LtOk (prog : Program) (w : World) {α : Type} (S : List Addr) (h₀ : Heap) (Rep : Value → α → Prop) (lt : α → α → Option Bool) : Prop :=
  ∀ {A : Around} {E : Value → Shared → Prop} {s : Shared} {Q : Value → Shared → Prop} {v u : Value} {x y : α}, Kp S h₀ s.heap → A.units < 9000 → A.handled = none → Rep v x → Rep u y →
    (∀ b, lt x y = some b → ∀ s', Grow s s' → Q (.bool b) s') → (lt x y = none → ∀ h' tk e, Heap.NewExc s.heap h' e "TypeError" → E (.ref e) { s with heap := h', toks := tk }) →
    wpAny (model prog w) A (compareOp .Lt v u) Q E s
def GtOk (prog : Program) (w : World) {α : Type} (S : List Addr) (h₀ : Heap) (Rep : Value → α → Prop) (lt : α → α → Option Bool) (gt : α → α → Bool) : Prop :=
  ∀ {A : Around} {E : Value → Shared → Prop} {s : Shared} {Q : Value → Shared → Prop} {v u : Value} {x y : α}, Kp S h₀ s.heap → A.units < 9000 → A.handled = none → Rep v x → Rep u y → lt x y = some false →
    (∀ s', Grow s s' → Q (.bool (gt x y)) s') → wpAny (model prog w) A (compareOp .Gt v u) Q E s

/-- a name that the builtins hold; one that the module holds -/
def Bn (base : Heap) (x : Str) (v : Value) : Prop := ∃ mg mb, base.Ns mainGlobals mg ∧ mg x = none ∧ base.Ns builtinsNs mb ∧ mb x = some v
def Gn (base : Heap) (x : Str) (v : Value) : Prop := ∃ mg, base.Ns mainGlobals mg ∧ mg x = some v

theorem frExL {base : Heap} {L D : Addr} {s s' : Shared} {m : Str → Option Value} (F : Fr base L s.heap m) (g : ExL D s s') (hL : L ≠ D) (hb : base.get? D = none) : Fr base L s'.heap m := by
  obtain ⟨o, es, ep, ho, r⟩ := F.ns
  exact ⟨⟨o, es, ep, g.keep _ _ hL ho, r⟩, fun b o e => g.keep _ _ (fun q => by rw [q, hb] at e; cases e) (F.keep b o e), F.above⟩

section
variable {prog : Program} {w : World} {A : Around} {E : Value → Shared → Prop} {s : Shared} {name : Str} {scope : Scope} {L a : Addr} {cd : Value} {base : Heap} {m : Str → Option Value}

theorem nameB {x : Str} {v : Value} {pos : Pos} {Q : Value → Shared → Prop} (F : Fr base L s.heap m) (B : Bn base x v) (h : Q v s)
    (hk : scope.kind = .function := by rfl) (hx : (envOf name scope L a cd).kindOf x = some .globalImplicit := by rfl) (hd : (x == ("__debug__" : Str)) = false := by decide) :
    wpAny (model prog w) A (eval (.Name x pos) (envOf name scope L a cd)) Q E s :=
  let ⟨_, _, g, n, b, v'⟩ := B; ld_builtin_at F g n b v' h hk hx hd
theorem nameG {x : Str} {v : Value} {pos : Pos} {Q : Value → Shared → Prop} (F : Fr base L s.heap m) (B : Gn base x v) (h : Q v s)
    (hk : scope.kind = .function := by rfl) (hx : (envOf name scope L a cd).kindOf x = some .globalImplicit := by rfl) (hd : (x == ("__debug__" : Str)) = false := by decide) :
    wpAny (model prog w) A (eval (.Name x pos) (envOf name scope L a cd)) Q E s :=
  let ⟨_, g, v'⟩ := B; ld_global_at F g v' h hk hx hd

/-- «xs.append(e)» as a statement -/
theorem append_ {on : Str} {e : Expr} {pl : Sem Bool} {p p1 p2 p3 : Pos} {D : Addr} {ms : List Value} {n : Nat} {Q : Flow → Shared → Prop} (F : Fr base L s.heap m) (mo : m on = some (.ref D)) (hD : s.heap.get? D = some (listOf ms.toArray n))
    (hsz : ms.length < 1000000)
    (he : wpAny (model prog w) A (eval e (envOf name scope L a cd)) (fun v s₁ => Grow s s₁ ∧ ∀ s', ExL D s₁ s' → s'.heap.get? D = some (listOf (ms ++ [v]).toArray (n + 1)) → Q .next s') E s)
    (hc : eval (.Call (.Attribute (.Name on p) "append" p1) [e] [] p2) (envOf name scope L a cd) = (do
      let ov ← eval (.Name on p) (envOf name scope L a cd)
      standAt p1.atName
      let (f, first) ← holding [ov] (getMethod ov "append" pl)
      callWith p2 f first (backTo p2 (starEach [e] (envOf name scope L a cd))) []) := by rfl)
    (hs : starEach [e] (envOf name scope L a cd) = [(false, eval e (envOf name scope L a cd))] := by rfl)
    (hk : scope.kind = .function := by rfl) (hl : (envOf name scope L a cd).kindOf on = some .local := by rfl) (hd : (on == ("__debug__" : Str)) = false := by decide) (hi : interactive (envOf name scope L a cd) = false := by rfl) :
    wpAny (model prog w) A (exec (.Expr (.Call (.Attribute (.Name on p) "append" p1) [e] [] p2) p3) (envOf name scope L a cd)) Q E s := by
  refine wpAny_Expr_any (MethodCall_ (ld F mo ?_ hk hl hd) hc) hi rfl
  refine getMethod_builtin ⟨_, hD, rfl⟩ PySem.F.plainAttrs_list slot_list_append PySem.F.type_list_append (fun x q => by cases q; exact ⟨_, hD, rfl⟩) ?_
  refine callWith_method1 (spliced_more (wpAny_mono he (fun v s₁ ⟨g, h⟩ => spliced_none ?_) fun _ _ x => x) hs) hs rfl
  refine append_at (g.keep _ _ hD) (fun h' sb hD' => h _ ⟨fun b o n q => (sb.2 b n).trans q, rfl, rfl⟩ ?_) ?_
  · have q : ms.toArray.push v = (ms ++ [v]).toArray := by simp
    rw [q] at hD'; exact hD'
  · rw [List.size_toArray, sizeLine_eq]; omega

/-- «xs.extend(V[ix:])» as a statement -/
theorem extendCut {α : Type} {S : List Addr} {h₀ : Heap} {Rep : Value → α → Prop} {V : Value} {X : List α} {on xs ix : Str} {pl : Sem Bool} {p p1 p2 p3 q1 q2 q3 q4 : Pos} {D : Addr} {ms : List Value} {n i : Nat} {ti : Tok} {Q : Flow → Shared → Prop}
    (Z : Sq prog w S h₀ Rep V X) (kp : Kp S h₀ s.heap) (hu : A.units < 9000) (hdd : Hd A s.heap) (F : Fr base L s.heap m) (mo : m on = some (.ref D)) (hD : s.heap.get? D = some (listOf ms.toArray n)) (hsz : ms.length < 100000) (nD : h₀.get? D = none)
    (mx : m xs = some V) (mi : m ix = some (.int (i : Nat) ti)) (hi' : i ≤ X.length)
    (h : ∀ s' vs n', ExL D s s' → s'.heap.get? D = some (listOf (ms ++ vs).toArray n') → All2 Rep vs (X.drop i) → Q .next s')
    (hc : eval (.Call (.Attribute (.Name on p) "extend" p1) [.Subscript (.Name xs q1) (.Slice (some (.Name ix q2)) none none q3) q4] [] p2) (envOf name scope L a cd) = (do
      let ov ← eval (.Name on p) (envOf name scope L a cd)
      standAt p1.atName
      let (f, first) ← holding [ov] (getMethod ov "extend" pl)
      callWith p2 f first (backTo p2 (starEach [.Subscript (.Name xs q1) (.Slice (some (.Name ix q2)) none none q3) q4] (envOf name scope L a cd))) []) := by rfl)
    (hk : scope.kind = .function := by rfl) (hl : (envOf name scope L a cd).kindOf on = some .local := by rfl) (hd : (on == ("__debug__" : Str)) = false := by decide) (hi : interactive (envOf name scope L a cd) = false := by rfl)
    (kx : (envOf name scope L a cd).kindOf xs = some .local := by rfl) (ki : (envOf name scope L a cd).kindOf ix = some .local := by rfl)
    (dx : (xs == ("__debug__" : Str)) = false := by decide) (di : (ix == ("__debug__" : Str)) = false := by decide) :
    wpAny (model prog w) A (exec (.Expr (.Call (.Attribute (.Name on p) "extend" p1) [.Subscript (.Name xs q1) (.Slice (some (.Name ix q2)) none none q3) q4] [] p2) p3) (envOf name scope L a cd)) Q E s := by
  refine wpAny_Expr_any (MethodCall_ (ld F mo ?_ hk hl hd) hc) hi rfl
  refine getMethod_builtin ⟨_, hD, rfl⟩ PySem.F.plainAttrs_list PySem.F.slot_list_extend PySem.F.type_list_extend (fun x q => by cases q; exact ⟨_, hD, rfl⟩) ?_
  refine callWith_method1 (spliced_more (Subscript_ (ld F mx (wpAny_Slice ?_) hk kx dx)) rfl) rfl rfl
  rw [evalPart_some, evalPart_none]
  refine ld F mi (wpAny_pure (wpAny_pure ?_)) hk ki di
  have g : Grow s { s with heap := s.heap.push { cls := .type "slice", data := .fields #[.int (i : Nat) ti, .none, .none] } } := ⟨fun _ _ e => Heap.get?_push_of_some _ e, rfl, rfl⟩
  refine wpAny_mono (Z.cut (E := E) (aM := D) (kpGrow kp g) hu (hdd.keep g.keep) (Heap.IsSliceOf.new ..) hi' (g.keep _ _ hD) hsz nD (Q := fun _ s' => Q .next s') fun s' vs n' g' hD' av => h s' vs n' ((g.exL).trans g') hD' av) (fun W s₁ hW => spliced_none ?_) fun _ _ x => x
  exact hW
end

def stmtAt (p : Program) (i : Nat) : Stmt := p.main.body.getD i (.Pass ⟨0, 0, 0, 0⟩)
def bodyOf : Stmt → List Stmt
  | .FunctionDef _ _ b _ _ _ _ _ _ _ => b
  | .While _ b _ _ => b
  | .Try b _ _ _ _ => b
  | .For _ _ b _ _ => b
  | _ => []
def scopeOf : Stmt → Scope
  | .FunctionDef _ _ _ _ _ _ sc _ _ _ => sc
  | _ => default
def paramsOf : Stmt → Arguments
  | .FunctionDef _ ps _ _ _ _ _ _ _ _ => ps
  | _ => default
def handlersOf : Stmt → List ExceptHandler
  | .Try _ hs _ _ _ => hs
  | _ => []
def nth (l : List Stmt) (i : Nat) : Stmt := l.getD i (.Pass ⟨0, 0, 0, 0⟩)
def sldBody : List Stmt := bodyOf (stmtAt PySem.Challenge.pw_dn0234_02 1)
def sldScope : Scope := scopeOf (stmtAt PySem.Challenge.pw_dn0234_02 1)
def sldTry : Stmt := nth (bodyOf (nth sldBody 3)) 0
abbrev sldEnv (L f : Addr) (cd : Value) : Env := envOf "sorted_list_difference" sldScope L f cd

/-- what the call has made and what stands -/
structure Co (S : List Addr) (h₀ : Heap) (s₀ : Shared) (aM aU : Addr) (s : Shared) (ms us : List Value) : Prop where
  kp : Kp S h₀ s.heap
  M : ∃ n, s.heap.get? aM = some (listOf ms.toArray n)
  U : ∃ n, s.heap.get? aU = some (listOf us.toArray n)
  os : s.os = s₀.os
  gens : s.gens = s₀.gens

section
variable {S : List Addr} {h₀ : Heap} {s₀ s s' : Shared} {L aM aU : Addr} {ms us : List Value}
theorem Co.exL (c : Co S h₀ s₀ aM aU s ms us) (g : ExL L s s') (hn : h₀.get? L = none) (hM : aM ≠ L) (hU : aU ≠ L) : Co S h₀ s₀ aM aU s' ms us :=
  ⟨kpExL c.kp g hn, c.M.imp fun _ q => g.keep _ _ hM q, c.U.imp fun _ q => g.keep _ _ hU q, g.os.trans c.os, g.gens.trans c.gens⟩
theorem Co.grow (c : Co S h₀ s₀ aM aU s ms us) (g : Grow s s') : Co S h₀ s₀ aM aU s' ms us :=
  ⟨kpGrow c.kp g, c.M.imp fun _ q => g.keep _ _ q, c.U.imp fun _ q => g.keep _ _ q, g.os.trans c.os, g.gens.trans c.gens⟩
theorem Co.fly (c : Co S h₀ s₀ aM aU s ms us) (k : Kp (L :: S) s.heap s'.heap) (os : s'.os = s.os) (gens : s'.gens = s.gens) (hn : h₀.get? L = none) (hM : aM ∉ L :: S) (hU : aU ∉ L :: S) : Co S h₀ s₀ aM aU s' ms us :=
  ⟨kpDrop c.kp k hn, c.M.imp fun _ q => k.keep _ _ q hM, c.U.imp fun _ q => k.keep _ _ q hU, os.trans c.os, gens.trans c.gens⟩
theorem Co.setM {ms' : List Value} {n : Nat} (c : Co S h₀ s₀ aM aU s ms us) (g : ExL aM s s') (hq : s'.heap.get? aM = some (listOf ms'.toArray n)) (hn : h₀.get? aM = none) (hU : aU ≠ aM) : Co S h₀ s₀ aM aU s' ms' us :=
  ⟨kpExL c.kp g hn, ⟨n, hq⟩, c.U.imp fun _ q => g.keep _ _ hU q, g.os.trans c.os, g.gens.trans c.gens⟩
theorem Co.setU {us' : List Value} {n : Nat} (c : Co S h₀ s₀ aM aU s ms us) (g : ExL aU s s') (hq : s'.heap.get? aU = some (listOf us'.toArray n)) (hn : h₀.get? aU = none) (hM : aM ≠ aU) : Co S h₀ s₀ aM aU s' ms us' :=
  ⟨kpExL c.kp g hn, c.M.imp fun _ q => g.keep _ _ hM q, ⟨n, hq⟩, g.os.trans c.os, g.gens.trans c.gens⟩
end

/-- the six names that the loop turns on -/
structure Lk (V1 V2 : Value) (aM aU : Addr) (m : Str → Option Value) (i j : Nat) (ti tj : Tok) : Prop where
  x : m "expected" = some V1
  y : m "actual" = some V2
  M : m "missing" = some (.ref aM)
  U : m "unexpected" = some (.ref aU)
  i : m "i" = some (.int (i : Nat) ti)
  j : m "j" = some (.int (j : Nat) tj)

section
variable {V1 V2 : Value} {aM aU : Addr} {m m' : Str → Option Value} {i j i' j' : Nat} {ti tj ti' tj' : Tok}
theorem Lk.setI (k : Lk V1 V2 aM aU m i j ti tj) (h : ∀ y, y ≠ ("i" : Str) → m' y = m y) (hi : m' "i" = some (.int (i' : Nat) ti')) : Lk V1 V2 aM aU m' i' j ti' tj :=
  ⟨(h _ (by decide)).trans k.x, (h _ (by decide)).trans k.y, (h _ (by decide)).trans k.M, (h _ (by decide)).trans k.U, hi, (h _ (by decide)).trans k.j⟩
theorem Lk.setJ (k : Lk V1 V2 aM aU m i j ti tj) (h : ∀ y, y ≠ ("j" : Str) → m' y = m y) (hj : m' "j" = some (.int (j' : Nat) tj')) : Lk V1 V2 aM aU m' i j' ti tj' :=
  ⟨(h _ (by decide)).trans k.x, (h _ (by decide)).trans k.y, (h _ (by decide)).trans k.M, (h _ (by decide)).trans k.U, (h _ (by decide)).trans k.i, hj⟩
theorem Lk.setE (k : Lk V1 V2 aM aU m i j ti tj) (v : Value) : Lk V1 V2 aM aU (upd m "e" v) i j ti tj :=
  ⟨upd_ne (by decide) k.x, upd_ne (by decide) k.y, upd_ne (by decide) k.M, upd_ne (by decide) k.U, upd_ne (by decide) k.i, upd_ne (by decide) k.j⟩
theorem Lk.setA (k : Lk V1 V2 aM aU m i j ti tj) (v : Value) : Lk V1 V2 aM aU (upd m "a" v) i j ti tj :=
  ⟨upd_ne (by decide) k.x, upd_ne (by decide) k.y, upd_ne (by decide) k.M, upd_ne (by decide) k.U, upd_ne (by decide) k.i, upd_ne (by decide) k.j⟩
end

/-- where the reckoning stands -/
def Ma {α : Type} (Rep : Value → α → Prop) (lt : α → α → Option Bool) (gt eq : α → α → Bool) (X Y : List α) (i j : Nat) (ms us : List Value) : Prop :=
  ∃ am au, All2 Rep ms am ∧ All2 Rep us au ∧ am.length ≤ i ∧ au.length ≤ j ∧ sld lt gt eq X Y = (sld lt gt eq (X.drop i) (Y.drop j)).map fun r => (am ++ r.1, au ++ r.2)
def Fi {α : Type} (Rep : Value → α → Prop) (lt : α → α → Option Bool) (gt eq : α → α → Bool) (X Y : List α) (ms us : List Value) : Prop :=
  ∃ r, sld lt gt eq X Y = some r ∧ All2 Rep ms r.1 ∧ All2 Rep us r.2

section
variable {α : Type} {Rep : Value → α → Prop} {lt : α → α → Option Bool} {gt eq : α → α → Bool} {X Y : List α} {i j : Nat} {ms us vs ws : List Value}
theorem Ma.fin (h : Ma Rep lt gt eq X Y i j ms us) (e : i = X.length ∨ j = Y.length) (a : All2 Rep vs (X.drop i)) (b : All2 Rep ws (Y.drop j)) : Fi Rep lt gt eq X Y (ms ++ vs) (us ++ ws) := by
  obtain ⟨am, au, h1, h2, _, _, h3⟩ := h
  refine ⟨(am ++ X.drop i, au ++ Y.drop j), ?_, h1.append a, h2.append b⟩
  rw [h3]
  rcases e with rfl | rfl
  · rw [List.drop_length, sld_nil]; rfl
  · rw [List.drop_length, sld_nil']; rfl
theorem Ma.lenM (h : Ma Rep lt gt eq X Y i j ms us) : ms.length ≤ i := by
  obtain ⟨am, au, h1, _, h2, _⟩ := h; rw [h1.length]; exact h2
theorem Ma.lenU (h : Ma Rep lt gt eq X Y i j ms us) : us.length ≤ j := by
  obtain ⟨am, au, _, h1, _, h2, _⟩ := h; rw [h1.length]; exact h2
end

/-- while hm stands, the frame and the two lists stand -/
def Good (base h₀ : Heap) (S : List Addr) (s₀ : Shared) (L aM aU : Addr) (m : Str → Option Value) (ms us : List Value) (hm : Addr → Option Obj) : Prop :=
  ∀ s' : Shared, (∀ b o, hm b = some o → b ∉ L :: S → s'.heap.get? b = some o) → (∀ b o, hm b = some o → ∃ sl, s'.heap.get? b = some { o with slots := sl }) → s'.os = s₀.os → s'.gens = s₀.gens →
    Fr base L s'.heap m ∧ Co S h₀ s₀ aM aU s' ms us

/-- what is apart from what -/
structure Ap (base h₀ : Heap) (outer : List Env) (L aM aU : Addr) : Prop where
  B0 : h₀.FunFrames base outer
  hb : base.StaysIn h₀
  nL : h₀.get? L = none
  nM : h₀.get? aM = none
  nU : h₀.get? aU = none
  ML : aM ≠ L
  UL : aU ≠ L
  MU : aM ≠ aU

section
variable {base h₀ : Heap} {outer : List Env} {L aM aU : Addr}
theorem Ap.inS (P : Ap base h₀ outer L aM aU) : ∀ b ∈ outer.filterMap (·.frame), h₀.get? b ≠ none := fun b hb' q => by
  obtain ⟨_, o, ho, _⟩ := P.B0.mem hb'
  rw [ho] at q; cases q
theorem Ap.eM (P : Ap base h₀ outer L aM aU) : aM ∉ L :: outer.filterMap (·.frame) := fun q => by
  rcases List.mem_cons.mp q with q | q
  · exact P.ML q
  · exact P.inS _ q P.nM
theorem Ap.eU (P : Ap base h₀ outer L aM aU) : aU ∉ L :: outer.filterMap (·.frame) := fun q => by
  rcases List.mem_cons.mp q with q | q
  · exact P.UL q
  · exact P.inS _ q P.nU
theorem Ap.bn (P : Ap base h₀ outer L aM aU) : ∀ a, h₀.get? a = none → base.get? a = none := fun a q => by
  cases q' : base.get? a with
  | none => rfl
  | some o => rw [P.hb a o q'] at q; cases q
theorem Ap.Sb (P : Ap base h₀ outer L aM aU) : ∀ b ∈ outer.filterMap (·.frame), base.get? b = none := fun _ hb' => (P.B0.mem hb').1

theorem Good.of {s₀ sm : Shared} {m : Str → Option Value} {ms us : List Value} (P : Ap base h₀ outer L aM aU) (F : Fr base L sm.heap m) (C : Co (outer.filterMap (·.frame)) h₀ s₀ aM aU sm ms us) :
    Good base h₀ (outer.filterMap (·.frame)) s₀ L aM aU m ms us sm.heap.get? := fun s' k1 k2 os gens =>
  have k : Kp (L :: outer.filterMap (·.frame)) sm.heap s'.heap := ⟨k1, k2⟩
  ⟨frKp F k P.Sb, C.fly k (os.trans C.os.symm) (gens.trans C.gens.symm) P.nL P.eM P.eU⟩

theorem Good.again {s₀ s : Shared} {m : Str → Option Value} {ms us : List Value} {hm : Addr → Option Obj} (P : Ap base h₀ outer L aM aU) (F : Fr base L s.heap m) (C : Co (outer.filterMap (·.frame)) h₀ s₀ aM aU s ms us)
    (h1 : ∀ b o, s.heap.get? b = some o → (h₀.get? b ≠ none ∨ b = L ∨ b = aM ∨ b = aU) → hm b = some o) : Good base h₀ (outer.filterMap (·.frame)) s₀ L aM aU m ms us hm := by
  intro s' k1 k2 os gens
  have kh : ∀ b o, h₀.get? b = some o → b ∉ outer.filterMap (·.frame) → s'.heap.get? b = some o := fun b o e n => k1 b o (h1 b o (C.kp.keep b o e n) (.inl (by rw [e]; exact fun q => by cases q))) fun q => by
    rcases List.mem_cons.mp q with q | q
    · rw [q, P.nL] at e; cases e
    · exact n q
  refine ⟨⟨?_, fun b o e => kh b o (P.hb b o e) fun q => ?_, F.above⟩, ⟨kh, fun b o e => ?_⟩, ?_, ?_, os, gens⟩
  · obtain ⟨o, es, ep, ho, hd, r⟩ := F.ns
    obtain ⟨sl, q⟩ := k2 L o (h1 L o ho (.inr (.inl rfl)))
    exact ⟨_, es, ep, q, hd, r⟩
  · rw [P.Sb b q] at e; cases e
  · obtain ⟨sl, q⟩ := C.kp.slot b o e
    obtain ⟨sl', q'⟩ := k2 b _ (h1 b _ q (.inl (by rw [e]; exact fun q => by cases q)))
    exact ⟨sl', q'⟩
  · exact C.M.imp fun _ q => k1 _ _ (h1 _ _ q (.inr (.inr (.inl rfl)))) P.eM
  · exact C.U.imp fun _ q => k1 _ _ (h1 _ _ q (.inr (.inr (.inr rfl)))) P.eU
end

section
variable {prog : Program} {w : World} {α : Type} {S : List Addr} {base h₀ : Heap} {Rep : Value → α → Prop} {V1 V2 : Value} {X Y : List α} {lt : α → α → Option Bool} {gt eq : α → α → Bool}
  {A : Around} {E : Value → Shared → Prop} {s s₀ : Shared} {L f aM aU : Addr} {cd : Value} {m : Str → Option Value} {outer : List Env}

/-- the context of an exception on its way: none, or one that has none -/
def Cx (c : Value) (hm : Addr → Option Obj) : Prop := c = .none ∨ ∃ e1 o1 vs1, c = .ref e1 ∧ hm e1 = some o1 ∧ o1.data = .fields vs1 ∧ vs1[2]? = some .none

/-- the handler: what is left of both is told, and the loop is left -/
theorem handler_ {hm : Addr → Option Obj} {i j : Nat} {ti tj : Tok} {ms us : List Value} {e : Addr} {tr : Bool} {c : Value} {Q : Flow → Shared → Prop}
    (Z1 : Sq prog w (outer.filterMap (·.frame)) h₀ Rep V1 X) (Z2 : Sq prog w (outer.filterMap (·.frame)) h₀ Rep V2 Y) (hu : A.units < 8000) (hI : Bn base "IndexError" (.type "IndexError"))
    (hfr : A.frames = some (sldEnv L f cd :: outer)) (P : Ap base h₀ outer L aM aU) (G : Good base h₀ (outer.filterMap (·.frame)) s₀ L aM aU m ms us hm)
    (K : Lk V1 V2 aM aU m i j ti tj) (li : i ≤ X.length) (lj : j ≤ Y.length) (hM : Ma Rep lt gt eq X Y i j ms us) (hend : i = X.length ∨ j = Y.length)
    (X0 : Fly hm (L :: outer.filterMap (·.frame)) e "IndexError" tr c s.heap) (cx : Cx c hm) (FF : s.heap.FunFrames base (sldEnv L f cd :: outer)) (os : s.os = s₀.os) (gens : s.gens = s₀.gens)
    (hQ : ∀ s' ms' us', Fr base L s'.heap m → Co (outer.filterMap (·.frame)) h₀ s₀ aM aU s' ms' us' → Fi Rep lt gt eq X Y ms' us' → Q .brk s') :
    wpAny (model prog w) A (noteFrame (.ref e) (sldEnv L f cd)) (fun _ s₂ => wpAny (model prog w) A (setFlight (.ref e) none) (fun _ s₃ => wpAny (model prog w) A (handleBy (.ref e) (sldEnv L f cd) (handlersOf sldTry)) Q E s₃) E s₂) E s := by
  refine note_ (base := base) (L := L) hfr FF rfl X0 fun h₁ X1 FF1 => ?_
  refine flight_ (base := base) X1 FF1 fun h₂ X2 FF2 => ?_
  have F2 := (G { s with heap := h₂ } X2.keep X2.slot os gens).1
  refine wpAny_handleBy_builtin (X := "IndexError") (T := "IndexError") (b := true) PySem.F.isExc_IndexError (by with_unfolding_all rfl) PySem.F.self_IndexError ?_
  refine nameB (s := { s with heap := h₂ }) F2 hI ⟨rfl, ?_, ?_⟩
  · obtain ⟨_, _, _, oe, vs, he, hc, _⟩ := X2
    exact ⟨oe, he, hc⟩
  rw [if_pos rfl]
  refine flight_ (base := base) X2 FF2 fun h₃ X3 FF3 => ?_
  obtain ⟨F3, C3⟩ := G { s with heap := h₃ } X3.keep X3.slot os gens
  have hd3 : Hd (A.mark (some (.ref e))) h₃ := by
    obtain ⟨k3, sl3, new3, oe, vs3, he3, _, hD3, _, h23, _⟩ := X3
    refine .inr ⟨e, oe, vs3, rfl, he3, hD3, ?_⟩
    rcases cx with rfl | ⟨e1, o1, vs1, rfl, q1, q2, q3⟩
    · exact .inl h23
    · refine .inr ⟨e1, o1, vs1, h23, (fun q => by rw [q, new3] at q1; cases q1), k3 _ _ q1 ?_, q2, q3⟩
      obtain ⟨sl, hsl⟩ := sl3 _ _ q1
      exact not_frame FF3 hsl q2
  obtain ⟨nm, gM⟩ := C3.M
  have lM := hM.lenM
  have lU := hM.lenU
  have lX := Z1.len
  have lY := Z2.len
  refine wpAny_execs_cons (extendCut Z1 C3.kp (by show A.units < 9000; omega) hd3 F3 K.M gM (by omega) P.nM K.x K.i li fun s₄ vs n₄ g₄ gM₄ av => ?_)
  have C4 := C3.setM g₄ gM₄ P.nM (Ne.symm P.MU)
  have F4 := frExL (s := { s with heap := h₃ }) F3 g₄ (Ne.symm P.ML) (P.bn _ P.nM)
  have hd4 := hdOff (s := { s with heap := h₃ }) hd3 g₄ ⟨_, gM, fun vs q => by cases q⟩
  obtain ⟨nu, gU⟩ := C4.U
  refine wpAny_execs_cons (extendCut Z2 C4.kp (by show A.units < 9000; omega) hd4 F4 K.U gU (by omega) P.nU K.y K.j lj fun s₅ ws n₅ g₅ gU₅ aw => ?_)
  have C5 := C4.setU g₅ gU₅ P.nU P.MU
  have F5 := frExL F4 g₅ (Ne.symm P.UL) (P.bn _ P.nU)
  refine wpAny_execs_cons (wpAny_Break ?_)
  exact hQ s₅ _ _ F5 C5 (hM.fin hend av aw)
end

section
variable {α : Type} {Rep : Value → α → Prop} {lt : α → α → Option Bool} {gt eq : α → α → Bool} {X Y : List α} {i j i' j' : Nat} {ms us : List Value} {v : Value}
theorem Ma.stepNo (h : Ma Rep lt gt eq X Y i j ms us) (hi : i < X.length) (hj : j < Y.length) (hl : lt X[i] Y[j] = none) : sld lt gt eq X Y = none := by
  obtain ⟨am, au, _, _, _, _, h3⟩ := h
  rw [h3, List.drop_eq_getElem_cons hi, List.drop_eq_getElem_cons hj, sld_cons, hl]; rfl
theorem Ma.stepLt (h : Ma Rep lt gt eq X Y i j ms us) (hi : i < X.length) (hj : j < Y.length) (hl : lt X[i] Y[j] = some true) (rv : Rep v X[i]) (hi' : i < i')
    (hd : X.drop i' = (X.drop (i + 1)).dropWhile fun z => eq z X[i]) : Ma Rep lt gt eq X Y i' j (ms ++ [v]) us := by
  obtain ⟨am, au, h1, h2, l1, l2, h3⟩ := h
  refine ⟨am ++ [X[i]], au, h1.append (.cons rv .nil), h2, by simp; omega, l2, ?_⟩
  rw [h3, List.drop_eq_getElem_cons hi, List.drop_eq_getElem_cons hj, sld_cons, hl, hd]
  dsimp only
  rw [Option.map_map]
  congr 1
  funext r
  simp
theorem Ma.stepGt (h : Ma Rep lt gt eq X Y i j ms us) (hi : i < X.length) (hj : j < Y.length) (hl : lt X[i] Y[j] = some false) (hg : gt X[i] Y[j] = true) (rv : Rep v Y[j]) (hj' : j < j')
    (hd : Y.drop j' = (Y.drop (j + 1)).dropWhile fun z => eq z Y[j]) : Ma Rep lt gt eq X Y i j' ms (us ++ [v]) := by
  obtain ⟨am, au, h1, h2, l1, l2, h3⟩ := h
  refine ⟨am, au ++ [Y[j]], h1, h2.append (.cons rv .nil), l1, by simp; omega, ?_⟩
  rw [h3, List.drop_eq_getElem_cons hi, List.drop_eq_getElem_cons hj, sld_cons, hl, hd]
  dsimp only
  rw [if_pos hg, Option.map_map]
  congr 1
  funext r
  simp
theorem Ma.stepEq (h : Ma Rep lt gt eq X Y i j ms us) (hi : i < X.length) (hj : j < Y.length) (hl : lt X[i] Y[j] = some false) (hg : gt X[i] Y[j] = false) (hi' : i < i') (hj' : j < j')
    (hd : X.drop i' = (X.drop (i + 1)).dropWhile fun z => eq z X[i]) (hd' : Y.drop j' = (Y.drop (j + 1)).dropWhile fun z => eq z Y[j]) : Ma Rep lt gt eq X Y i' j' ms us := by
  obtain ⟨am, au, h1, h2, l1, l2, h3⟩ := h
  refine ⟨am, au, h1, h2, by omega, by omega, ?_⟩
  rw [h3, List.drop_eq_getElem_cons hi, List.drop_eq_getElem_cons hj, sld_cons, hl, hd, hd']
  dsimp only
  rw [if_neg (by rw [hg]; decide)]
end

section
variable {prog : Program} {w : World} {α : Type} {base h₀ : Heap} {Rep : Value → α → Prop} {V1 V2 : Value} {X Y : List α} {lt : α → α → Option Bool} {gt eq : α → α → Bool}
  {A : Around} {E : Value → Shared → Prop} {s s₀ : Shared} {L f aM aU : Addr} {cd : Value} {m : Str → Option Value} {outer : List Env}

/-- the loop's state, n turns (at most) ahead of its end -/
def St (base h₀ : Heap) (Rep : Value → α → Prop) (V1 V2 : Value) (X Y : List α) (lt : α → α → Option Bool) (gt eq : α → α → Bool) (s₀ : Shared) (L aM aU : Addr) (outer : List Env) (n : Nat) (s : Shared) : Prop :=
  ∃ m i j ti tj ms us, Fr base L s.heap m ∧ Co (outer.filterMap (·.frame)) h₀ s₀ aM aU s ms us ∧ Lk V1 V2 aM aU m i j ti tj ∧ i ≤ X.length ∧ j ≤ Y.length ∧ Ma Rep lt gt eq X Y i j ms us ∧ (X.length - i) + (Y.length - j) = n
/-- an IndexError is on its way -/
def Ix (base h₀ : Heap) (Rep : Value → α → Prop) (V1 V2 : Value) (X Y : List α) (lt : α → α → Option Bool) (gt eq : α → α → Bool) (s₀ : Shared) (L f aM aU : Addr) (cd : Value) (outer : List Env) (e : Addr) (s : Shared) : Prop :=
  ∃ hm m i j ti tj ms us tr c, Good base h₀ (outer.filterMap (·.frame)) s₀ L aM aU m ms us hm ∧ Lk V1 V2 aM aU m i j ti tj ∧ i ≤ X.length ∧ j ≤ Y.length ∧ Ma Rep lt gt eq X Y i j ms us ∧ (i = X.length ∨ j = Y.length) ∧
    Fly hm (L :: outer.filterMap (·.frame)) e "IndexError" tr c s.heap ∧ Cx c hm ∧ s.heap.FunFrames base (sldEnv L f cd :: outer) ∧ s.os = s₀.os ∧ s.gens = s₀.gens
/-- a TypeError is on its way -/
def Tx (base h₀ : Heap) (X Y : List α) (lt : α → α → Option Bool) (gt eq : α → α → Bool) (s₀ : Shared) (L f : Addr) (cd : Value) (outer : List Env) (tr : Bool) (e : Addr) (s : Shared) : Prop :=
  sld lt gt eq X Y = none ∧ ∃ (hm : Heap) (m : Str → Option Value), Fr base L hm m ∧ Kp (outer.filterMap (·.frame)) h₀ hm ∧ Fly hm.get? (L :: outer.filterMap (·.frame)) e "TypeError" tr .none s.heap ∧ s.heap.FunFrames base (sldEnv L f cd :: outer) ∧ s.os = s₀.os ∧ s.gens = s₀.gens

/-- «x += 1» -/
theorem aug1 {name : Str} {scope : Scope} {a : Addr} {x : Str} {p1 p2 p3 : Pos} {k i : Nat} {ti : Tok} {Q : Flow → Shared → Prop} (F : Fr base L s.heap m) (mx : m x = some (.int (i : Nat) ti))
    (h : ∀ s' t, Fr base L s'.heap (upd m x (.int ((i + 1 : Nat) : Int) t)) → ExL L s s' → Q .next s')
    (hk : scope.kind = .function := by rfl) (hl : (envOf name scope L a cd).kindOf x = some .local := by rfl) :
    wpAny (model prog w) A (exec (.AugAssign (.Name x p1) .Add (.Constant (.int 1) k p2) p3) (envOf name scope L a cd)) Q E s := by
  refine wpAny_AugAssign_Name (ldn F mx (wpAny_Constant_int (AutoIntOps.iadd_0 ?_)) hk hl)
  refine st_ (s := _) (frGrow (frGrow F (Grow.toks _ _)) (Grow.toks _ _)) (fun s₇ F₇ g₇ => h s₇ _ F₇ ⟨fun b o n e => g₇.keep b o n e, g₇.os, g₇.gens⟩) hk hl

theorem tryBody_ {n : Nat}
    (Z1 : Sq prog w (outer.filterMap (·.frame)) h₀ Rep V1 X) (Z2 : Sq prog w (outer.filterMap (·.frame)) h₀ Rep V2 Y) (hq : EqOk prog w (outer.filterMap (·.frame)) h₀ Rep eq) (hlt : LtOk prog w (outer.filterMap (·.frame)) h₀ Rep lt) (hgt : GtOk prog w (outer.filterMap (·.frame)) h₀ Rep lt gt)
    (hu : A.units < 8000) (hh : A.handled = none) (hfr : A.frames = some (sldEnv L f cd :: outer)) (P : Ap base h₀ outer L aM aU)
    (h : St base h₀ Rep V1 V2 X Y lt gt eq s₀ L aM aU outer n s) :
    wpAny (model prog w) A (execs (bodyOf sldTry) (sldEnv L f cd)) (fun fl s' => fl = .next ∧ ∃ n', n' < n ∧ St base h₀ Rep V1 V2 X Y lt gt eq s₀ L aM aU outer n' s')
      (fun e s' => ∃ a, e = .ref a ∧ (Ix base h₀ Rep V1 V2 X Y lt gt eq s₀ L f aM aU cd outer a s' ∨ Tx base h₀ X Y lt gt eq s₀ L f cd outer false a s')) s := by
  obtain ⟨m, i, j, ti, tj, ms, us, F, C, K, li, lj, hM, hn⟩ := h
  have lX := Z1.len
  have lY := Z2.len
  have lM := hM.lenM
  have lU := hM.lenU
  -- e = expected[i]
  refine wpAny_execs_cons (wpAny_Assign_Name (Subscript_ (ld F K.x (ld F K.i ?_))))
  rcases Nat.lt_or_eq_of_le li with hi | hi
  case inr =>
    refine Z1.out (S' := L :: outer.filterMap (·.frame)) C.kp (.inl hh) (by omega) (by omega) fun h' tk e c fl hc => ⟨e, rfl, .inl ⟨s.heap.get?, m, i, j, ti, tj, ms, us, false, c, .of P F C, K, li, lj, hM, .inl hi, fl, .inl (by rw [hc, hh]; rfl), mkFramesX P.B0 C.kp F fl.kp P.nL, C.os, C.gens⟩⟩
  refine Z1.get C.kp hi fun v s₁ g₁ rv => st_ (frGrow F g₁) fun s₂ F₂ g₂ => ?_
  have C₂ := (C.grow g₁).exL g₂ P.nL P.ML P.UL
  have K₂ := K.setE v
  -- a = actual[j]
  refine wpAny_execs_cons (wpAny_Assign_Name (Subscript_ (ld F₂ K₂.y (ld F₂ K₂.j ?_))))
  rcases Nat.lt_or_eq_of_le lj with hj | hj
  case inr =>
    refine Z2.out (S' := L :: outer.filterMap (·.frame)) C₂.kp (.inl hh) (by omega) (by omega) fun h' tk e c fl hc => ⟨e, rfl, .inl ⟨s₂.heap.get?, _, i, j, ti, tj, ms, us, false, c, .of P F₂ C₂, K₂, li, lj, hM, .inr hj, fl, .inl (by rw [hc, hh]; rfl), mkFramesX P.B0 C₂.kp F₂ fl.kp P.nL, C₂.os, C₂.gens⟩⟩
  refine Z2.get C₂.kp hj fun u s₃ g₃ ru => st_ (frGrow F₂ g₃) fun s₄ F₄ g₄ => ?_
  have C₄ := (C₂.grow g₃).exL g₄ P.nL P.ML P.UL
  have K₄ := K₂.setA u
  have me : upd (upd m "e" v) "a" u "e" = some v := upd_ne (by decide) upd_same
  have ma : upd (upd m "e" v) "a" u "a" = some u := upd_same
  generalize hm4 : upd (upd m "e" v) "a" u = m₄ at *
  -- e < a
  refine wpAny_execs_cons (wpAny_If (wpAny_isTrue_Compare1 (ld F₄ me (ld F₄ ma (hlt C₄.kp (by omega) hh rv ru (fun b hb s₅ g₅ => wpAny_truthy_bool ?_) fun hnone h' tk e hx => ?_)))))
  case refine_2 =>
    have fl := Fly.of_new (S := L :: outer.filterMap (·.frame)) hx
    exact ⟨e, rfl, .inr ⟨hM.stepNo hi hj hnone, s₄.heap, m₄, F₄, C₄.kp, fl, mkFramesX P.B0 C₄.kp F₄ fl.kp P.nL, C₄.os, C₄.gens⟩⟩
  have C₅ := C₄.grow g₅
  have F₅ := frGrow F₄ g₅
  cases b with
  | true =>
    rw [if_pos rfl]
    -- missing.append(e)
    obtain ⟨nm, gM⟩ := C₅.M
    refine wpAny_execs_cons (append_ F₅ K₄.M gM (by omega) (ld F₅ me ⟨.refl _, fun s₆ g₆ gM₆ => ?_⟩))
    have C₆ := C₅.setM g₆ gM₆ P.nM (Ne.symm P.MU)
    have F₆ := frExL F₅ g₆ (Ne.symm P.ML) (P.bn _ P.nM)
    -- i += 1
    refine wpAny_execs_cons (aug1 F₆ K₄.i fun s₇ t₇ F₇ g₇ => ?_)
    have C₇ := C₆.exL g₇ P.nL P.ML P.UL
    have K₇ := K₄.setI (m' := upd m₄ "i" (.int ((i + 1 : Nat) : Int) t₇)) (i' := i + 1) (fun y hy => upd_ne hy rfl) upd_same
    -- while expected[i] == e: i += 1
    refine wpAny_execs_cons (inner (x0 := X[i]) Z1 hq rfl hu hfr P.B0 P.nL C₇.kp F₇ (.inl hh) K₇.x K₇.i (upd_ne (by decide) me) rv hi (fun s₈ m₈ i₈ t₈ F₈ g₈ e₈ q₈ l₈ u₈ d₈ => ?_) (fun sm s₈ m₈ t₈ e c F₈ g₈ e₈ q₈ d₈ fl FF os gens hc => ?_) (by decide) (by decide))
    · have C₈ := C₇.exL g₈ P.nL P.ML P.UL
      repeat refine wpAny_execs_nil ?_
      exact ⟨rfl, (X.length - i₈) + (Y.length - j), by omega, m₈, i₈, j, t₈, tj, ms ++ [v], us, F₈, C₈, K₇.setI e₈ q₈, Nat.le_of_lt u₈, lj, hM.stepLt hi hj hb rv (by omega) d₈, rfl⟩
    · have C₈ := C₇.exL g₈ P.nL P.ML P.UL
      exact ⟨e, rfl, .inl ⟨sm.heap.get?, m₈, X.length, j, t₈, tj, ms ++ [v], us, true, c, .of P F₈ C₈, K₇.setI e₈ q₈, Nat.le_refl _, lj, hM.stepLt hi hj hb rv hi (by rw [List.drop_length]; exact d₈), .inl rfl, fl, .inl (by rw [hc, hh]; rfl), FF, os.trans C₈.os, gens.trans C₈.gens⟩⟩
  | false =>
    rw [if_neg (by decide)]
    -- e > a
    refine wpAny_execs_cons (wpAny_If (wpAny_isTrue_Compare1 (ld F₅ me (ld F₅ ma (hgt C₅.kp (by omega) hh rv ru hb fun s₆ g₆ => wpAny_truthy_bool ?_)))))
    have C₆ := C₅.grow g₆
    have F₆ := frGrow F₅ g₆
    cases hg : gt X[i] Y[j] with
    | true =>
      rw [if_pos rfl]
      -- unexpected.append(a)
      obtain ⟨nu, gU⟩ := C₆.U
      refine wpAny_execs_cons (append_ F₆ K₄.U gU (by omega) (ld F₆ ma ⟨.refl _, fun s₇ g₇ gU₇ => ?_⟩))
      have C₇ := C₆.setU g₇ gU₇ P.nU P.MU
      have F₇ := frExL F₆ g₇ (Ne.symm P.UL) (P.bn _ P.nU)
      refine wpAny_execs_cons (aug1 F₇ K₄.j fun s₈ t₈ F₈ g₈ => ?_)
      have C₈ := C₇.exL g₈ P.nL P.ML P.UL
      have K₈ := K₄.setJ (m' := upd m₄ "j" (.int ((j + 1 : Nat) : Int) t₈)) (j' := j + 1) (fun y hy => upd_ne hy rfl) upd_same
      refine wpAny_execs_cons (inner (x0 := Y[j]) Z2 hq rfl hu hfr P.B0 P.nL C₈.kp F₈ (.inl hh) K₈.y K₈.j (upd_ne (by decide) ma) ru hj (fun s₉ m₉ j₉ t₉ F₉ g₉ e₉ q₉ l₉ u₉ d₉ => ?_) (fun sm s₉ m₉ t₉ e c F₉ g₉ e₉ q₉ d₉ fl FF os gens hc => ?_) (by decide) (by decide))
      · have C₉ := C₈.exL g₉ P.nL P.ML P.UL
        repeat refine wpAny_execs_nil ?_
        exact ⟨rfl, (X.length - i) + (Y.length - j₉), by omega, m₉, i, j₉, ti, t₉, ms, us ++ [u], F₉, C₉, K₈.setJ e₉ q₉, li, Nat.le_of_lt u₉, hM.stepGt hi hj hb hg ru (by omega) d₉, rfl⟩
      · have C₉ := C₈.exL g₉ P.nL P.ML P.UL
        exact ⟨e, rfl, .inl ⟨sm.heap.get?, m₉, i, Y.length, ti, t₉, ms, us ++ [u], true, c, .of P F₉ C₉, K₈.setJ e₉ q₉, li, Nat.le_refl _, hM.stepGt hi hj hb hg ru hj (by rw [List.drop_length]; exact d₉), .inr rfl, fl, .inl (by rw [hc, hh]; rfl), FF, os.trans C₉.os, gens.trans C₉.gens⟩⟩
    | false =>
      rw [if_neg (by decide)]
      -- i += 1
      refine wpAny_execs_cons (aug1 F₆ K₄.i fun s₇ t₇ F₇ g₇ => ?_)
      have C₇ := C₆.exL g₇ P.nL P.ML P.UL
      have K₇ := K₄.setI (m' := upd m₄ "i" (.int ((i + 1 : Nat) : Int) t₇)) (i' := i + 1) (fun y hy => upd_ne hy rfl) upd_same
      have me₇ : upd m₄ "i" (.int ((i + 1 : Nat) : Int) t₇) "e" = some v := upd_ne (by decide) me
      have ma₇ : upd m₄ "i" (.int ((i + 1 : Nat) : Int) t₇) "a" = some u := upd_ne (by decide) ma
      generalize upd m₄ "i" (.int ((i + 1 : Nat) : Int) t₇) = m₇ at *
      refine wpAny_execs_cons (wpAny_Try_finally (wpAny_execs_cons (inner (x0 := X[i]) Z1 hq rfl hu hfr P.B0 P.nL C₇.kp F₇ (.inl hh) K₇.x K₇.i me₇ rv hi (fun s₈ m₈ i₈ t₈ F₈ g₈ e₈ q₈ l₈ u₈ d₈ => ?_) (fun sm s₈ m₈ t₈ e c F₈ g₈ e₈ q₈ d₈ fl FF os gens hc => ?_) (by decide) (by decide))))
      · -- the first run ended
        have C₈ := C₇.exL g₈ P.nL P.ML P.UL
        have K₈ := K₇.setI e₈ q₈
        refine wpAny_execs_nil (wpAny_execs_nil (wpAny_execs_cons (aug1 F₈ K₈.j fun s₉ t₉ F₉ g₉ => ?_)))
        have C₉ := C₈.exL g₉ P.nL P.ML P.UL
        have K₉ := K₈.setJ (m' := upd m₈ "j" (.int ((j + 1 : Nat) : Int) t₉)) (j' := j + 1) (fun y hy => upd_ne hy rfl) upd_same
        refine wpAny_execs_cons (inner (x0 := Y[j]) Z2 hq rfl hu hfr P.B0 P.nL C₉.kp F₉ (.inl hh) K₉.y K₉.j (upd_ne (by decide) ((e₈ _ (by decide)).trans ma₇)) ru hj (fun s₁₀ m₁₀ j₁₀ t₁₀ F₁₀ g₁₀ e₁₀ q₁₀ l₁₀ u₁₀ d₁₀ => ?_) (fun sm s₁₀ m₁₀ t₁₀ e c F₁₀ g₁₀ e₁₀ q₁₀ d₁₀ fl FF os gens hc => ?_) (by decide) (by decide))
        · have C₁₀ := C₉.exL g₁₀ P.nL P.ML P.UL
          repeat refine wpAny_execs_nil ?_
          exact ⟨rfl, (X.length - i₈) + (Y.length - j₁₀), by omega, m₁₀, i₈, j₁₀, t₈, t₁₀, ms, us, F₁₀, C₁₀, K₉.setJ e₁₀ q₁₀, Nat.le_of_lt u₈, Nat.le_of_lt u₁₀, hM.stepEq hi hj hb hg (by omega) (by omega) d₈ d₁₀, rfl⟩
        · have C₁₀ := C₉.exL g₁₀ P.nL P.ML P.UL
          refine noted_ (L := L) hfr FF rfl fl fun h₁ fl₁ FF₁ => came_ fl₁ FF₁ fun h₂ fl₂ FF₂ => ?_
          exact ⟨e, rfl, .inl ⟨sm.heap.get?, m₁₀, i₈, Y.length, t₈, t₁₀, ms, us, true, c, .of P F₁₀ C₁₀, K₉.setJ e₁₀ q₁₀, Nat.le_of_lt u₈, Nat.le_refl _, hM.stepEq hi hj hb hg (by omega) hj d₈ (by rw [List.drop_length]; exact d₁₀), .inr rfl, fl₂, .inl (by rw [hc, hh]; rfl), FF₂, os.trans C₁₀.os, gens.trans C₁₀.gens⟩⟩
      · -- the first run ran out
        have C₈ := C₇.exL g₈ P.nL P.ML P.UL
        have K₈ := K₇.setI e₈ q₈
        have hc' : c = .none := by rw [hc, hh]; rfl
        subst hc'
        refine note_ (L := L) hfr FF rfl fl fun h₁ fl₁ FF₁ => ⟨(fun q => by cases q), note_ (L := L) hfr FF₁ rfl fl₁ fun h₂ fl₂ FF₂ => flight_ fl₂ FF₂ fun h₃ fl₃ FF₃ => ?_⟩
        obtain ⟨F₃, C₃⟩ := Good.of P F₈ C₈ { s₈ with heap := h₃ } fl₃.keep fl₃.slot (os.trans C₈.os) (gens.trans C₈.gens)
        refine wpAny_execs_cons (aug1 F₃ K₈.j fun s₉ t₉ F₉ g₉ => ?_)
        have C₉ := C₃.exL g₉ P.nL P.ML P.UL
        have K₉ := K₈.setJ (m' := upd m₈ "j" (.int ((j + 1 : Nat) : Int) t₉)) (j' := j + 1) (fun y hy => upd_ne hy rfl) upd_same
        have hd₉ : Hd (A.mark (some (.ref e))) s₉.heap := by
          refine hdExL (s := { s₈ with heap := h₃ }) (.inr ?_) g₉ (frDict F₃)
          obtain ⟨_, _, _, oe, vs, he, _, hd, _, h2, _⟩ := fl₃
          exact ⟨e, oe, vs, rfl, he, hd, .inl h2⟩
        refine wpAny_execs_cons (inner (x0 := Y[j]) Z2 hq rfl hu hfr P.B0 P.nL C₉.kp F₉ hd₉ K₉.y K₉.j (upd_ne (by decide) ((e₈ _ (by decide)).trans ma₇)) ru hj (fun s₁₀ m₁₀ j₁₀ t₁₀ F₁₀ g₁₀ e₁₀ q₁₀ l₁₀ u₁₀ d₁₀ => ?_) (fun sm' s₁₀ m₁₀ t₁₀ e' c' F₁₀ g₁₀ e₁₀ q₁₀ d₁₀ fl' FF' os' gens' hc' => ?_) (by decide) (by decide))
        · -- the second run ended: the first error goes on
          have C₁₀ := C₉.exL g₁₀ P.nL P.ML P.UL
          have g := g₉.trans g₁₀
          obtain ⟨hm', fl₄, k₄⟩ := fl₃.anew (h' := s₁₀.heap) (frDict F₃) g.keep
          refine wpAny_execs_nil (passOn_ fl₄ (mkFrames (name := "sorted_list_difference") (scope := sldScope) (a := f) (cd := cd) P.B0 C₁₀.kp F₁₀) fun h₅ fl₅ FF₅ => ?_)
          have G : Good base h₀ (outer.filterMap (·.frame)) s₀ L aM aU m₁₀ ms us hm' := by
            refine Good.again P F₁₀ C₁₀ fun b o q w => k₄ b o ?_ q
            rcases w with w | rfl | rfl | rfl
            · intro r
              cases q' : h₀.get? b with
              | none => exact w q'
              | some o' => obtain ⟨sl, q''⟩ := C₈.kp.slot b o' q'; rw [r] at q''; cases q''
            · obtain ⟨o', _, _, q', _⟩ := F₈.ns
              rw [q']; exact fun r => by cases r
            · obtain ⟨_, q'⟩ := C₈.M
              rw [q']; exact fun r => by cases r
            · obtain ⟨_, q'⟩ := C₈.U
              rw [q']; exact fun r => by cases r
          exact ⟨e, rfl, .inl ⟨hm', m₁₀, X.length, j₁₀, t₈, t₁₀, ms, us, true, _, G, K₉.setJ e₁₀ q₁₀, Nat.le_refl _, Nat.le_of_lt u₁₀, hM.stepEq hi hj hb hg hi (by omega) (by rw [List.drop_length]; exact d₈) d₁₀, .inl rfl, fl₅, .inl rfl, FF₅, C₁₀.os, C₁₀.gens⟩⟩
        · -- the second one ran out, too
          have C₁₀ := C₉.exL g₁₀ P.nL P.ML P.UL
          have cx' : Cx c' sm'.heap.get? := by
            obtain ⟨_, _, _, oe, vs, he, _, hd, _, h2, _⟩ := fl₃
            obtain ⟨es, n, oL, hL1, hL2⟩ := frDict F₃
            have eL : e ≠ L := fun q => by
              rw [q] at he
              have hL1' : h₃.get? L = some oL := hL1
              rw [hL1'] at he; cases he; rw [hL2] at hd; cases hd
            exact .inr ⟨e, oe, vs, hc', g₁₀.keep _ _ eL (g₉.keep _ _ eL he), hd, h2⟩
          refine noted_ (L := L) hfr FF' rfl fl' fun h₁ fl₁ FF₁ => came_ fl₁ FF₁ fun h₂ fl₂ FF₂ => ?_
          exact ⟨e', rfl, .inl ⟨sm'.heap.get?, m₁₀, X.length, Y.length, t₈, t₁₀, ms, us, true, c', .of P F₁₀ C₁₀, K₉.setJ e₁₀ q₁₀, Nat.le_refl _, Nat.le_refl _, hM.stepEq hi hj hb hg hi hj (by rw [List.drop_length]; exact d₈) (by rw [List.drop_length]; exact d₁₀), .inr rfl, fl₂, cx', FF₂, os'.trans C₁₀.os, gens'.trans C₁₀.gens⟩⟩
end

abbrev tupOf (vs : List Value) : Obj := { cls := .type "tuple", data := .seq vs.toArray }

section
variable {M : Model} {A : Around} {E : Value → Shared → Prop} {s : Shared}
theorem newList_ {vs : List Value} {Q : Value → Shared → Prop} (h : ∀ s' D, Grow s s' → s'.heap.get? D = some (listOf vs.toArray 0) → s.heap.get? D = none → Q (.ref D) s') (hz : vs.length ≤ 10000000 := by simp) : wpAny M A (newList vs) Q E s :=
  wpAny_newObj_type (h _ _ ⟨fun _ _ e => Heap.get?_push_of_some _ e, rfl, rfl⟩ (Heap.get?_push_size _ rfl) (Heap.get?_none_of_le (Nat.le_refl _))) (by show vs.toArray.size ≤ sizeLine; rw [List.size_toArray, sizeLine_eq]; omega)
theorem newTuple_ {vs : List Value} {Q : Value → Shared → Prop} (h : ∀ s' D, Grow s s' → s'.heap.get? D = some (tupOf vs) → s.heap.get? D = none → Q (.ref D) s') (hz : vs.length ≤ 10000000 := by simp) : wpAny M A (newTuple vs) Q E s :=
  wpAny_newObj_type (h _ _ ⟨fun _ _ e => Heap.get?_push_of_some _ e, rfl, rfl⟩ (Heap.get?_push_size _ rfl) (Heap.get?_none_of_le (Nat.le_refl _))) (by show vs.toArray.size ≤ sizeLine; rw [List.size_toArray, sizeLine_eq]; omega)
end

theorem type_not_index : isSubtype (.type "TypeError") (.type "IndexError") = pure false := by rw [isSubtype_type]; kernel_rfl

section
variable {prog : Program} {w : World} {α : Type} {base h₀ : Heap} {Rep : Value → α → Prop} {V1 V2 : Value} {X Y : List α} {lt : α → α → Option Bool} {gt eq : α → α → Bool}
  {A : Around} {E : Value → Shared → Prop} {s s₀ : Shared} {L f aM aU : Addr} {cd : Value} {m : Str → Option Value} {outer : List Env}

theorem sld_loop {Q : Flow → Shared → Prop} {n : Nat}
    (Z1 : Sq prog w (outer.filterMap (·.frame)) h₀ Rep V1 X) (Z2 : Sq prog w (outer.filterMap (·.frame)) h₀ Rep V2 Y) (hq : EqOk prog w (outer.filterMap (·.frame)) h₀ Rep eq) (hlt : LtOk prog w (outer.filterMap (·.frame)) h₀ Rep lt) (hgt : GtOk prog w (outer.filterMap (·.frame)) h₀ Rep lt gt)
    (hu : A.units < 8000) (hh : A.handled = none) (hfr : A.frames = some (sldEnv L f cd :: outer)) (P : Ap base h₀ outer L aM aU) (hI : Bn base "IndexError" (.type "IndexError"))
    (h : St base h₀ Rep V1 V2 X Y lt gt eq s₀ L aM aU outer n s)
    (hQ : ∀ s' m ms us, Fr base L s'.heap m → m "missing" = some (.ref aM) → m "unexpected" = some (.ref aU) → Co (outer.filterMap (·.frame)) h₀ s₀ aM aU s' ms us → Fi Rep lt gt eq X Y ms us → Q .next s')
    (hE : ∀ e s', Tx base h₀ X Y lt gt eq s₀ L f cd outer true e s' → E (.ref e) s') :
    wpAny (model prog w) A (exec (nth sldBody 3) (sldEnv L f cd)) Q E s := by
  refine wpAny_While (codeAny_whileLoop (fun n s => St base h₀ Rep V1 V2 X Y lt gt eq s₀ L aM aU outer n s) ?_ n h)
  intro n s₁ h₁
  refine isTrue_plain (Constant_bool (wpAny_truthy_bool ?_))
  rw [if_pos rfl]
  refine wpAny_execs_cons (wpAny_Try_except (wpAny_mono (tryBody_ (f := f) (cd := cd) Z1 Z2 hq hlt hgt hu hh hfr P h₁) (fun fl s₂ h₂ => ?_) fun e s₂ h₂ => ?_))
  · obtain ⟨rfl, n', l, h₂⟩ := h₂
    repeat refine wpAny_execs_nil ?_
    exact ⟨n', l, h₂⟩
  · obtain ⟨ea, rfl, h₂⟩ := h₂
    rcases h₂ with h₂ | h₂
    · obtain ⟨hm, m, i, j, ti, tj, ms, us, tr, c, G, K, li, lj, hM, he, fl, cx, FF, os, gens⟩ := h₂
      refine handler_ Z1 Z2 hu hI hfr P G K li lj hM he fl cx FF os gens fun s' ms' us' F' C' hF => ?_
      exact hQ s' m ms' us' F' K.M K.U C' hF
    · obtain ⟨hn, hm, m, F, kp, fl, FF, os, gens⟩ := h₂
      refine note_ (L := L) hfr FF rfl fl fun h₃ fl₃ FF₃ => flight_ fl₃ FF₃ fun h₄ fl₄ FF₄ => ?_
      refine wpAny_handleBy_builtin (X := "TypeError") (T := "IndexError") (b := false) PySem.F.isExc_IndexError (by with_unfolding_all rfl) type_not_index ?_
      refine nameB (s := { s₂ with heap := h₄ }) (frKp F fl₄.kp P.Sb) hI ⟨rfl, ?_, ?_⟩
      · obtain ⟨_, _, _, oe, vs, he, hc, _⟩ := fl₄
        exact ⟨oe, he, hc⟩
      rw [if_neg (by decide)]
      refine wpAny_handleBy_nil (passOn_ fl₄ FF₄ fun h₅ fl₅ FF₅ => noted_ (L := L) hfr FF₅ rfl fl₅ fun h₆ fl₆ FF₆ => came_ fl₆ FF₆ fun h₇ fl₇ FF₇ => ?_)
      exact hE ea _ ⟨hn, hm, m, F, kp, fl₇, FF₇, os, gens⟩

theorem sld_body {Q : Flow → Shared → Prop}
    (Z1 : Sq prog w (outer.filterMap (·.frame)) h₀ Rep V1 X) (Z2 : Sq prog w (outer.filterMap (·.frame)) h₀ Rep V2 Y) (hq : EqOk prog w (outer.filterMap (·.frame)) h₀ Rep eq) (hlt : LtOk prog w (outer.filterMap (·.frame)) h₀ Rep lt) (hgt : GtOk prog w (outer.filterMap (·.frame)) h₀ Rep lt gt)
    (hu : A.units < 8000) (hh : A.handled = none) (hfr : A.frames = some (sldEnv L f cd :: outer)) (B0 : h₀.FunFrames base outer) (hb : base.StaysIn h₀) (nL : h₀.get? L = none) (hI : Bn base "IndexError" (.type "IndexError"))
    (F : Fr base L s.heap m) (kp : Kp (outer.filterMap (·.frame)) h₀ s.heap) (mx : m "expected" = some V1) (my : m "actual" = some V2)
    (hQ : ∀ s' t aM aU ms us n1 n2, Kp (outer.filterMap (·.frame)) h₀ s'.heap → s'.os = s.os → s'.gens = s.gens → s'.heap.get? t = some (tupOf [.ref aM, .ref aU]) → h₀.get? t = none →
      s'.heap.get? aM = some (listOf ms.toArray n1) → s'.heap.get? aU = some (listOf us.toArray n2) → h₀.get? aM = none → h₀.get? aU = none → aM ≠ aU → Fi Rep lt gt eq X Y ms us → Q (.ret (.ref t)) s')
    (hE : ∀ e s', Tx base h₀ X Y lt gt eq s L f cd outer true e s' → E (.ref e) s') :
    wpAny (model prog w) A (execs sldBody (sldEnv L f cd)) Q E s := by
  -- i = j = 0
  refine wpAny_execs_cons (wpAny_Assign_two (wpAny_Constant_int (assign_Name (st_ (s := _) (frGrow F (Grow.toks _ _)) fun s₁ F₁ g₁ => assign_Name (st_ F₁ fun s₂ F₂ g₂ => ?_)))))
  have g02 : ExL L s s₂ := (Grow.toks s (s.toks + 1)).exL.trans (g₁.trans g₂)
  -- missing = []
  refine wpAny_execs_cons (wpAny_Assign_Name (List_ (spliced_none (newList_ fun s₃ aM g₃ gM nM => st_ (frGrow F₂ g₃) fun s₄ F₄ g₄ => ?_))))
  -- unexpected = []
  refine wpAny_execs_cons (wpAny_Assign_Name (List_ (spliced_none (newList_ fun s₅ aU g₅ gU nU => st_ (frGrow F₄ g₅) fun s₆ F₆ g₆ => ?_))))
  have lL : ∀ {s : Shared} {m : Str → Option Value}, Fr base L s.heap m → s.heap.get? L ≠ none := fun F q => by
    obtain ⟨o, _, _, e, _⟩ := F.ns
    rw [e] at q; cases q
  have ML : aM ≠ L := fun q => lL F₂ (q ▸ nM)
  have UL : aU ≠ L := fun q => lL F₄ (q ▸ nU)
  have gM₄ := g₄.keep _ _ ML gM
  have MU : aM ≠ aU := fun q => by rw [q, nU] at gM₄; cases gM₄
  have kp₂ := kpExL kp g02 nL
  have kp₄ := kpExL (kpGrow kp₂ g₃) g₄ nL
  have hn : ∀ {h : Heap} {a : Addr}, Kp (outer.filterMap (·.frame)) h₀ h → h.get? a = none → h₀.get? a = none := fun {h a} k q => by
    cases q' : h₀.get? a with
    | none => rfl
    | some o => obtain ⟨sl, q''⟩ := k.slot _ _ q'; rw [q] at q''; cases q''
  have P : Ap base h₀ outer L aM aU := ⟨B0, hb, nL, hn kp₂ nM, hn kp₄ nU, ML, UL, MU⟩
  have C : Co (outer.filterMap (·.frame)) h₀ s aM aU s₆ [] [] :=
    ⟨kpExL (kpGrow kp₄ g₅) g₆ nL, ⟨0, g₆.keep _ _ ML (g₅.keep _ _ gM₄)⟩, ⟨0, g₆.keep _ _ UL gU⟩, g₆.os.trans (g₅.os.trans (g₄.os.trans (g₃.os.trans g02.os))), g₆.gens.trans (g₅.gens.trans (g₄.gens.trans (g₃.gens.trans g02.gens)))⟩
  refine wpAny_execs_cons (sld_loop (s₀ := s) (aM := aM) (aU := aU) (n := X.length + Y.length) Z1 Z2 hq hlt hgt hu hh hfr P hI ⟨_, 0, 0, s.toks, s.toks, [], [], F₆, C, ⟨?_, ?_, ?_, upd_same, ?_, ?_⟩, Nat.zero_le _, Nat.zero_le _, ⟨[], [], .nil, .nil, Nat.le_refl _, Nat.le_refl _, ?_⟩, rfl⟩ (fun s₇ m₇ ms us F₇ eM eU C₇ fi => ?_) hE)
  · exact upd_ne (by decide) (upd_ne (by decide) (upd_ne (by decide) (upd_ne (by decide) mx)))
  · exact upd_ne (by decide) (upd_ne (by decide) (upd_ne (by decide) (upd_ne (by decide) my)))
  · exact upd_ne (by decide) upd_same
  · exact upd_ne (by decide) (upd_ne (by decide) (upd_ne (by decide) upd_same))
  · exact upd_ne (by decide) (upd_ne (by decide) upd_same)
  · simp
  -- return (missing, unexpected)
  refine wpAny_execs_cons (wpAny_Return_some (Tuple_ (spliced_more (ld F₇ eM (spliced_more (ld F₇ eU (spliced_none (newTuple_ fun s₈ t g₈ gt' nt => ?_))))))))
  obtain ⟨n1, e1⟩ := C₇.M
  obtain ⟨n2, e2⟩ := C₇.U
  exact hQ s₈ t aM aU ms us n1 n2 (kpGrow C₇.kp g₈) (g₈.os.trans C₇.os) (g₈.gens.trans C₇.gens) gt' (hn C₇.kp nt) (g₈.keep _ _ e1) (g₈.keep _ _ e2) P.nM P.nU MU fi
end

/-- the def st, made by the top, lies at f -/
def Fn (h : Heap) (f : Addr) (name : Str) (st : Stmt) (cd : Value) : Prop :=
  (∃ o doc pm an ct, h.get? f = some o ∧ o.data = .func (fnOf name name (paramsOf st) (bodyOf st) (scopeOf st) .none .none doc pm an cd ct)) ∧ h.CodeRec cd name
theorem Fn.keep {h h' : Heap} {f : Addr} {name : Str} {st : Stmt} {cd : Value} (x : Fn h f name st cd) (k : ∀ b o, h.get? b = some o → h'.get? b = some o) : Fn h' f name st cd :=
  ⟨x.1.imp fun _ ⟨a, b, c, d, e, g⟩ => ⟨a, b, c, d, k _ _ e, g⟩, x.2.keeps k⟩

theorem fn_of_K {K : Frag} {h : Heap} (X : K.In h) {f : Addr} {name : Str} {st : Stmt} {cd doc pm ct oc : Value} {an od : Option Addr} {osl : Array (Option Value)}
    (e : K.lookup f = some ⟨oc, od, .func (fnOf name name (paramsOf st) (bodyOf st) (scopeOf st) .none .none doc pm an cd ct), osl⟩) (ec : codeIn K cd name = true) : Fn h f name st cd :=
  ⟨⟨_, doc, pm, an, ct, X _ _ e, rfl⟩, codeRec_of X ec⟩

section
variable {prog : Program} {w : World} {A : Around} {E : Value → Shared → Prop} {s : Shared} {base : Heap}

theorem callFn {R : Result → Shared → Prop} {st : Stmt} {name : Str} {f : Addr} {cd : Value} {args : List Value} {binds : List (Str × Value)}
    (fn : Fn s.heap f name st cd) (lim : s.heap.NoLimit) (hroom : A.depth < recursionLimit)
    (hbind : ∀ doc pm an ct, bindArgs (fnOf name name (paramsOf st) (bodyOf st) (scopeOf st) .none .none doc pm an cd ct) ⟨args, []⟩ = pure binds)
    (hloc : ∀ x ∈ binds, (scopeOf st).names.lookup x.1 = some .local)
    (h : ∀ s₁, Fr s.heap s.heap.objs.size s₁.heap (fun x => binds.reverse.lookup x) → Grow s s₁ →
      wpAny (model prog w) (A.deeper (envOf name (scopeOf st) s.heap.objs.size f cd)) (execs (bodyOf st) (envOf name (scopeOf st) s.heap.objs.size f cd))
        (fun fl s' => R (.ok (.ret (match fl with | .ret v => v | _ => .none))) s')
        (fun e s' => wpAny (model prog w) (A.deeper (envOf name (scopeOf st) s.heap.objs.size f cd)) (leaving (envOf name (scopeOf st) s.heap.objs.size f cd) e) (fun _ s'' => R (.error e) s'') (fun e' s'' => R (.error e') s'') s') s₁)
    (hcell : ∀ x ∈ (scopeOf st).names, x.2 ≠ .cell) (hco : (scopeOf st).isCoroutine = false := by rfl) (hgen : (scopeOf st).isGenerator = false := by rfl) (hk : (scopeOf st).kind = .function := by rfl) :
    codeAny (model prog w) A (.call (.ref f) ⟨args, []⟩) R s := by
  obtain ⟨⟨o, doc, pm, an, ct, ho, hd⟩, hcd⟩ := fn
  refine codeAny_call_def hroom ho hd lim hcd rfl (.of_eq (hbind doc pm an ct)) hcell hloc (fun h₁ hns hkp => ?_) hco hgen hk
  exact h _ ⟨hns, hkp, Nat.le_refl _⟩ ⟨hkp, rfl, rfl⟩

theorem callName {x name cn : Str} {cs : Scope} {ca L f : Addr} {ccd cd : Value} {st : Stmt} {m : Str → Option Value} {e : Expr} {rest : List Expr} {p pos : Pos} {Q : Value → Shared → Prop}
    (F : Fr base L s.heap m) (G : Gn base x (.ref f)) (fn : Fn base f name st cd)
    (h : wpAny (model prog w) A (spliced (backTo pos (starEach (e :: rest) (envOf cn cs L ca ccd)))) (fun vs s₁ => base.StaysIn s₁.heap ∧
      codeAny (model prog w) A (.call (.ref f) ⟨vs, []⟩) (fun r s' => match r with | .ok (.ret v) => Q v s' | .ok _ => False | .error e => E e s') s₁) E s)
    (he : starEach (e :: rest) (envOf cn cs L ca ccd) = (false, eval e (envOf cn cs L ca ccd)) :: starEach rest (envOf cn cs L ca ccd) := by rfl)
    (hc : eval (.Call (.Name x p) (e :: rest) [] pos) (envOf cn cs L ca ccd) = (do callWith pos (← eval (.Name x p) (envOf cn cs L ca ccd)) [] (backTo pos (starEach (e :: rest) (envOf cn cs L ca ccd))) (backToKw pos (keywordEach [] (envOf cn cs L ca ccd)))) := by rfl)
    (hk : cs.kind = .function := by rfl) (hx : (envOf cn cs L ca ccd).kindOf x = some .globalImplicit := by rfl) (hd : (x == ("__debug__" : Str)) = false := by decide) :
    wpAny (model prog w) A (eval (.Call (.Name x p) (e :: rest) [] pos) (envOf cn cs L ca ccd)) Q E s := by
  obtain ⟨⟨o, doc, pm, an, ct, ho, hd'⟩, _⟩ := fn
  refine Call_ (nameG F G ?_ hk hx hd) hc
  refine callWith_def hd' (wpAny_mono h (fun vs s₁ h₁ => ⟨h₁.1 _ _ ho, wpAny_call h₁.2⟩) fun _ _ x => x) he
end

section
variable {prog : Program} {w : World} {α : Type} {base : Heap} {Rep : Value → α → Prop} {V1 V2 : Value} {X Y : List α} {lt : α → α → Option Bool} {gt eq : α → α → Bool}
  {A : Around} {s : Shared} {f : Addr} {cd : Value} {outer : List Env}

/-- a call of sorted_list_difference -/
theorem sld_call {R : Result → Shared → Prop}
    (Z1 : Sq prog w (outer.filterMap (·.frame)) s.heap Rep V1 X) (Z2 : Sq prog w (outer.filterMap (·.frame)) s.heap Rep V2 Y) (hq : EqOk prog w (outer.filterMap (·.frame)) s.heap Rep eq) (hlt : LtOk prog w (outer.filterMap (·.frame)) s.heap Rep lt) (hgt : GtOk prog w (outer.filterMap (·.frame)) s.heap Rep lt gt)
    (hu : A.units < 7000) (hr : A.depth < recursionLimit) (hh : A.handled = none) (B : Below A base outer s.heap) (hsz : base.objs.size ≤ s.heap.objs.size) (lim : base.NoLimit) (hI : Bn base "IndexError" (.type "IndexError"))
    (fn : Fn base f "sorted_list_difference" (stmtAt PySem.Challenge.pw_dn0234_02 1) cd)
    (hR : ∀ s' t aM aU ms us n1 n2, Kp (outer.filterMap (·.frame)) s.heap s'.heap → s'.os = s.os → s'.gens = s.gens → s'.heap.get? t = some (tupOf [.ref aM, .ref aU]) → s.heap.get? t = none →
      s'.heap.get? aM = some (listOf ms.toArray n1) → s'.heap.get? aU = some (listOf us.toArray n2) → s.heap.get? aM = none → s.heap.get? aU = none → aM ≠ aU → Fi Rep lt gt eq X Y ms us → R (.ok (.ret (.ref t))) s')
    (hE : sld lt gt eq X Y = none → ∀ (hm : Heap) s' e, Kp (outer.filterMap (·.frame)) s.heap hm → Fly hm.get? (s.heap.objs.size :: outer.filterMap (·.frame)) e "TypeError" true .none s'.heap → s'.os = s.os → s'.gens = s.gens → R (.error (.ref e)) s') :
    codeAny (model prog w) A (.call (.ref f) ⟨[V1, V2], []⟩) R s := by
  refine callFn (binds := [("expected", V1), ("actual", V2)]) (fn.keep B.stays) (lim.keeps B.stays) hr (fun _ _ _ _ => rfl) (locs rfl) (fun s₁ F g => ?_) (by decide)
  have nL : s.heap.get? s.heap.objs.size = none := Heap.get?_none_of_le (Nat.le_refl _)
  have F' : Fr base s.heap.objs.size s₁.heap _ := ⟨F.ns, fun b o e => F.keep b o (B.stays b o e), hsz⟩
  refine sld_body (h₀ := s.heap) Z1 Z2 hq hlt hgt (by show A.units + 3 < 8000; omega) hh (Around.frames_deeper B.stack) B.frames B.stays nL hI F' (.of_keep g.keep) rfl rfl (fun s' t aM aU ms us n1 n2 kp os gens ht nt hM hU nM nU MU fi => ?_) fun e s' hT => ?_
  · exact hR s' t aM aU ms us n1 n2 kp (os.trans g.os) (gens.trans g.gens) ht nt hM hU nM nU MU fi
  · obtain ⟨hn, hm, m, Fm, kp, fl, FF, os, gens⟩ := hT
    refine leaving_ (L := s.heap.objs.size) (Around.frames_deeper B.stack) FF rfl fl fun h' fl' FF' => ?_
    exact hE hn hm _ e kp fl' (os.trans g.os) (gens.trans g.gens)
end

section
variable {prog : Program} {w : World} {A : Around} {E : Value → Shared → Prop} {s : Shared}

/-- xs.extend(ys), both lists, as a call -/
theorem extendCall {D b : Addr} {ms vs : List Value} {n k : Nat} {Q : Value → Shared → Prop} (hD : s.heap.get? D = some (listOf ms.toArray n)) (hb : s.heap.get? b = some (listOf vs.toArray k)) (hz : ms.length + vs.length ≤ 10000000)
    (h : ∀ s' n', ExL D s s' → s'.heap.get? D = some (listOf (ms ++ vs).toArray n') → Q .none s') : wpAny (model prog w) A (call (.builtin "list.extend") [.ref D, .ref b]) Q E s := by
  have hsz : ms.toArray.size + vs.toArray.size ≤ sizeLine := by rw [List.size_toArray, List.size_toArray, sizeLine_eq]; omega
  refine call_meets PySem.F.slot_list_extend ⟨_, hD, rfl⟩ PySem.F.entry_list_extend (PySem.F.args_list_extend_2 _ _) (AutoSeq1.list_extend_list_list_0 D ms.toArray n b vs.toArray k (extend_door hsz) (Nat.le_trans (Nat.le_add_right _ _) hsz) (Nat.le_trans hsz (Nat.le_succ _))) ⟨hD, hb, ?_⟩
  have e : ms.toArray ++ vs.toArray = (ms ++ vs).toArray := by simp
  refine h _ (if (ms.toArray ++ vs.toArray).size == ms.toArray.size then n else n + 1) ⟨fun c o nc q => ?_, rfl, rfl⟩ ?_
  · exact (Heap.get?_update_other _ _ (Ne.symm nc)).trans q
  · rw [Heap.get?_update_self _ hD (by rw [mapSeq_app]; rfl), mapSeq_app, e]
end

section
variable {prog : Program} {w : World} {α : Type} {S : List Addr} {h₀ : Heap} {Rep : Value → α → Prop} {X : List α} {vs : List Value}

/-- a list that stands -/
theorem sqList {l : Addr} {n : Nat} (hl : h₀.get? l = some (listOf vs.toArray n)) (hS : l ∉ S) (ha : All2 Rep vs X) (hz : X.length < 100000) : Sq prog w S h₀ Rep (.ref l) X where
  len := hz
  get := by
    intro A E s Q value x p i t kp hi h
    have hL : s.heap.IsList l vs.toArray := ⟨_, kp.keep _ _ hl hS, rfl, n, rfl⟩
    have hv : i < vs.length := by rw [ha.length]; exact hi
    refine tail_any hL.typeIs slot_list_getitem.lookup (wpAny_getItem_list (x := vs[i]) hL (by omega) (by omega) ?_ (h _ _ (.refl _) (ha.get i hv hi))) rfl
    simp [hv]
  out := by
    intro A E s S' Q value x p i t kp hd hi hb h
    have hL : s.heap.IsList l vs.toArray := ⟨_, kp.keep _ _ hl hS, rfl, n, rfl⟩
    refine tail_any hL.typeIs slot_list_getitem.lookup (getItem_list_out hd hL ?_ (by omega) h) rfl
    rw [List.size_toArray, ha.length]; omega
  cut := by
    intro A E s Q value lo p i t sl aM ms k kp hu _ hsl hi hM hms nM h
    have hL : s.heap.IsList l vs.toArray := ⟨_, kp.keep _ _ hl hS, rfl, n, rfl⟩
    have hv := ha.length
    refine tail_any hL.typeIs slot_list_getitem.lookup (wpAny_getItem_list_slice hL hsl (.int _ _) .none .none (by simp) ?_ (by rw [List.size_toArray, sizeLine_eq]; omega)) rfl
    have e : slicePick vs.toArray (some (i : Int)) none none = (vs.drop i).toArray := by rw [slicePick_from _ _ (by rw [List.size_toArray]; omega)]
    rw [e]
    refine extendCall (s := { s with heap := s.heap.push { cls := .type "list", data := .seq (vs.drop i).toArray } }) (Heap.get?_push_of_some _ hM) (Heap.get?_push_size _ rfl) (by rw [List.length_drop]; omega) fun s' n' g hM' => ?_
    refine h s' _ n' ?_ hM' (ha.drop i)
    exact ⟨fun c o nc q => g.keep c o nc (Heap.get?_push_of_some _ q), g.os, g.gens⟩
end

/-- ints -/
def RepI (v : Value) (x : Int) : Prop := ∃ t, v = .int x t
theorem intsAll {vs : List Value} {ns : List Int} (h : IntsAre vs ns) : All2 RepI vs ns := by
  induction h with
  | nil => exact .nil
  | cons _ _ _ ih => exact .cons ⟨_, rfl⟩ ih
theorem eqI {prog : Program} {w : World} {S : List Addr} {h₀ : Heap} : EqOk prog w S h₀ RepI (fun x y => x == y) := by
  rintro A E s Q v u x y _ _ ⟨t, rfl⟩ ⟨t', rfl⟩ h
  exact eq_int (h _ (.refl _))
theorem ltI {prog : Program} {w : World} {S : List Addr} {h₀ : Heap} : LtOk prog w S h₀ RepI (fun x y => some (decide (x < y))) := by
  rintro A E s Q v u x y _ _ _ ⟨t, rfl⟩ ⟨t', rfl⟩ h _
  exact lt_int (h _ rfl _ (.refl _))
theorem gtI {prog : Program} {w : World} {S : List Addr} {h₀ : Heap} : GtOk prog w S h₀ RepI (fun x y => some (decide (x < y))) (fun x y => decide (x > y)) := by
  rintro A E s Q v u x y _ _ _ ⟨t, rfl⟩ ⟨t', rfl⟩ _ h
  exact gt_int (h _ (.refl _))

abbrev No : Value → Shared → Prop := fun _ _ => False

/-- what stands at the places fp stands -/
def Stay (fp : List Addr) (h h' : Heap) : Prop := ∀ b ∈ fp, ∀ o, h.get? b = some o → h'.get? b = some o

/-- an iterator: its places, its items, its state -/
structure Iter (prog : Program) (w : World) (it : Addr) (fp : List Addr) (n : Nat) (V : Nat → Value → Prop) (P : Nat → Heap → Prop) : Prop where
  mem : it ∈ fp
  there : ∀ {k h}, P k h → h.get? it ≠ none
  keep : ∀ {k h h'}, P k h → Stay fp h h' → P k h'
  item : ∀ {A : Around} {E : Value → Shared → Prop} {s : Shared} {k : Nat} {Q : Option Value → Shared → Prop}, P k s.heap → k < n → (∀ v s', ExL it s s' → P (k + 1) s'.heap → V k v → Q (some v) s') → wpAny (model prog w) A (pyNext (.ref it)) Q E s
  fin : ∀ {A : Around} {E : Value → Shared → Prop} {s : Shared} {Q : Option Value → Shared → Prop}, A.handled = none → P n s.heap → (∀ s', ExL it s s' → Q none s') → wpAny (model prog w) A (pyNext (.ref it)) Q E s
  again : ∀ {A : Around} {E : Value → Shared → Prop} {s : Shared} {k : Nat} {Q : Value → Shared → Prop}, P k s.heap → Q (.ref it) s → wpAny (model prog w) A (pyIter (.ref it)) Q E s
  own : ∀ {s : Shared} {k : Nat} {M : Model} {A : Around} {E : Value → Shared → Prop} {x : Str} {p : Pos} {v : Value} {Q : Unit → Shared → Prop}, P k s.heap → Q () s → wpAny M A (letOwnedTupleGo (.Name x p) (.ref it) v) Q E s

section
variable {prog : Program} {w : World} {A : Around} {E : Value → Shared → Prop} {s : Shared}

theorem iterList {it l : Addr} {vs : List Value} (hil : it ≠ l) : Iter prog w it [it, l] vs.length (fun k v => vs[k]? = some v) (fun k h => h.IsListIter it l k ∧ h.IsList l vs.toArray) where
  mem := .head _
  there := by
    rintro k h ⟨⟨o, ho, r⟩, _⟩ q
    rw [ho] at q; cases q
  keep := by
    rintro k h h' ⟨⟨o, ho, r⟩, ⟨o', ho', r'⟩⟩ st
    exact ⟨⟨o, st it (.head _) o ho, r⟩, ⟨o', st l (.tail _ (.head _)) o' ho', r'⟩⟩
  item := by
    rintro A E s k Q ⟨hi, hl⟩ hk h
    have hx : vs.toArray[k]? = some vs[k] := by simp [hk]
    refine wpAny_pyNext_list_item hi hl hx fun h' hi' sb => h _ _ ⟨fun b o n e => (sb.2 b n).trans e, rfl, rfl⟩ ⟨hi', hl.extBut sb.extBut (Ne.symm hil)⟩ (by simp [hk])
  fin := by
    rintro A E s Q hh ⟨hi, hl⟩ h
    exact wpAny_pyNext_list_end hh hi hl (by simp) fun h' eb => h _ ⟨fun b o n e => eb b o n e, rfl, rfl⟩
  again := by
    rintro A E s k Q ⟨hi, _⟩ h
    exact wpAny_pyIter_listiter hi h
  own := by
    intro s k M A E x p v Q _ h
    exact wpAny_pure h

/-- iter(l) of a list -/
theorem pyIterList {l : Addr} {vs : List Value} {n : Nat} {Q : Value → Shared → Prop} (hl : s.heap.get? l = some (listOf vs.toArray n))
    (h : ∀ s' it, Grow s s' → s.heap.get? it = none → it ≠ l → (s'.heap.IsListIter it l 0 ∧ s'.heap.IsList l vs.toArray) → Q (.ref it) s') : wpAny (model prog w) A (pyIter (.ref l)) Q E s := by
  have hL : s.heap.IsList l vs.toArray := ⟨_, hl, rfl, n, rfl⟩
  exact wpAny_pyIter_list hL (h _ _ ⟨fun _ _ e => Heap.get?_push_of_some _ e, rfl, rfl⟩ (Heap.get?_none_of_le (Nat.le_refl _)) (Nat.ne_of_gt (Heap.lt_size hl)) ⟨⟨_, Heap.get?_push_size _ rfl, rfl, rfl⟩, hL.push _⟩)

/-- range(n) -/
theorem iterRange {it : Addr} {n : Nat} : Iter prog w it [it] n (fun k v => ∃ t, v = .int (k : Nat) t) (fun k h => IsRangeIter h it (k : Nat) ((n : Int) - (k : Nat)) 1) where
  mem := .head _
  there := by
    intro k h hi q
    rw [hi] at q; cases q
  keep := by
    intro k h h' hi st
    exact st it (.head _) _ hi
  item := by
    intro A E s k Q hi hk h
    refine wpAny_pyNext_range_item hi (by omega) fun h' hi' sb => h _ _ ⟨fun b o n e => (sb.2 b n).trans e, rfl, rfl⟩ ?_ ⟨_, rfl⟩
    have e : ((n : Int) - ((k + 1 : Nat) : Int)) = (n : Int) - (k : Nat) - 1 := by omega
    rw [e]; exact hi'
  fin := by
    intro A E s Q hh hi h
    exact wpAny_pyNext_range_end hh hi (by omega) fun h' eb => h _ ⟨fun b o n e => eb b o n e, rfl, rfl⟩
  again := by
    intro A E s k Q hi h
    have hT : s.TypeIs (.ref it) "range_iterator" := ⟨_, hi, rfl⟩
    refine wpAny_pyIter_slot hT PySem.F.slot_range_iterator_iter (wpAny_call_entry PySem.F.slot_range_iterator_iter hT PySem.F.entry_range_iterator_iter ?_ (PySem.F.args_range_iterator_iter_1 _))
    show wpAny _ _ (ret (.ref it)) _ _ s
    exact wpAny_pure ⟨_, rfl, "range_iterator", _, hT, PySem.F.slot_range_iterator_next.lookup, h⟩
  own := by
    intro s k M A E x p v Q _ h
    exact wpAny_pure h
end

section
variable {prog : Program} {w : World} {A : Around} {E : Value → Shared → Prop} {s : Shared}
/-- iter(range(n)) of a range that stands -/
theorem pyIterRange {r : Addr} {n : Nat} {t u v : Tok} {Q : Value → Shared → Prop} (hr : IsRange s.heap r 0 (n : Nat) 1 t u v) (hn : n < 1000000)
    (h : ∀ s' it, Grow s s' → s.heap.get? it = none → IsRangeIter s'.heap it ((0 : Nat) : Int) ((n : Int) - ((0 : Nat) : Int)) 1 → Q (.ref it) s') : wpAny (model prog w) A (pyIter (.ref r)) Q E s := by
  refine wpAny_pyIter_range hr (small_one (by decide) (by decide) (by omega) (by omega)) ?_
  rw [rangeSize_one]
  refine h _ _ ⟨fun _ _ e => Heap.get?_push_of_some _ e, rfl, rfl⟩ (Heap.get?_none_of_le (Nat.le_refl _)) ?_
  have e : (if (0 : Int) < (n : Int) then (n : Int) - 0 else 0) = (n : Int) - ((0 : Nat) : Int) := by split <;> omega
  rw [e]
  exact Heap.get?_push_size _ rfl
end

section
variable {prog : Program} {w : World} {A : Around} {s : Shared} {env : Env}

/-- a for over an iterator, by what holds after k items -/
theorem forIt {R : Result → Shared → Prop} {x : Str} {px : Pos} {body : List Stmt} {it : Addr} {fp : List Addr} {n : Nat} {V : Nat → Value → Prop} {P : Nat → Heap → Prop}
    (D : Iter prog w it fp n V P) (hh : A.handled = none) (p0 : P 0 s.heap) (I : Nat → Shared → Prop) (hI : ∀ k s₁ s₂, I k s₁ → ExL it s₁ s₂ → I k s₂) (h0 : I 0 s)
    (turn : ∀ k v s₁, k < n → V k v → P (k + 1) s₁.heap → I k s₁ → wpAny (model prog w) A (storeName env x v) (fun _ s₂ => wpAny (model prog w) A (execs body env)
      (fun f s₃ => (f = .next ∧ Stay fp s₁.heap s₃.heap ∧ I (k + 1) s₃) ∨ ∃ v, f = .ret v ∧ R (.ok (.ret v)) s₃) No s₂) No s₁)
    (hR : ∀ s', I n s' → R (.ok .next) s') : codeAny (model prog w) A (.forLoop (.Name x px) (.ref it) body [] env) R s := by
  refine codeAny_forLoop (fun c s₁ => ∃ k, k ≤ n ∧ c = n + 1 - k ∧ P k s₁.heap ∧ I k s₁) ?_ (n + 1) ⟨0, Nat.zero_le _, rfl, p0, h0⟩
  rintro c s₁ ⟨k, hk, rfl, hp, hi⟩
  rcases Nat.lt_or_eq_of_le hk with hk | rfl
  · refine D.item hp hk fun v s₂ g hp' hv => ?_
    refine wpAny_assign_Name (wpAny_mono (turn k v s₂ hk hv hp' (hI k s₁ s₂ hi g)) (fun _ s₃ h₃ => wpAny_mono h₃ (fun f s₄ h₄ => ?_) fun _ _ q => q.elim) fun _ _ q => q.elim)
    rcases h₄ with ⟨rfl, st, hi'⟩ | ⟨v, rfl, hr⟩
    · exact ⟨n + 1 - (k + 1), by omega, k + 1, by omega, rfl, D.keep hp' st, hi'⟩
    · exact hr
  · exact D.fin hh hp fun s₂ g => wpAny_execs_nil (hR s₂ (hI _ s₁ s₂ hi g))
end

/-- a comprehension's block -/
def compScope (scope : Scope) (env : Env) : Scope := { scope with names := scope.names.map fun (n, k) => if k == .free && env.scope.kind == .function && env.kindOf n == some .cell then (n, .cell) else (n, k) }
def compEnv (scope : Scope) (env : Env) (Lc : Addr) (cl : List (Str × Addr)) : Env :=
  { scope := compScope scope env, locals := Lc, globals := env.globals, cells := cl, qual := env.qual, func := none, code := env.code, frame := env.frame, builtins := env.builtins }

/-- what is done with a comprehension's list -/
def UseOk (prog : Program) (w : World) (A : Around) (E : Value → Shared → Prop) (use : Option (Value → Sem Unit)) (Q : Value → Shared → Prop) (Lc : Addr) (acc : Value) (s' : Shared) : Prop := match use with
  | none => ∀ s₂, ExL Lc s' s₂ → Q acc s₂
  | some u => wpAny (model prog w) A (u acc) (fun _ s₂ => (∃ m, s₂.heap.Ns Lc m) ∧ ∀ s₃, ExL Lc s₂ s₃ → Q .none s₃) E s'

section
variable {prog : Program} {w : World} {A : Around} {E : Value → Shared → Prop} {s : Shared} {env : Env}

theorem comprehension_ {e : Expr} {scope : Scope} {pos : Pos} {newAcc first : Sem Value} {g : Comprehension} {gs : List Comprehension} {cl : List (Str × Addr)} {use : Option (Value → Sem Unit)} {Q : Value → Shared → Prop}
    (hcl : clausesOf e = g :: gs) (hs : ∀ x, foldedSetIterable g.iter env x = pure x) (hclos : closureFor scope env = pure cl)
    (hcell : ∀ x ∈ scope.names, x.2 ≠ .cell) (hkind : scope.kind = .function)
    (hnames : ∀ x ∈ scope.names, x.2 = .local → (compScope scope env).names.lookup x.1 = some .local)
    (h : wpAny (model prog w) A first (fun x s₁ => wpAny (model prog w) A (pyIter x) (fun it s₂ => wpAny (model prog w) A newAcc (fun acc s₃ => ∀ s₄ Lc, Grow s₃ s₄ → s₃.heap.get? Lc = none → s₄.heap.Ns Lc (fun _ => none) →
        codeAny (model prog w) A (.compStart e 0 it acc (compEnv scope env Lc cl)) (fun r s' => (∃ f, r = .ok f) ∧ (∃ m, s'.heap.Ns Lc m) ∧ UseOk prog w A E use Q Lc acc s') s₄) E s₂) E s₁) E s) :
    wpAny (model prog w) A (comprehension e scope env pos newAcc false first use) Q E s := by
  unfold comprehension
  rw [hclos, hcl]
  refine wpAny_bind (wpAny_mono h (fun x s₁ h₁ => wpAny_bind (wpAny_standAt (wpAny_bind (wpAny_of_eq (hs x) (wpAny_bind (wpAny_holding (wpAny_mono h₁ (fun it s₂ h₂ =>
    wpAny_standIf (wpAny_bind (wpAny_mono h₂ (fun acc s₃ h₃ => wpAny_bind (wpAny_pure (wpAny_bind (wpAny_newFunctionEnv hcell (fun _ q => by cases q) (fun h' hns hsb => ?_) hkind)))) fun _ _ h' => h')))
      fun _ _ h' => h'))))))) fun _ _ h' => h')
  have h₄ := h₃ { s₃ with heap := h', toks := s₃.toks + ([] : List (Str × Value)).length } s₃.heap.objs.size ⟨fun b o e => hsb.extBut b o (Nat.ne_of_lt (Heap.lt_size e)) (Heap.get?_push_of_some _ e), rfl, rfl⟩ (Heap.get?_none_of_le (Nat.le_refl _)) hns
  have hv : ∀ x ∈ (scope.names.filter fun x => (x.2 == .local || x.2 == .cell) && x.1 != (".0" : Str)), x.2 = .local →
      Env.kindOf (compEnv scope env s₃.heap.objs.size cl) x.1 = some .local := fun x hx hl => hnames x (List.mem_filter.mp hx).1 hl
  dsimp only
  refine wpAny_holding (wpAny_bind (wpAny_attempt (wpAny_holding (wpAny_run (codeAny_mono h₄ fun r s' hr => ?_)))))
  obtain ⟨⟨f, rfl⟩, ⟨m, hn⟩, hr⟩ := hr
  cases use with
  | none =>
    exact wpAny_bind (wpAny_holding (wpAny_comp_letGo (cenv := compEnv scope env s₃.heap.objs.size cl) hkind _ s' m (fun x hx => hv x (List.mem_reverse.mp hx)) hn fun h' m' _ hs' => wpAny_pure (hr _ ⟨fun b o n q => (hs'.2 b n).trans q, rfl, rfl⟩)))
  | some u =>
    refine wpAny_bind (wpAny_rule (wpAny_bind (wpAny_holding (wpAny_mono hr (fun _ s'' hu => ?_) fun _ _ q => q))))
    obtain ⟨⟨m', hn'⟩, hu⟩ := hu
    refine wpAny_bind (wpAny_comp_letGo (cenv := compEnv scope env s₃.heap.objs.size cl) hkind _ s'' m' (fun x hx => hv x ?_) hn' fun h' m'' _ hs' => wpAny_pure (hu _ ⟨fun b o n q => (hs'.2 b n).trans q, rfl, rfl⟩))
    rcases List.mem_append.mp hx with hx | hx
    · exact List.mem_reverse.mp (List.mem_of_mem_drop hx)
    · exact List.mem_reverse.mp (List.mem_of_mem_take hx)
end

/-- the conditions of a clause -/
def conds (ifs : List Expr) (env : Env) : Sem Bool := forIn ifs true fun c ok => if ok = true then (do let b ← PySem.isTrue c env (eval c env); pure (ForInStep.yield b)) else pure (ForInStep.yield ok)

section
variable {prog : Program} {w : World} {A : Around} {E : Value → Shared → Prop} {s : Shared} {env : Env}

theorem conds_nil {Q : Bool → Shared → Prop} (h : Q true s) : wpAny (model prog w) A (conds [] env) Q E s := wpAny_pure h
theorem conds_one {c : Expr} {Q : Bool → Shared → Prop} (h : wpAny (model prog w) A (PySem.isTrue c env (eval c env)) Q E s) : wpAny (model prog w) A (conds [c] env) Q E s := by
  unfold conds
  rw [List.forIn_cons, if_pos rfl]
  exact wpAny_bind (wpAny_bind (wpAny_mono h (fun b s₁ h₁ => wpAny_pure (wpAny_pure h₁)) fun _ _ x => x))

theorem compLeaf {R : Result → Shared → Prop} {elt iter : Expr} {x : Str} {px : Pos} {ifs : List Expr} {gens : List Comprehension} {d : Nat} {scope : Scope} {pos : Pos} {acc : Value} {it : Addr} {fp : List Addr} {n : Nat} {V : Nat → Value → Prop} {P : Nat → Heap → Prop}
    (hg : gens[d]? = some ⟨.Name x px, iter, ifs, 0⟩) (hg' : gens[d + 1]? = none)
    (D : Iter prog w it fp n V P) (hh : A.handled = none) (p0 : P 0 s.heap) (I : Nat → Shared → Prop) (hI : ∀ k s₁ s₂, I k s₁ → ExL it s₁ s₂ → I k s₂) (h0 : I 0 s)
    (turn : ∀ k v s₁, k < n → V k v → P (k + 1) s₁.heap → I k s₁ → wpAny (model prog w) A (storeName env x v) (fun _ s₂ => wpAny (model prog w) A (conds ifs env) (fun ok s₃ =>
      if ok = true then wpAny (model prog w) A (eval elt env) (fun u s₄ => wpAny (model prog w) A (call (.builtin "list.append") [acc, u]) (fun _ s₅ => Stay fp s₁.heap s₅.heap ∧ I (k + 1) s₅) No s₄) No s₃
      else Stay fp s₁.heap s₃.heap ∧ I (k + 1) s₃) No s₂) No s₁)
    (hR : ∀ s', I n s' → R (.ok .next) s') : codeAny (model prog w) A (.compLoop (.ListComp elt gens scope pos) d (.ref it) acc env) R s := by
  refine codeAny_loop rfl (fun c s₁ => ∃ k, k ≤ n ∧ c = n + 1 - k ∧ P k s₁.heap ∧ I k s₁) ?_ (n + 1) ⟨0, Nat.zero_le _, rfl, p0, h0⟩
  rintro c s₁ ⟨k, hk, rfl, hp, hi⟩
  show wpAny _ _ ((compTurn (.ListComp elt gens scope pos) d (.ref it) acc env).onRaise (fun x => do noteFrame x env; theTreesLotGoes x)) _ _ s₁
  refine wpAny_noted ?_
  unfold compTurn
  dsimp only
  rw [hg]
  dsimp only
  refine wpAny_bind (wpAny_standAt ?_)
  rw [if_neg (by decide)]
  refine wpAny_bind ?_
  rcases Nat.lt_or_eq_of_le hk with hk | rfl
  · refine D.item hp hk fun v s₂ g hp' hv => ?_
    dsimp only
    refine wpAny_bind (D.own hp' (wpAny_bind (wpAny_assign_Name ?_)))
    refine wpAny_mono (turn k v s₂ hk hv hp' (hI k s₁ s₂ hi g)) (fun _ s₃ h₃ => ?_) fun _ _ q => q.elim
    refine wpAny_bind (wpAny_mono h₃ (fun ok s₄ h₄ => ?_) fun _ _ q => q.elim)
    rw [hg']
    cases ok with
    | true =>
      rw [if_pos rfl] at h₄ ⊢
      refine wpAny_bind (wpAny_bind (wpAny_mono h₄ (fun u s₅ h₅ => wpAny_bind (wpAny_mono h₅ (fun _ s₆ h₆ => wpAny_pure (wpAny_pure ⟨rfl, n + 1 - (k + 1), by omega, k + 1, by omega, rfl, D.keep hp' h₆.1, h₆.2⟩)) fun _ _ q => q.elim)) fun _ _ q => q.elim))
    | false =>
      rw [if_neg (by decide)] at h₄ ⊢
      exact wpAny_pure ⟨rfl, n + 1 - (k + 1), by omega, k + 1, by omega, rfl, D.keep hp' h₄.1, h₄.2⟩
  · exact D.fin hh hp fun s₂ g => wpAny_pure (hR s₂ (hI _ s₁ s₂ hi g))

theorem compInner {R : Result → Shared → Prop} {elt iter iter' t' : Expr} {x : Str} {px : Pos} {ifs ifs' : List Expr} {gens : List Comprehension} {d : Nat} {scope : Scope} {pos : Pos} {acc : Value} {it : Addr} {fp : List Addr} {n : Nat} {V : Nat → Value → Prop} {P : Nat → Heap → Prop}
    (hg : gens[d]? = some ⟨.Name x px, iter, ifs, 0⟩) (hg' : gens[d + 1]? = some ⟨t', iter', ifs', 0⟩) (hs : ∀ x, foldedSetIterable iter' env x = pure x)
    (D : Iter prog w it fp n V P) (hh : A.handled = none) (p0 : P 0 s.heap) (I : Nat → Shared → Prop) (hI : ∀ k s₁ s₂, I k s₁ → ExL it s₁ s₂ → I k s₂) (h0 : I 0 s)
    (turn : ∀ k v s₁, k < n → V k v → P (k + 1) s₁.heap → I k s₁ → wpAny (model prog w) A (storeName env x v) (fun _ s₂ => wpAny (model prog w) A (conds ifs env) (fun ok s₃ =>
      if ok = true then wpAny (model prog w) A (eval iter' env) (fun y s₄ => wpAny (model prog w) A (pyIter y) (fun it' s₅ =>
        codeAny (model prog w) A (.compStart (.ListComp elt gens scope pos) (d + 1) it' acc env) (fun r s₆ => (∃ f, r = .ok f) ∧ Stay fp s₁.heap s₆.heap ∧ I (k + 1) s₆) s₅) No s₄) No s₃
      else Stay fp s₁.heap s₃.heap ∧ I (k + 1) s₃) No s₂) No s₁)
    (hR : ∀ s', I n s' → R (.ok .next) s') : codeAny (model prog w) A (.compLoop (.ListComp elt gens scope pos) d (.ref it) acc env) R s := by
  refine codeAny_loop rfl (fun c s₁ => ∃ k, k ≤ n ∧ c = n + 1 - k ∧ P k s₁.heap ∧ I k s₁) ?_ (n + 1) ⟨0, Nat.zero_le _, rfl, p0, h0⟩
  rintro c s₁ ⟨k, hk, rfl, hp, hi⟩
  show wpAny _ _ ((compTurn (.ListComp elt gens scope pos) d (.ref it) acc env).onRaise (fun x => do noteFrame x env; theTreesLotGoes x)) _ _ s₁
  refine wpAny_noted ?_
  unfold compTurn
  dsimp only
  rw [hg]
  dsimp only
  refine wpAny_bind (wpAny_standAt ?_)
  rw [if_neg (by decide)]
  refine wpAny_bind ?_
  rcases Nat.lt_or_eq_of_le hk with hk | rfl
  · refine D.item hp hk fun v s₂ g hp' hv => ?_
    dsimp only
    refine wpAny_bind (D.own hp' (wpAny_bind (wpAny_assign_Name ?_)))
    refine wpAny_mono (turn k v s₂ hk hv hp' (hI k s₁ s₂ hi g)) (fun _ s₃ h₃ => ?_) fun _ _ q => q.elim
    refine wpAny_bind (wpAny_mono h₃ (fun ok s₄ h₄ => ?_) fun _ _ q => q.elim)
    rw [hg']
    cases ok with
    | true =>
      rw [if_pos rfl] at h₄ ⊢
      dsimp only
      refine wpAny_bind (wpAny_mono h₄ (fun y s₅ h₅ => ?_) fun _ _ q => q.elim)
      refine wpAny_bind (wpAny_standAt ?_)
      rw [if_neg (by decide), hs]
      refine wpAny_bind (wpAny_pure ?_)
      rw [if_neg (by decide)]
      refine wpAny_bind (wpAny_holding (wpAny_mono h₅ (fun it' s₆ h₆ => ?_) fun _ _ q => q.elim))
      refine wpAny_bind (wpAny_runOwn (codeAny_mono h₆ fun r s₇ h₇ => ?_))
      obtain ⟨⟨f, rfl⟩, st, hi'⟩ := h₇
      exact wpAny_pure ⟨rfl, n + 1 - (k + 1), by omega, k + 1, by omega, rfl, D.keep hp' st, hi'⟩
    | false =>
      rw [if_neg (by decide)] at h₄ ⊢
      exact wpAny_pure ⟨rfl, n + 1 - (k + 1), by omega, k + 1, by omega, rfl, D.keep hp' h₄.1, h₄.2⟩
  · exact D.fin hh hp fun s₂ g => wpAny_pure (hR s₂ (hI _ s₁ s₂ hi g))

theorem compStart_ {R : Result → Shared → Prop} {elt : Expr} {g : Comprehension} {gens : List Comprehension} {d : Nat} {scope : Scope} {pos : Pos} {acc : Value} {it : Addr} {fp : List Addr} {n k : Nat} {V : Nat → Value → Prop} {P : Nat → Heap → Prop}
    (hg : gens[d]? = some g) (ha : g.is_async = 0) (D : Iter prog w it fp n V P) (p0 : P k s.heap)
    (h : codeAny (model prog w) A (.compLoop (.ListComp elt gens scope pos) d (.ref it) acc env) R s) : codeAny (model prog w) A (.compStart (.ListComp elt gens scope pos) d (.ref it) acc env) R s := by
  refine codeAny_of_tree ?_
  show wpAny _ _ ((compStart (.ListComp elt gens scope pos) d (.ref it) acc env).onRaise (fun x => do noteFrame x env; standAt theWindowsPlace)) _ _ s
  refine wpAny_notedAt ?_
  unfold compStart
  have hc : clausesOf (.ListComp elt gens scope pos) = gens := rfl
  have e : (((clausesOf (.ListComp elt gens scope pos))[d]?).elim false fun x => x.is_async != 0) = false := by
    rw [hc, hg]; show (g.is_async != 0) = false; rw [ha]; rfl
  rw [e, if_neg (by decide)]
  refine wpAny_bind (wpAny_askSetting (wpAny_ite ?_))
  split
  · exact wpAny_pure (And.intro rfl h)
  · refine wpAny_bind (wpAny_rule ?_)
    rw [hc, hg]
    dsimp only
    refine wpAny_bind (wpAny_standAt (wpAny_bind (D.again p0 (wpAny_pure (And.intro rfl h)))))
end

section
variable {prog : Program} {w : World} {A : Around} {E : Value → Shared → Prop} {s : Shared} {env : Env} {m : Str → Option Value}

theorem ldE {x : Str} {v : Value} {pos : Pos} {Q : Value → Shared → Prop} (hn : s.heap.Ns env.locals m) (hv : m x = some v) (h : Q v s)
    (hk : env.scope.kind = .function := by rfl) (hl : env.kindOf x = some .local := by rfl) (hd : (x == ("__debug__" : Str)) = false := by decide) : wpAny (model prog w) A (eval (.Name x pos) env) Q E s :=
  wpAny_Name (wpAny_loadName_local hk hl hn hv h) hd
theorem stE {x : Str} {v : Value} {Q : Unit → Shared → Prop} (hn : s.heap.Ns env.locals m) (h : ∀ s', s'.heap.Ns env.locals (upd m x v) → ExL env.locals s s' → Q () s')
    (hk : env.scope.kind = .function := by rfl) (hl : env.kindOf x = some .local := by rfl) : wpAny (model prog w) A (storeName env x v) Q E s :=
  wpAny_storeName_local hl hn (fun _ hn' hs => h _ hn' ⟨fun b _ n e => (hs.2 b n).trans e, rfl, rfl⟩) (by rw [hk]; rfl)

/-- a captured name -/
theorem ldCell {x : Str} {v : Value} {pos : Pos} {a : Addr} {o : Obj} {Q : Value → Shared → Prop} (hc : env.cells.lookup x = some a) (ho : s.heap.get? a = some o) (hd' : o.data = .cell (some v)) (h : Q v s)
    (hk : env.scope.kind = .function := by rfl) (hl : env.kindOf x = some .cell := by rfl) (hd : (x == ("__debug__" : Str)) = false := by decide) : wpAny (model prog w) A (eval (.Name x pos) env) Q E s := by
  refine wpAny_Name ?_ hd
  have hb : env.blockKind = .function := by unfold Env.blockKind; rw [hk]; rfl
  have ha : env.scope.kind.isAnnotationScope = false := by rw [hk]; rfl
  unfold loadName
  rw [ha, hb, hl]
  simp only [Bool.false_and, Bool.false_eq_true, if_false]
  unfold cellOf
  rw [hc]
  refine wpAny_bind (wpAny_pure ?_)
  unfold cellGet
  refine wpAny_bind (wpAny_bind (wpAny_load ho ?_))
  rw [hd']
  exact wpAny_pure (wpAny_pure h)

theorem nameBE {x : Str} {v : Value} {pos : Pos} {base : Heap} {Q : Value → Shared → Prop} (hb : base.StaysIn s.heap) (B : Bn base x v) (h : Q v s) (eg : env.globals = mainGlobals := by rfl) (eb : env.builtins = builtinsNs := by rfl)
    (hk : env.scope.kind = .function := by rfl) (hx : env.kindOf x = some .globalImplicit := by rfl) (hd : (x == ("__debug__" : Str)) = false := by decide) : wpAny (model prog w) A (eval (.Name x pos) env) Q E s :=
  let ⟨_, _, g, n, b, v'⟩ := B
  Calls.Name_function_global hk hx (Calls.loadGlobal_builtin (env := env) (eg ▸ g.keeps hb) n (eb ▸ b.keeps hb) v' h) hd
end

/-- the place that a value names -/
def rf : Value → List Addr
  | .ref c => [c]
  | _ => []

section
variable {prog : Program} {w : World} {A : Around} {E : Value → Shared → Prop} {s : Shared} {env : Env} {α β : Type}

/-- where a comprehension's (or a loop's) items come from -/
structure Src (prog : Program) (w : World) (s s₂ : Shared) (RA : Value → α → Prop) (X : List α) (it : Addr) (fp : List Addr) (V : Nat → Value → Prop) (P : Nat → Heap → Prop) : Prop where
  D : Iter prog w it fp X.length V P
  p0 : P 0 s₂.heap
  g : Grow s s₂
  ni : s.heap.get? it = none
  ii : s₂.heap.get? it ≠ none
  fp : ∀ b ∈ fp, s₂.heap.get? b ≠ none
  ra : ∀ k v (hk : k < X.length), V k v → RA v X[k]

/-- the list that «[elt for x in .. if ..]» fills: the walk over its one clause -/
theorem compWalk {R : Result → Shared → Prop} {s₂ s₃ s₄ : Shared} {RA : Value → α → Prop} {RO : Value → β → Heap → Prop} {X : List α} {p : α → Bool} {f : α → β} {elt iter : Expr} {x : Str} {px : Pos} {ifs : List Expr} {gens : List Comprehension} {d : Nat} {scope : Scope} {pos : Pos} {it Lc Dl : Addr} {fp : List Addr} {V : Nat → Value → Prop} {P : Nat → Heap → Prop} {us₀ : List Value} {bs₀ : List β}
    (hg : gens[d]? = some ⟨.Name x px, iter, ifs, 0⟩) (hg' : gens[d + 1]? = none) (hh : A.handled = none)
    (mono : ∀ u b h h', RO u b h → (∀ c ∈ rf u, ∀ o, h.get? c = some o → h'.get? c = some o) → RO u b h')
    (S : Src prog w s s₂ RA X it fp V P) (g₄ : Grow s₂ s₄) (nD : s.heap.get? Dl = none) (nL : s.heap.get? Lc = none) (fD : Dl ∉ fp) (fL : Lc ∉ fp) (LD : Lc ≠ Dl) (eL : env.locals = Lc)
    (hns : ∃ m, s₄.heap.Ns Lc m) (hD : ∃ j, s₄.heap.get? Dl = some (listOf us₀.toArray j)) (a₀ : All2 (fun u b => RO u b s₄.heap) us₀ bs₀) (o₀ : ∀ u ∈ us₀, ∀ c ∈ rf u, s₄.heap.get? c ≠ none ∧ c ≠ it ∧ c ≠ Lc ∧ c ≠ Dl) (hz : us₀.length + X.length < 1000000)
    (hk : env.scope.kind = .function) (hl : env.kindOf x = some .local)
    (hcond : ∀ v a s₁ m, Grow s s₁ → RA v a → s₁.heap.Ns Lc m → m x = some v → wpAny (model prog w) A (conds ifs env) (fun ok s₂ => Grow s₁ s₂ ∧ ok = p a) No s₁)
    (helt : ∀ v a s₁ m, Grow s s₁ → RA v a → p a = true → s₁.heap.Ns Lc m → m x = some v → wpAny (model prog w) A (eval elt env) (fun u s₂ => Grow s₁ s₂ ∧ RO u (f a) s₂.heap ∧ ∀ c ∈ rf u, s₂.heap.get? c ≠ none ∧ (s₁.heap.get? c = none ∨ s.heap.get? c ≠ none)) No s₁)
    (hR : ∀ s' us j, (∀ b o, b ≠ it → b ≠ Lc → b ≠ Dl → s₄.heap.get? b = some o → s'.heap.get? b = some o) → s'.os = s₄.os → s'.gens = s₄.gens → (∃ m, s'.heap.Ns Lc m) → s'.heap.get? Dl = some (listOf us.toArray j) → All2 (fun u b => RO u b s'.heap) us (bs₀ ++ (X.filter p).map f) →
      (∀ u ∈ us, ∀ c ∈ rf u, s'.heap.get? c ≠ none ∧ c ≠ it ∧ c ≠ Lc ∧ c ≠ Dl) → us.length ≤ us₀.length + X.length → R (.ok .next) s') :
    codeAny (model prog w) A (.compLoop (.ListComp elt gens scope pos) d (.ref it) (.ref Dl) env) R s₄ := by
  subst eL
  have iD : it ≠ Dl := fun q => fD (q ▸ S.D.mem)
  have iL : it ≠ env.locals := fun q => fL (q ▸ S.D.mem)
  have gs₄ : Grow s s₄ := S.g.trans g₄
  have toAll : ∀ {h h' : Heap} {us : List Value} {bs : List β}, All2 (fun u b => RO u b h) us bs → (∀ u ∈ us, ∀ c ∈ rf u, ∀ o, h.get? c = some o → h'.get? c = some o) → All2 (fun u b => RO u b h') us bs := by
    intro h h' us bs ha
    induction ha with
    | nil => exact fun _ => .nil
    | cons r _ ih => exact fun hh => .cons (mono _ _ _ _ r (hh _ (.head _))) (ih fun u hu => hh u (.tail _ hu))
  have stay : ∀ {h h' : Heap} {c : Addr}, (∀ o, h.get? c = some o → h'.get? c = some o) → h.get? c ≠ none → h'.get? c ≠ none := by
    intro h h' c k n q
    cases e : h.get? c with
    | none => exact n e
    | some o => rw [k o e] at q; cases q
  -- the invariant
  refine compLeaf hg hg' S.D hh (S.D.keep S.p0 fun b _ o e => g₄.keep b o e)
    (fun k s₁ => (∀ b o, b ≠ it → b ≠ env.locals → b ≠ Dl → s₄.heap.get? b = some o → s₁.heap.get? b = some o) ∧ s₁.os = s₄.os ∧ s₁.gens = s₄.gens ∧ (∃ m, s₁.heap.Ns env.locals m) ∧
      ∃ us j, s₁.heap.get? Dl = some (listOf us.toArray j) ∧ All2 (fun u b => RO u b s₁.heap) us (bs₀ ++ ((X.take k).filter p).map f) ∧ (∀ u ∈ us, ∀ c ∈ rf u, s₁.heap.get? c ≠ none ∧ c ≠ it ∧ c ≠ env.locals ∧ c ≠ Dl) ∧ us.length ≤ us₀.length + k)
    ?_ ?_ ?_ ?_
  · -- the iterator turns
    rintro k s₁ s₂ ⟨h1, h2, h3, ⟨m, h4⟩, us, j, h5, h6, h7, h8⟩ g
    have kc : ∀ u ∈ us, ∀ c ∈ rf u, ∀ o, s₁.heap.get? c = some o → s₂.heap.get? c = some o := fun u hu c hc o e => g.keep c o (h7 u hu c hc).2.1 e
    refine ⟨fun b o n1 n2 n3 e => g.keep b o n1 (h1 b o n1 n2 n3 e), g.os.trans h2, g.gens.trans h3, ?_, us, j, g.keep _ _ (Ne.symm iD) h5, toAll h6 kc, fun u hu c hc => ⟨stay (kc u hu c hc) (h7 u hu c hc).1, (h7 u hu c hc).2⟩, h8⟩
    obtain ⟨o, es, ep, ho, r⟩ := h4
    exact ⟨m, o, es, ep, g.keep _ _ (Ne.symm iL) ho, r⟩
  · -- the start
    obtain ⟨j, hD⟩ := hD
    exact ⟨fun b o _ _ _ e => e, rfl, rfl, hns, us₀, j, hD, by simpa using a₀, o₀, by omega⟩
  · -- a turn
    rintro k v s₁ hkn hv hp ⟨h1, h2, h3, ⟨m, h4⟩, us, j, h5, h6, h7, h8⟩
    have ra := S.ra k v hkn hv
    have git := S.D.there hp
    refine stE h4 (fun s₂ hn₂ g₂ => ?_) hk hl
    have gs : ∀ {s' : Shared}, ExL env.locals s₁ s' → Grow s s' := fun {s'} g => by
      refine ⟨fun b o e => g.keep b o (fun q => by rw [q, nL] at e; cases e) (h1 b o (fun q => by rw [q, S.ni] at e; cases e) (fun q => by rw [q, nL] at e; cases e) (fun q => by rw [q, nD] at e; cases e) (gs₄.keep b o e)), ?_, ?_⟩
      · exact g.os.trans (h2.trans gs₄.os)
      · exact g.gens.trans (h3.trans gs₄.gens)
    have gs₂ := gs g₂
    refine wpAny_mono (hcond v X[k] s₂ _ gs₂ ra hn₂ upd_same) (fun ok s₃ h₃ => ?_) fun _ _ q => q
    obtain ⟨g₃, rfl⟩ := h₃
    have tk : X.take (k + 1) = X.take k ++ [X[k]] := by rw [List.take_succ_eq_append_getElem hkn]
    have e₁₃ : ExL env.locals s₁ s₃ := g₂.trans g₃.exL
    have kc : ∀ u ∈ us, ∀ c ∈ rf u, ∀ o, s₁.heap.get? c = some o → s₃.heap.get? c = some o := fun u hu c hc o e => e₁₃.keep c o (h7 u hu c hc).2.2.1 e
    cases hpk : p X[k] with
    | false =>
      rw [if_neg (by decide)]
      refine ⟨fun b hb o e => e₁₃.keep b o (fun q => fL (q ▸ hb)) e, fun b o n1 n2 n3 e => e₁₃.keep b o n2 (h1 b o n1 n2 n3 e), e₁₃.os.trans h2, e₁₃.gens.trans h3, ⟨_, hn₂.keeps g₃.keep⟩, us, j, e₁₃.keep _ _ (Ne.symm LD) h5, ?_, fun u hu c hc => ⟨stay (kc u hu c hc) (h7 u hu c hc).1, (h7 u hu c hc).2⟩, by omega⟩
      rw [tk, List.filter_append]
      have : [X[k]].filter p = [] := by simp [hpk]
      rw [this, List.append_nil]
      exact toAll h6 kc
    | true =>
      rw [if_pos rfl]
      refine wpAny_mono (helt v X[k] s₃ _ (gs₂.trans g₃) ra hpk (hn₂.keeps g₃.keep) upd_same) (fun u s₅ h₅ => ?_) fun _ _ q => q
      obtain ⟨g₅, ro, fr⟩ := h₅
      have e₁₅ : ExL env.locals s₁ s₅ := e₁₃.trans g₅.exL
      have h5' := e₁₅.keep _ _ (Ne.symm LD) h5
      refine append_at h5' (fun h' sb hD' => ?_) (by rw [List.size_toArray, sizeLine_eq]; omega)
      have k5 : ∀ b o, b ≠ Dl → s₅.heap.get? b = some o → h'.get? b = some o := fun b o n e => (sb.2 b n).trans e
      have ncu : ∀ c ∈ rf u, c ≠ it ∧ c ≠ env.locals ∧ c ≠ Dl := fun c hc => by
        rcases (fr c hc).2 with q | q
        · have nx : ∀ {d : Addr}, s₃.heap.get? d ≠ none → c ≠ d := fun n e => n (e ▸ q)
          refine ⟨nx (stay (fun o e => e₁₃.keep it o iL e) git), nx ?_, nx ?_⟩
          · obtain ⟨o, _, _, ho, _⟩ := hn₂.keeps g₃.keep
            rw [ho]; exact fun q => by cases q
          · rw [e₁₃.keep _ _ (Ne.symm LD) h5]; exact fun q => by cases q
        · refine ⟨fun e => q (e ▸ S.ni), fun e => q (e ▸ nL), fun e => q (e ▸ nD)⟩
      have e' : us.toArray.push u = (us ++ [u]).toArray := by simp
      rw [e'] at hD'
      refine ⟨fun b hb o e => k5 b o (fun q => fD (q ▸ hb)) (e₁₅.keep b o (fun q => fL (q ▸ hb)) e), fun b o n1 n2 n3 e => k5 b o n3 (e₁₅.keep b o n2 (h1 b o n1 n2 n3 e)), e₁₅.os.trans h2, e₁₅.gens.trans h3, ?_, us ++ [u], _, hD', ?_, ?_, ?_⟩
      · obtain ⟨o, es, ep, ho, r⟩ := hn₂.keeps (fun b o e => g₅.keep b o (g₃.keep b o e))
        exact ⟨_, o, es, ep, k5 _ _ LD ho, r⟩
      · rw [tk, List.filter_append, List.map_append, ← List.append_assoc]
        refine (toAll h6 fun u hu c hc o e => k5 c o (h7 u hu c hc).2.2.2 (e₁₅.keep c o (h7 u hu c hc).2.2.1 e)).append ?_
        have : [X[k]].filter p = [X[k]] := by simp [hpk]
        rw [this]
        exact .cons (mono _ _ _ _ ro fun c hc o e => k5 c o (ncu c hc).2.2 e) .nil
      · intro u' hu c hc
        rcases List.mem_append.mp hu with hu | hu
        · exact ⟨stay (fun o e => k5 c o (h7 u' hu c hc).2.2.2 (e₁₅.keep c o (h7 u' hu c hc).2.2.1 e)) (h7 u' hu c hc).1, (h7 u' hu c hc).2⟩
        · rw [List.mem_singleton.mp hu] at hc
          exact ⟨stay (fun o e => k5 c o (ncu c hc).2.2 e) (fr c hc).1, ncu c hc⟩
      · simp; omega
  · -- the end
    rintro s' ⟨h1, h2, h3, h4, us, j, h5, h6, h7, h8⟩
    rw [List.take_length] at h6
    exact hR s' us j h1 h2 h3 h4 h5 h6 h7 h8
end

section
variable {prog : Program} {w : World} {A : Around} {E : Value → Shared → Prop} {s : Shared} {env : Env} {α β : Type}

theorem namesOk {sc sc' : List (Str × NameKind)} (h : (sc.all fun y => y.2 != .local || sc'.lookup y.1 == some .local) = true) : ∀ y ∈ sc, y.2 = .local → sc'.lookup y.1 = some .local := fun y hy q => by
  have := List.all_eq_true.mp h y hy
  rw [q] at this
  simpa using this

/-- the walk of «[elt for x in .. if ..]» with what is done with its list -/
theorem listCompU {RA : Value → α → Prop} {RO : Value → β → Heap → Prop} {X : List α} {p : α → Bool} {f : α → β} {elt iter : Expr} {x : Str} {px : Pos} {ifs : List Expr} {scope : Scope} {pos ip : Pos} {cl : List (Str × Addr)} {use : Option (Value → Sem Unit)} {Q : Value → Shared → Prop}
    (hs : ∀ y, foldedSetIterable iter env y = pure y) (hclos : closureFor scope env = pure cl) (hcell : ∀ y ∈ scope.names, y.2 ≠ .cell) (hkind : scope.kind = .function)
    (hnames : ∀ y ∈ scope.names, y.2 = .local → (compScope scope env).names.lookup y.1 = some .local) (hx : (compScope scope env).names.lookup x = some .local)
    (hh : A.handled = none)
    (mono : ∀ u b h h', RO u b h → (∀ c ∈ rf u, ∀ o, h.get? c = some o → h'.get? c = some o) → RO u b h')
    (hsrc : wpAny (model prog w) A (eval iter env) (fun y s₁ => wpAny (model prog w) A (pyIter y) (fun itv s₂ => ∃ it fp V P, itv = .ref it ∧ Src prog w s s₂ RA X it fp V P) E s₁) E s) (hz : X.length < 1000000)
    (hcond : ∀ v a s₁ Lc m, Grow s s₁ → RA v a → s₁.heap.Ns Lc m → m x = some v → wpAny (model prog w) A (conds ifs (compEnv scope env Lc cl)) (fun ok s₂ => Grow s₁ s₂ ∧ ok = p a) No s₁)
    (helt : ∀ v a s₁ Lc m, Grow s s₁ → RA v a → p a = true → s₁.heap.Ns Lc m → m x = some v → wpAny (model prog w) A (eval elt (compEnv scope env Lc cl)) (fun u s₂ => Grow s₁ s₂ ∧ RO u (f a) s₂.heap ∧ ∀ c ∈ rf u, s₂.heap.get? c ≠ none ∧ (s₁.heap.get? c = none ∨ s.heap.get? c ≠ none)) No s₁)
    (hQ : ∀ s' Lc D us j, Grow s s' → s.heap.get? D = none → s.heap.get? Lc = none → Lc ≠ D → (∃ m, s'.heap.Ns Lc m) → s'.heap.get? D = some (listOf us.toArray j) → All2 (fun u b => RO u b s'.heap) us ((X.filter p).map f) → us.length ≤ X.length →
      (∀ u ∈ us, ∀ c ∈ rf u, s'.heap.get? c ≠ none ∧ c ≠ D ∧ c ≠ Lc) → UseOk prog w A E use Q Lc (.ref D) s') :
    wpAny (model prog w) A (comprehension (.ListComp elt [⟨.Name x px, iter, ifs, 0⟩] scope pos) scope env ip (newList []) false (eval iter env) use) Q E s := by
  refine comprehension_ (g := ⟨.Name x px, iter, ifs, 0⟩) (gs := []) rfl hs hclos hcell hkind hnames (wpAny_mono hsrc (fun y s₁ h₁ => wpAny_mono h₁ (fun itv s₂ h₂ => ?_) fun _ _ q => q) fun _ _ q => q)
  obtain ⟨it, fp, V, P, rfl, S⟩ := h₂
  refine newList_ fun s₃ D g₃ gD nD => ?_
  intro s₄ Lc g₄ nL hns
  have keepS : ∀ {a : Addr}, s₂.heap.get? a = none → s.heap.get? a = none := fun {a} q => by
    cases e : s.heap.get? a with
    | none => rfl
    | some o => rw [S.g.keep _ _ e] at q; cases q
  have nL₂ : s₂.heap.get? Lc = none := by
    cases e : s₂.heap.get? Lc with
    | none => rfl
    | some o => rw [g₃.keep _ _ e] at nL; cases nL
  have LD : Lc ≠ D := fun q => by rw [q, gD] at nL; cases nL
  have hg : ([⟨.Name x px, iter, ifs, 0⟩] : List Comprehension)[0]? = some ⟨.Name x px, iter, ifs, 0⟩ := rfl
  refine compStart_ hg rfl S.D (S.D.keep S.p0 fun b _ o e => g₄.keep b o (g₃.keep b o e)) ?_
  refine compWalk (s₂ := s₂) (s₃ := s₃) (us₀ := []) (bs₀ := []) (Lc := Lc) hg rfl hh mono S (g₃.trans g₄) (keepS nD) (keepS nL₂) (fun q => S.fp _ q nD) (fun q => S.fp _ q nL₂) LD rfl ⟨_, hns⟩ ⟨0, g₄.keep _ _ gD⟩ .nil (fun u hu => by cases hu) (by simpa using hz) hkind hx
    (fun v a s₁ m => hcond v a s₁ Lc m) (fun v a s₁ m => helt v a s₁ Lc m) fun s' us j k1 k2 k3 hm hD ha hf hl => ?_
  have gs : Grow s s' := ⟨fun b o e => k1 b o (fun q => by rw [q, S.ni] at e; cases e) (fun q => by rw [q, keepS nL₂] at e; cases e) (fun q => by rw [q, keepS nD] at e; cases e) (g₄.keep b o (g₃.keep b o (S.g.keep b o e))), k2.trans (g₄.os.trans (g₃.os.trans S.g.os)), k3.trans (g₄.gens.trans (g₃.gens.trans S.g.gens))⟩
  exact ⟨⟨_, rfl⟩, hm, hQ s' Lc D us j gs (keepS nD) (keepS nL₂) LD hm hD ha (by simpa using hl) fun u hu c hc => ⟨(hf u hu c hc).1, (hf u hu c hc).2.2.2, (hf u hu c hc).2.2.1⟩⟩

/-- «[elt for x in .. if ..]» as a value -/
theorem listComp1 {RA : Value → α → Prop} {RO : Value → β → Heap → Prop} {X : List α} {p : α → Bool} {f : α → β} {elt iter : Expr} {x : Str} {px : Pos} {ifs : List Expr} {scope : Scope} {pos : Pos} {cl : List (Str × Addr)} {Q : Value → Shared → Prop}
    (hh : A.handled = none)
    (mono : ∀ u b h h', RO u b h → (∀ c ∈ rf u, ∀ o, h.get? c = some o → h'.get? c = some o) → RO u b h')
    (hsrc : wpAny (model prog w) A (eval iter env) (fun y s₁ => wpAny (model prog w) A (pyIter y) (fun itv s₂ => ∃ it fp V P, itv = .ref it ∧ Src prog w s s₂ RA X it fp V P) E s₁) E s) (hz : X.length < 1000000)
    (hcond : ∀ v a s₁ Lc m, Grow s s₁ → RA v a → s₁.heap.Ns Lc m → m x = some v → wpAny (model prog w) A (conds ifs (compEnv scope env Lc cl)) (fun ok s₂ => Grow s₁ s₂ ∧ ok = p a) No s₁)
    (helt : ∀ v a s₁ Lc m, Grow s s₁ → RA v a → p a = true → s₁.heap.Ns Lc m → m x = some v → wpAny (model prog w) A (eval elt (compEnv scope env Lc cl)) (fun u s₂ => Grow s₁ s₂ ∧ RO u (f a) s₂.heap ∧ ∀ c ∈ rf u, s₂.heap.get? c ≠ none ∧ (s₁.heap.get? c = none ∨ s.heap.get? c ≠ none)) No s₁)
    (hQ : ∀ s' D us j, Grow s s' → s.heap.get? D = none → s'.heap.get? D = some (listOf us.toArray j) → All2 (fun u b => RO u b s'.heap) us ((X.filter p).map f) → us.length ≤ X.length → (∀ u ∈ us, ∀ c ∈ rf u, s'.heap.get? c ≠ none ∧ c ≠ D) → Q (.ref D) s')
    (hs : ∀ y, foldedSetIterable iter env y = pure y := by intro _; rfl) (hclos : closureFor scope env = pure cl := by rfl) (hcell : ∀ y ∈ scope.names, y.2 ≠ .cell := by decide) (hkind : scope.kind = .function := by rfl)
    (hnames : (scope.names.all fun y => y.2 != .local || (compScope scope env).names.lookup y.1 == some .local) = true := by rfl) (hx : (compScope scope env).names.lookup x = some .local := by rfl) :
    wpAny (model prog w) A (eval (.ListComp elt [⟨.Name x px, iter, ifs, 0⟩] scope pos) env) Q E s := by
  rw [eval_ListComp]
  refine listCompU (use := none) hs hclos hcell hkind (namesOk hnames) hx hh mono hsrc hz hcond helt fun s' Lc D us j g nD nL LD hm hD ha hl hf => ?_
  intro s'' e
  have kc : ∀ u ∈ us, ∀ c ∈ rf u, ∀ o, s'.heap.get? c = some o → s''.heap.get? c = some o := fun u hu c hc o q => e.keep c o (hf u hu c hc).2.2 q
  have toAll : ∀ {us : List Value} {bs : List β}, All2 (fun u b => RO u b s'.heap) us bs → (∀ u ∈ us, ∀ c ∈ rf u, ∀ o, s'.heap.get? c = some o → s''.heap.get? c = some o) → All2 (fun u b => RO u b s''.heap) us bs := by
    intro us bs ha
    induction ha with
    | nil => exact fun _ => .nil
    | cons r _ ih => exact fun hh => .cons (mono _ _ _ _ r (hh _ (.head _))) (ih fun u hu => hh u (.tail _ hu))
  refine hQ s'' D us j ⟨fun b o q => e.keep b o (fun q' => by rw [q', nL] at q; cases q) (g.keep b o q), e.os.trans g.os, e.gens.trans g.gens⟩ nD (e.keep _ _ (Ne.symm LD) hD) (toAll ha kc) hl fun u hu c hc => ⟨fun q => ?_, (hf u hu c hc).2.1⟩
  cases q' : s'.heap.get? c with
  | none => exact (hf u hu c hc).1 q'
  | some o => rw [kc u hu c hc o q'] at q; cases q

/-- the items of a list that stands -/
theorem srcList {RA : Value → α → Prop} {X : List α} {vs : List Value} {l : Addr} {n : Nat} {s₁ : Shared} (g : Grow s s₁) (hl : s₁.heap.get? l = some (listOf vs.toArray n)) (ha : All2 RA vs X) :
    wpAny (model prog w) A (pyIter (.ref l)) (fun itv s₂ => ∃ it fp V P, itv = .ref it ∧ Src prog w s s₂ RA X it fp V P) E s₁ := by
  refine pyIterList hl fun s₂ it g₂ ni nil st => ⟨it, [it, l], fun k v => vs[k]? = some v, fun k h => h.IsListIter it l k ∧ h.IsList l vs.toArray, rfl, ?_⟩
  have D := iterList (prog := prog) (w := w) (vs := vs) nil
  have e := ha.length
  refine ⟨by rw [← e]; exact D, st, g.trans g₂, ?_, D.there st, ?_, fun k v hk hv => ?_⟩
  · cases q : s.heap.get? it with
    | none => rfl
    | some o => rw [g.keep _ _ q] at ni; cases ni
  · intro b hb q
    rcases List.mem_cons.mp hb with rfl | hb
    · exact D.there st q
    · rw [List.mem_singleton.mp hb, g₂.keep _ _ hl] at q; cases q
  · have hk' : k < vs.length := by omega
    have : v = vs[k] := by rw [List.getElem?_eq_getElem hk'] at hv; exact (Option.some.inj hv).symm
    rw [this]
    exact ha.get k hk' hk

/-- the numbers below n -/
theorem srcRange {n : Nat} {r : Addr} {t u v : Tok} {s₁ : Shared} (g : Grow s s₁) (hr : IsRange s₁.heap r 0 (n : Nat) 1 t u v) (hn : n < 1000000) :
    wpAny (model prog w) A (pyIter (.ref r)) (fun itv s₂ => ∃ it fp V P, itv = .ref it ∧ Src prog w s s₂ (fun v (k : Nat) => ∃ t, v = .int (k : Nat) t) (List.range n) it fp V P) E s₁ := by
  refine pyIterRange hr hn fun s₂ it g₂ ni st => ⟨it, [it], fun k v => ∃ t, v = .int (k : Nat) t, fun k h => IsRangeIter h it (k : Nat) ((n : Int) - (k : Nat)) 1, rfl, ?_⟩
  have D := iterRange (prog := prog) (w := w) (it := it) (n := n)
  refine ⟨by rw [List.length_range]; exact D, st, g.trans g₂, ?_, D.there st, ?_, fun k v hk hv => ?_⟩
  · cases q : s.heap.get? it with
    | none => rfl
    | some o => rw [g.keep _ _ q] at ni; cases ni
  · intro b hb q
    rw [List.mem_singleton.mp hb] at q
    exact D.there st q
  · simpa using hv
end

/-- e is the int n at s -/
def EvI (prog : Program) (w : World) (A : Around) (env : Env) (e : Expr) (n : Int) (s : Shared) : Prop := wpAny (model prog w) A (eval e env) (fun v s' => Grow s s' ∧ ∃ t, v = .int n t) No s

section
variable {prog : Program} {w : World} {A : Around} {E : Value → Shared → Prop} {s : Shared} {env : Env} {e e1 e2 : Expr} {a b n : Int} {pos : Pos} {m : Str → Option Value}

theorem EvI.use {Q : Value → Shared → Prop} (h : EvI prog w A env e n s) (hQ : ∀ s' t, Grow s s' → Q (.int n t) s') : wpAny (model prog w) A (eval e env) Q E s :=
  wpAny_mono h (fun v s' ⟨g, t, q⟩ => by rw [q]; exact hQ s' t g) fun _ _ q => q.elim
theorem EvI.const {k : Nat} : EvI prog w A env (.Constant (.int n) k pos) n s := wpAny_Constant_int ⟨Grow.toks _ _, _, rfl⟩
theorem EvI.name {x : Str} {t : Tok} (hn : s.heap.Ns env.locals m) (hv : m x = some (.int n t))
    (hk : env.scope.kind = .function := by rfl) (hl : env.kindOf x = some .local := by rfl) (hd : (x == ("__debug__" : Str)) = false := by decide) : EvI prog w A env (.Name x pos) n s :=
  ldE hn hv ⟨.refl _, t, rfl⟩ hk hl hd
theorem EvI.neg (h : EvI prog w A env e n s) : EvI prog w A env (.UnaryOp .USub e pos) (-n) s :=
  wpAny_UnaryOp (h.use fun s' t g => PySem.P.neg_int ⟨g.trans (Grow.toks _ _), _, rfl⟩)
theorem EvI.sub (h1 : EvI prog w A env e1 a s) (h2 : ∀ s', Grow s s' → EvI prog w A env e2 b s') : EvI prog w A env (.BinOp e1 .Sub e2 pos) (a - b) s :=
  wpAny_BinOp (h1.use fun s₁ t g => (h2 s₁ g).use fun s₂ u g' => PySem.P.sub_int ⟨(g.trans g').trans (Grow.toks _ _), _, rfl⟩)
theorem EvI.add (h1 : EvI prog w A env e1 a s) (h2 : ∀ s', Grow s s' → EvI prog w A env e2 b s') : EvI prog w A env (.BinOp e1 .Add e2 pos) (a + b) s :=
  wpAny_BinOp (h1.use fun s₁ t g => (h2 s₁ g).use fun s₂ u g' => PySem.P.add_int ⟨(g.trans g').trans (Grow.toks _ _), _, rfl⟩)
theorem EvI.mod {k : Nat} {p : Pos} (h1 : EvI prog w A env e1 a s) (hb : b ≠ 0) : EvI prog w A env (.BinOp e1 .Mod (.Constant (.int b) k p) pos) (a.fmod b) s :=
  wpAny_BinOp (h1.use fun s₁ t g => (EvI.const (s := s₁)).use fun s₂ u g' => mod_int' hb ⟨(g.trans g').trans (Grow.toks _ _), _, rfl⟩)
theorem EvI.div {k : Nat} {p : Pos} (h1 : EvI prog w A env e1 a s) (hb : b ≠ 0) (hs : b.natAbs < 1073741824) : EvI prog w A env (.BinOp e1 .FloorDiv (.Constant (.int b) k p) pos) (a.fdiv b) s :=
  wpAny_BinOp (h1.use fun s₁ t g => (EvI.const (s := s₁)).use fun s₂ u g' => floordiv_int hb ⟨(g.trans g').trans (Grow.toks _ _), _, rfl⟩ (.inl (PyProof.noPylong_small hs)))
theorem EvI.max {x : Str} {p p1 : Pos} (hh : A.handled = none) (hb : wpAny (model prog w) A (eval (.Name x p) env) (fun v s' => v = .builtin "max" ∧ s' = s) No s)
    (h1 : EvI prog w A env e1 a s) (h2 : ∀ s', Grow s s' → EvI prog w A env e2 b s')
    (hc : eval (.Call (.Name x p) [e1, e2] [] p1) env = (do callWith p1 (← eval (.Name x p) env) [] (backTo p1 (starEach [e1, e2] env)) (backToKw p1 (keywordEach [] env))) := by rfl)
    (q1 : starEach [e1, e2] env = (false, eval e1 env) :: starEach [e2] env := by rfl) (q2 : starEach [e2] env = (false, eval e2 env) :: starEach [] env := by rfl) :
    EvI prog w A env (.Call (.Name x p) [e1, e2] [] p1) (if b > a then b else a) s := by
  refine Call_ (wpAny_mono hb (fun v s' ⟨q, q'⟩ => ?_) fun _ _ q => q) hc
  subst q q'
  refine callWith_builtin1 (spliced_more (h1.use fun s₁ t g => spliced_more ((h2 s₁ g).use fun s₂ u g' => spliced_none ?_) q2) q1) q1 (by rw [q2]; rfl)
  refine max_two_ints hh fun h' tk k => ?_
  have g2 : Grow s' { s₂ with heap := h', toks := tk } := ⟨fun c o e => k c o (g'.keep c o (g.keep c o e)), g'.os.trans g.os, g'.gens.trans g.gens⟩
  by_cases hc : b > a
  · rw [if_pos hc, if_pos hc]; exact ⟨g2, _, rfl⟩
  · rw [if_neg hc, if_neg hc]; exact ⟨g2, _, rfl⟩
end

theorem All2.mono {α β : Type} {R R' : α → β → Prop} {as : List α} {bs : List β} (h : All2 R as bs) (k : ∀ a b, a ∈ as → R a b → R' a b) : All2 R' as bs := by
  induction h with
  | nil => exact .nil
  | cons r _ ih => exact .cons (k _ _ (.head _) r) (ih fun a b ha => k a b (.tail _ ha))
theorem All2.snoc {α β : Type} {R : α → β → Prop} {as : List α} {bs : List β} {b : β} (h : All2 R as (bs ++ [b])) : ∃ as' a, as = as' ++ [a] ∧ All2 R as' bs ∧ R a b := by
  induction bs generalizing as with
  | nil =>
    cases h with
    | cons r q => cases q; exact ⟨[], _, rfl, .nil, r⟩
  | cons c bs ih =>
    cases h with
    | cons r q =>
      obtain ⟨as', a, rfl, h1, h2⟩ := ih q
      exact ⟨_ :: as', a, rfl, .cons r h1, h2⟩

theorem flat_sub {γ : Type} {X Y : List (List γ)} (h : X.Sublist Y) : X.flatten.length ≤ Y.flatten.length := by
  induction h with
  | slnil => exact Nat.le_refl _
  | cons a _ ih => simp only [List.flatten_cons, List.length_append]; omega
  | cons_cons a _ ih => simp only [List.flatten_cons, List.length_append]; omega
theorem flat_le {γ : Type} (X : List (List γ)) (p : List γ → Bool) (k : Nat) (hk : k < X.length) : ((X.take k).filter p).flatten.length + X[k].length ≤ X.flatten.length := by
  have e : (X.take k ++ [X[k]]).Sublist X := by
    rw [← List.take_succ_eq_append_getElem hk]; exact List.take_sublist _ _
  have e' : ((X.take k).filter p ++ [X[k]]).Sublist X := ((List.filter_sublist).append (List.Sublist.refl _)).trans e
  have := flat_sub e'
  simpa using this

section
variable {prog : Program} {w : World} {A : Around} {E : Value → Shared → Prop} {s : Shared} {env : Env} {γ : Type}

/-- rows: lists that stand in h -/
def RL (RB : Value → γ → Prop) (h : Heap) (v : Value) (a : List γ) : Prop := ∃ c vs n, v = .ref c ∧ h.get? c = some (listOf vs.toArray n) ∧ All2 RB vs a

/-- the walk of «[y for x in .. if .. for y in x]» -/
theorem listComp2U {RB : Value → γ → Prop} {X : List (List γ)} {p : List γ → Bool} {iter : Expr} {x y : Str} {px py q1 q2 : Pos} {ifs : List Expr} {scope : Scope} {pos ip : Pos} {cl : List (Str × Addr)} {use : Option (Value → Sem Unit)} {Q : Value → Shared → Prop}
    (hs : ∀ z, foldedSetIterable iter env z = pure z) (hs' : ∀ Lc z, foldedSetIterable (.Name x q2) (compEnv scope env Lc cl) z = pure z) (hclos : closureFor scope env = pure cl) (hcell : ∀ y ∈ scope.names, y.2 ≠ .cell) (hkind : scope.kind = .function)
    (hnames : ∀ y ∈ scope.names, y.2 = .local → (compScope scope env).names.lookup y.1 = some .local) (hx : (compScope scope env).names.lookup x = some .local) (hy : (compScope scope env).names.lookup y = some .local)
    (dx : (x == ("__debug__" : Str)) = false) (dy : (y == ("__debug__" : Str)) = false)
    (hh : A.handled = none) (plain : ∀ u b, RB u b → rf u = [])
    (hsrc : wpAny (model prog w) A (eval iter env) (fun y s₁ => wpAny (model prog w) A (pyIter y) (fun itv s₂ => ∃ it fp V P, itv = .ref it ∧ Src prog w s s₂ (RL RB s.heap) X it fp V P) E s₁) E s) (hz : X.flatten.length < 1000000)
    (hcond : ∀ v a s₁ Lc m, Grow s s₁ → RL RB s.heap v a → s₁.heap.Ns Lc m → m x = some v → wpAny (model prog w) A (conds ifs (compEnv scope env Lc cl)) (fun ok s₂ => Grow s₁ s₂ ∧ ok = p a) No s₁)
    (hQ : ∀ s' Lc D us j, Grow s s' → s.heap.get? D = none → s.heap.get? Lc = none → Lc ≠ D → (∃ m, s'.heap.Ns Lc m) → s'.heap.get? D = some (listOf us.toArray j) → All2 RB us (X.filter p).flatten → UseOk prog w A E use Q Lc (.ref D) s') :
    wpAny (model prog w) A (comprehension (.ListComp (.Name y q1) [⟨.Name x px, iter, ifs, 0⟩, ⟨.Name y py, .Name x q2, [], 0⟩] scope pos) scope env ip (newList []) false (eval iter env) use) Q E s := by
  refine comprehension_ (g := ⟨.Name x px, iter, ifs, 0⟩) (gs := [⟨.Name y py, .Name x q2, [], 0⟩]) rfl hs hclos hcell hkind hnames (wpAny_mono hsrc (fun yv s₁ h₁ => wpAny_mono h₁ (fun itv s₂ h₂ => ?_) fun _ _ q => q) fun _ _ q => q)
  obtain ⟨it, fp, V, P, rfl, S⟩ := h₂
  refine newList_ fun s₃ D g₃ gD nD => ?_
  intro s₄ Lc g₄ nL hns
  have keepS : ∀ {a : Addr}, s₂.heap.get? a = none → s.heap.get? a = none := fun {a} q => by
    cases e : s.heap.get? a with
    | none => rfl
    | some o => rw [S.g.keep _ _ e] at q; cases q
  have nL₂ : s₂.heap.get? Lc = none := by
    cases e : s₂.heap.get? Lc with
    | none => rfl
    | some o => rw [g₃.keep _ _ e] at nL; cases nL
  have LD : Lc ≠ D := fun q => by rw [q, gD] at nL; cases nL
  have nDs := keepS nD
  have nLs := keepS nL₂
  have fD : D ∉ fp := fun q => S.fp _ q nD
  have fL : Lc ∉ fp := fun q => S.fp _ q nL₂
  have iD : it ≠ D := fun q => fD (q ▸ S.D.mem)
  have iL : it ≠ Lc := fun q => fL (q ▸ S.D.mem)
  have hg : ([⟨.Name x px, iter, ifs, 0⟩, ⟨.Name y py, .Name x q2, [], 0⟩] : List Comprehension)[0]? = some ⟨.Name x px, iter, ifs, 0⟩ := rfl
  have hg1 : ([⟨.Name x px, iter, ifs, 0⟩, ⟨.Name y py, .Name x q2, [], 0⟩] : List Comprehension)[1]? = some ⟨.Name y py, .Name x q2, [], 0⟩ := rfl
  have gs₄ : Grow s s₄ := S.g.trans (g₃.trans g₄)
  have fp₄ : ∀ b ∈ fp, s₄.heap.get? b ≠ none := fun b hb q => by
    cases e : s₂.heap.get? b with
    | none => exact S.fp b hb e
    | some o => rw [g₄.keep _ _ (g₃.keep _ _ e)] at q; cases q
  refine compStart_ hg rfl S.D (S.D.keep S.p0 fun b _ o e => g₄.keep b o (g₃.keep b o e)) ?_
  refine compInner hg hg1 (hs' Lc) S.D hh (S.D.keep S.p0 fun b _ o e => g₄.keep b o (g₃.keep b o e))
    (fun k s₁ => (∀ b o, b ≠ it → b ≠ Lc → b ≠ D → s₄.heap.get? b = some o → s₁.heap.get? b = some o) ∧ s₁.os = s₄.os ∧ s₁.gens = s₄.gens ∧ (∃ m, s₁.heap.Ns Lc m) ∧
      ∃ us j, s₁.heap.get? D = some (listOf us.toArray j) ∧ All2 RB us ((X.take k).filter p).flatten) ?_ ?_ ?_ ?_
  · rintro k s₁ s₂ ⟨h1, h2, h3, ⟨m, o, es, ep, ho, r⟩, us, j, h5, h6⟩ g
    exact ⟨fun b o n1 n2 n3 e => g.keep b o n1 (h1 b o n1 n2 n3 e), g.os.trans h2, g.gens.trans h3, ⟨m, o, es, ep, g.keep _ _ (Ne.symm iL) ho, r⟩, us, j, g.keep _ _ (Ne.symm iD) h5, h6⟩
  · exact ⟨fun b o _ _ _ e => e, rfl, rfl, ⟨_, hns⟩, [], 0, g₄.keep _ _ gD, by simpa using All2.nil⟩
  · rintro k v s₁ hkn hv hp ⟨h1, h2, h3, ⟨m, h4⟩, us, j, h5, h6⟩
    have ra := S.ra k v hkn hv
    have git := S.D.there hp
    have tk : X.take (k + 1) = X.take k ++ [X[k]] := by rw [List.take_succ_eq_append_getElem hkn]
    refine stE (env := compEnv scope env Lc cl) h4 (fun s₂ hn₂ g₂ => ?_) hkind hx
    have g₂' : ExL Lc s₁ s₂ := g₂
    have gs₂ : Grow s s₂ := by
      refine ⟨fun b o e => g₂'.keep b o (fun q => by rw [q, nLs] at e; cases e) (h1 b o (fun q => by rw [q, S.ni] at e; cases e) (fun q => by rw [q, nLs] at e; cases e) (fun q => by rw [q, nDs] at e; cases e) (gs₄.keep b o e)), ?_, ?_⟩
      · exact g₂.os.trans (h2.trans gs₄.os)
      · exact g₂.gens.trans (h3.trans gs₄.gens)
    refine wpAny_mono (hcond v X[k] s₂ Lc _ gs₂ ra hn₂ upd_same) (fun ok s₃ h₃ => ?_) fun _ _ q => q
    obtain ⟨g₃', rfl⟩ := h₃
    have e₁₃ : ExL Lc s₁ s₃ := g₂'.trans g₃'.exL
    cases hpk : p X[k] with
    | false =>
      rw [if_neg (by decide)]
      refine ⟨fun b hb o e => e₁₃.keep b o (fun q => fL (q ▸ hb)) e, fun b o n1 n2 n3 e => e₁₃.keep b o n2 (h1 b o n1 n2 n3 e), e₁₃.os.trans h2, e₁₃.gens.trans h3, ⟨_, hn₂.keeps g₃'.keep⟩, us, j, e₁₃.keep _ _ (Ne.symm LD) h5, ?_⟩
      rw [tk, List.filter_append]
      have : [X[k]].filter p = [] := by simp [hpk]
      rw [this, List.append_nil]; exact h6
    | true =>
      rw [if_pos rfl]
      have hn₃ := hn₂.keeps g₃'.keep
      refine ldE (env := compEnv scope env Lc cl) hn₃ upd_same ?_ hkind hx dx
      obtain ⟨c, vs, n, rfl, hc, hav⟩ := ra
      have gs₃ := gs₂.trans g₃'
      have hc₃ := gs₃.keep _ _ hc
      refine pyIterList hc₃ fun s₅ it' g₅ ni' nil' st' => ?_
      have D' := iterList (prog := prog) (w := w) (vs := vs) nil'
      refine compStart_ hg1 rfl D' st' ?_
      have el := hav.length
      have lt := flat_le X p k hkn
      have h5' := g₅.keep _ _ (e₁₃.keep _ _ (Ne.symm LD) h5)
      have hcD : c ≠ D := fun q => by rw [q, nDs] at hc; cases hc
      have hcL : c ≠ Lc := fun q => by rw [q, nLs] at hc; cases hc
      have iD' : it' ≠ D := fun q => by rw [q, e₁₃.keep _ _ (Ne.symm LD) h5] at ni'; cases ni'
      have iL' : it' ≠ Lc := fun q => by
        obtain ⟨o, _, _, ho, _⟩ := hn₃
        rw [q] at ni'; rw [show s₃.heap.get? Lc = some o from ho] at ni'; cases ni'
      have ni : s.heap.get? it' = none := by
        cases q : s.heap.get? it' with
        | none => rfl
        | some o => rw [gs₃.keep _ _ q] at ni'; cases ni'
      have S' : Src prog w s s₅ RB X[k] it' [it', c] (fun k v => vs[k]? = some v) (fun k h => h.IsListIter it' c k ∧ h.IsList c vs.toArray) := by
        refine ⟨by rw [← el]; exact D', st', gs₃.trans g₅, ni, D'.there st', ?_, fun i u hi hu => ?_⟩
        · intro b hb q
          rcases List.mem_cons.mp hb with rfl | hb
          · exact D'.there st' q
          · rw [List.mem_singleton.mp hb, g₅.keep _ _ hc₃] at q; cases q
        · have hk' : i < vs.length := by omega
          have : u = vs[i] := by rw [List.getElem?_eq_getElem hk'] at hu; exact (Option.some.inj hu).symm
          rw [this]
          exact hav.get i hk' hi
      refine compWalk (s := s) (s₂ := s₅) (s₃ := s₅) (s₄ := s₅) (us₀ := us) (RO := fun u b _ => RB u b) (X := X[k]) (p := fun _ => true) (f := fun b => b) (Lc := Lc) hg1 rfl hh (fun _ _ _ _ r _ => r) S' (.refl _) nDs nLs ?_ ?_ LD rfl ⟨_, hn₃.keeps g₅.keep⟩ ⟨j, h5'⟩ h6 ?_ ?_ hkind hy ?_ ?_ ?_
      · intro q
        rcases List.mem_cons.mp q with q | q
        · exact iD' q.symm
        · exact hcD (List.mem_singleton.mp q).symm
      · intro q
        rcases List.mem_cons.mp q with q | q
        · exact iL' q.symm
        · exact hcL (List.mem_singleton.mp q).symm
      · intro u hu c hc
        have : ∀ {us : List Value} {bs : List γ}, All2 RB us bs → ∀ u ∈ us, rf u = [] := by
          intro us bs h
          induction h with
          | nil => intro u hu; cases hu
          | cons r _ ih =>
            intro u hu
            rcases List.mem_cons.mp hu with rfl | hu
            · exact plain _ _ r
            · exact ih u hu
        rw [this h6 u hu] at hc; cases hc
      · rw [h6.length]; omega
      · intro v a s₁ m' _ _ _ _
        exact conds_nil ⟨.refl _, rfl⟩
      · intro v a s₁ m' g' rv _ hn' hv'
        refine ldE (env := compEnv scope env Lc cl) hn' hv' ⟨.refl _, rv, fun c hc => ?_⟩ hkind hy dy
        rw [plain _ _ rv] at hc; cases hc
      · intro s' us' j' k1 k2 k3 hm hD ha _ _
        have g15 : ∀ b o, b ≠ Lc → s₁.heap.get? b = some o → s₅.heap.get? b = some o := fun b o n e => g₅.keep b o (e₁₃.keep b o n e)
        have ni1 : ∀ b o, b ≠ Lc → s₁.heap.get? b = some o → b ≠ it' := fun b o n e q => by
          have := e₁₃.keep b o n e
          rw [q, ni'] at this; cases this
        refine ⟨⟨_, rfl⟩, fun b hb o e => ?_, fun b o n1 n2 n3 e => ?_, k2.trans (g₅.os.trans (e₁₃.os.trans h2)), k3.trans (g₅.gens.trans (e₁₃.gens.trans h3)), hm, us', j', hD, ?_⟩
        · have nb : b ≠ Lc := fun q => fL (q ▸ hb)
          exact k1 b o (ni1 b o nb e) nb (fun q => fD (q ▸ hb)) (g15 b o nb e)
        · have e1 := h1 b o n1 n2 n3 e
          exact k1 b o (ni1 b o n2 e1) n2 n3 (g15 b o n2 e1)
        · rw [tk, List.filter_append, List.flatten_append]
          have q1 : [X[k]].filter p = [X[k]] := by simp [hpk]
          rw [q1]
          have q2 : (X[k].filter fun _ => true).map (fun b => b) = [X[k]].flatten := by simp
          rw [q2] at ha; exact ha
  · rintro s' ⟨h1, h2, h3, hm, us, j, h5, h6⟩
    rw [List.take_length] at h6
    have gs : Grow s s' := ⟨fun b o e => h1 b o (fun q => by rw [q, S.ni] at e; cases e) (fun q => by rw [q, nLs] at e; cases e) (fun q => by rw [q, nDs] at e; cases e) (gs₄.keep b o e), h2.trans gs₄.os, h3.trans gs₄.gens⟩
    exact ⟨⟨_, rfl⟩, hm, hQ s' Lc D us j gs nDs nLs LD hm h5 h6⟩

/-- «[y for x in .. if .. for y in x]» as a value -/
theorem listComp2 {RB : Value → γ → Prop} {X : List (List γ)} {p : List γ → Bool} {iter : Expr} {x y : Str} {px py q1 q2 : Pos} {ifs : List Expr} {scope : Scope} {pos : Pos} {cl : List (Str × Addr)} {Q : Value → Shared → Prop}
    (hh : A.handled = none) (plain : ∀ u b, RB u b → rf u = [])
    (hsrc : wpAny (model prog w) A (eval iter env) (fun y s₁ => wpAny (model prog w) A (pyIter y) (fun itv s₂ => ∃ it fp V P, itv = .ref it ∧ Src prog w s s₂ (RL RB s.heap) X it fp V P) E s₁) E s) (hz : X.flatten.length < 1000000)
    (hcond : ∀ v a s₁ Lc m, Grow s s₁ → RL RB s.heap v a → s₁.heap.Ns Lc m → m x = some v → wpAny (model prog w) A (conds ifs (compEnv scope env Lc cl)) (fun ok s₂ => Grow s₁ s₂ ∧ ok = p a) No s₁)
    (hQ : ∀ s' D us j, Grow s s' → s.heap.get? D = none → s'.heap.get? D = some (listOf us.toArray j) → All2 RB us (X.filter p).flatten → Q (.ref D) s')
    (hs : ∀ z, foldedSetIterable iter env z = pure z := by intro _; rfl) (hs' : ∀ Lc z, foldedSetIterable (.Name x q2) (compEnv scope env Lc cl) z = pure z := by intro _ _; rfl) (hclos : closureFor scope env = pure cl := by rfl) (hcell : ∀ y ∈ scope.names, y.2 ≠ .cell := by decide) (hkind : scope.kind = .function := by rfl)
    (hnames : (scope.names.all fun y => y.2 != .local || (compScope scope env).names.lookup y.1 == some .local) = true := by rfl) (hx : (compScope scope env).names.lookup x = some .local := by rfl) (hy : (compScope scope env).names.lookup y = some .local := by rfl)
    (dx : (x == ("__debug__" : Str)) = false := by decide) (dy : (y == ("__debug__" : Str)) = false := by decide) :
    wpAny (model prog w) A (eval (.ListComp (.Name y q1) [⟨.Name x px, iter, ifs, 0⟩, ⟨.Name y py, .Name x q2, [], 0⟩] scope pos) env) Q E s := by
  rw [eval_ListComp]
  refine listComp2U (use := none) hs hs' hclos hcell hkind (namesOk hnames) hx hy dx dy hh plain hsrc hz hcond fun s' Lc D us j g nD nL LD hm hD ha => ?_
  intro s'' e
  exact hQ s'' D us j ⟨fun b o q => e.keep b o (fun q' => by rw [q', nL] at q; cases q) (g.keep b o q), e.os.trans g.os, e.gens.trans g.gens⟩ nD (e.keep _ _ (Ne.symm LD) hD) ha
end

section
variable {prog : Program} {w : World} {A : Around} {E : Value → Shared → Prop} {s : Shared} {name : Str} {fscope : Scope} {L a : Addr} {cd : Value} {base : Heap} {m : Str → Option Value} {α β γ : Type}

/-- «y = [..]» -/
theorem assignU {y : Str} {py spos pos : Pos} {elt : Expr} {g : Comprehension} {gs : List Comprehension} {scope : Scope} {env : Env} {Q : Flow → Shared → Prop} (ga : g.is_async = 0)
    (h : ∀ ip, wpAny (model prog w) A (comprehension (.ListComp elt (g :: gs) scope pos) scope env ip (newList []) false (eval g.iter env) (some (assign (.Name y py) env))) (fun _ s' => Q .next s') E s)
    (hsw : swapsWith (.ListComp elt (g :: gs) scope pos) (some (.Name y py)) spos.line env = pure true := by rfl) :
    wpAny (model prog w) A (exec (.Assign [.Name y py] (.ListComp elt (g :: gs) scope pos) spos) env) Q E s := by
  rw [exec_Assign_Name_used _ _ _ _ hsw]
  refine wpAny_bind (wpAny_standAt (wpAny_bind ?_))
  obtain ⟨t, it, ifs, as⟩ := g
  obtain rfl : as = 0 := ga
  show wpAny _ A (do let _ ← comprehension (.ListComp elt (⟨t, it, ifs, 0⟩ :: gs) scope pos) scope env _ (newList []) false (eval it env) (some (assign (.Name y py) env))) _ _ s
  exact wpAny_bind (wpAny_mono (h _) (fun _ s' hq => wpAny_pure (wpAny_pure hq)) fun _ _ e => e)

theorem useAssign {y : Str} {py : Pos} {Lc D : Addr} {s' : Shared} {Q : Value → Shared → Prop} (F : Fr base L s.heap m) (g : Grow s s') (nL : s.heap.get? Lc = none) (hm : ∃ m, s'.heap.Ns Lc m)
    (h : ∀ s₃, Fr base L s₃.heap (upd m y (.ref D)) → ExL L s s₃ → (∀ b o, b ≠ L → b ≠ Lc → s'.heap.get? b = some o → s₃.heap.get? b = some o) → Q .none s₃)
    (hk : fscope.kind = .function) (hl : (envOf name fscope L a cd).kindOf y = some .local) : UseOk prog w A E (some (assign (.Name y py) (envOf name fscope L a cd))) Q Lc (.ref D) s' := by
  have LL : Lc ≠ L := fun q => by
    obtain ⟨o, _, _, e, _⟩ := F.ns
    rw [← q, nL] at e; cases e
  have bL : base.get? Lc = none := by
    cases q : base.get? Lc with
    | none => rfl
    | some o => rw [F.keep _ _ q] at nL; cases nL
  show wpAny _ A (assign (.Name y py) (envOf name fscope L a cd) (.ref D)) _ _ _
  refine wpAny_assign_Name (st_ (frGrow F g) (fun s₂ F₂ g₂ => ⟨?_, fun s₃ g₃ => h s₃ (frExL F₂ g₃ (Ne.symm LL) bL) ?_ fun b o n1 n2 e => g₃.keep b o n2 (g₂.keep b o n1 e)⟩) hk hl)
  · obtain ⟨m', o, es, ep, ho, r⟩ := hm
    exact ⟨m', o, es, ep, g₂.keep _ _ LL ho, r⟩
  · exact ⟨fun b o n e => g₃.keep b o (fun q => by rw [q, nL] at e; cases e) (g₂.keep b o n (g.keep b o e)), g₃.os.trans (g₂.os.trans g.os), g₃.gens.trans (g₂.gens.trans g.gens)⟩

theorem assignComp2 {RB : Value → γ → Prop} {X : List (List γ)} {p : List γ → Bool} {iter : Expr} {x y z : Str} {px py pz spos q1 q2 : Pos} {ifs : List Expr} {scope : Scope} {pos : Pos} {cl : List (Str × Addr)} {Q : Flow → Shared → Prop} (F : Fr base L s.heap m)
    (hh : A.handled = none) (plain : ∀ u b, RB u b → rf u = [])
    (hsrc : wpAny (model prog w) A (eval iter (envOf name fscope L a cd)) (fun y s₁ => wpAny (model prog w) A (pyIter y) (fun itv s₂ => ∃ it fp V P, itv = .ref it ∧ Src prog w s s₂ (RL RB s.heap) X it fp V P) E s₁) E s) (hz : X.flatten.length < 1000000)
    (hcond : ∀ v a' s₁ Lc m', Grow s s₁ → RL RB s.heap v a' → s₁.heap.Ns Lc m' → m' x = some v → wpAny (model prog w) A (conds ifs (compEnv scope (envOf name fscope L a cd) Lc cl)) (fun ok s₂ => Grow s₁ s₂ ∧ ok = p a') No s₁)
    (hQ : ∀ s' D us j, Fr base L s'.heap (upd m z (.ref D)) → ExL L s s' → s.heap.get? D = none → s'.heap.get? D = some (listOf us.toArray j) → All2 RB us (X.filter p).flatten → Q .next s')
    (hsw : swapsWith (.ListComp (.Name y q1) [⟨.Name x px, iter, ifs, 0⟩, ⟨.Name y py, .Name x q2, [], 0⟩] scope pos) (some (.Name z pz)) spos.line (envOf name fscope L a cd) = pure true := by rfl)
    (hk : fscope.kind = .function := by rfl) (hl : (envOf name fscope L a cd).kindOf z = some .local := by rfl)
    (hs : ∀ z, foldedSetIterable iter (envOf name fscope L a cd) z = pure z := by intro _; rfl) (hs' : ∀ Lc z, foldedSetIterable (.Name x q2) (compEnv scope (envOf name fscope L a cd) Lc cl) z = pure z := by intro _ _; rfl) (hclos : closureFor scope (envOf name fscope L a cd) = pure cl := by rfl) (hcell : ∀ y ∈ scope.names, y.2 ≠ .cell := by decide) (hkind : scope.kind = .function := by rfl)
    (hnames : (scope.names.all fun y => y.2 != .local || (compScope scope (envOf name fscope L a cd)).names.lookup y.1 == some .local) = true := by rfl) (hx : (compScope scope (envOf name fscope L a cd)).names.lookup x = some .local := by rfl) (hy : (compScope scope (envOf name fscope L a cd)).names.lookup y = some .local := by rfl)
    (dx : (x == ("__debug__" : Str)) = false := by decide) (dy : (y == ("__debug__" : Str)) = false := by decide) :
    wpAny (model prog w) A (exec (.Assign [.Name z pz] (.ListComp (.Name y q1) [⟨.Name x px, iter, ifs, 0⟩, ⟨.Name y py, .Name x q2, [], 0⟩] scope pos) spos) (envOf name fscope L a cd)) Q E s := by
  refine assignU rfl (fun ip => ?_) hsw
  refine listComp2U hs hs' hclos hcell hkind (namesOk hnames) hx hy dx dy hh plain hsrc hz hcond fun s' Lc D us j g nD nL LD hm hD ha => ?_
  have DL : D ≠ L := fun q => by
    obtain ⟨o, _, _, e, _⟩ := F.ns
    rw [← q, nD] at e; cases e
  exact useAssign F g nL hm (fun s₃ F₃ g₃ k₃ => hQ s₃ D us j F₃ g₃ nD (k₃ _ _ DL (Ne.symm LD) hD) ha) hk hl

theorem assignComp1 {RA : Value → α → Prop} {RO : Value → β → Heap → Prop} {X : List α} {p : α → Bool} {f : α → β} {elt iter : Expr} {x z : Str} {px pz spos : Pos} {ifs : List Expr} {scope : Scope} {pos : Pos} {cl : List (Str × Addr)} {Q : Flow → Shared → Prop} (F : Fr base L s.heap m)
    (hh : A.handled = none)
    (mono : ∀ u b h h', RO u b h → (∀ c ∈ rf u, ∀ o, h.get? c = some o → h'.get? c = some o) → RO u b h') (nodict : ∀ u b h, RO u b h → ∀ c ∈ rf u, ∀ o es n, h.get? c = some o → o.data ≠ .dict es n)
    (hsrc : wpAny (model prog w) A (eval iter (envOf name fscope L a cd)) (fun y s₁ => wpAny (model prog w) A (pyIter y) (fun itv s₂ => ∃ it fp V P, itv = .ref it ∧ Src prog w s s₂ RA X it fp V P) E s₁) E s) (hz : X.length < 1000000)
    (hcond : ∀ v a' s₁ Lc m', Grow s s₁ → RA v a' → s₁.heap.Ns Lc m' → m' x = some v → wpAny (model prog w) A (conds ifs (compEnv scope (envOf name fscope L a cd) Lc cl)) (fun ok s₂ => Grow s₁ s₂ ∧ ok = p a') No s₁)
    (helt : ∀ v a' s₁ Lc m', Grow s s₁ → RA v a' → p a' = true → s₁.heap.Ns Lc m' → m' x = some v → wpAny (model prog w) A (eval elt (compEnv scope (envOf name fscope L a cd) Lc cl)) (fun u s₂ => Grow s₁ s₂ ∧ RO u (f a') s₂.heap ∧ ∀ c ∈ rf u, s₂.heap.get? c ≠ none ∧ (s₁.heap.get? c = none ∨ s.heap.get? c ≠ none)) No s₁)
    (hQ : ∀ s' D us j, Fr base L s'.heap (upd m z (.ref D)) → ExL L s s' → s.heap.get? D = none → s'.heap.get? D = some (listOf us.toArray j) → All2 (fun u b => RO u b s'.heap) us ((X.filter p).map f) → us.length ≤ X.length → (∀ u ∈ us, ∀ c ∈ rf u, s'.heap.get? c ≠ none ∧ c ≠ D ∧ c ≠ L) → Q .next s')
    (hsw : swapsWith (.ListComp elt [⟨.Name x px, iter, ifs, 0⟩] scope pos) (some (.Name z pz)) spos.line (envOf name fscope L a cd) = pure true := by rfl)
    (hk : fscope.kind = .function := by rfl) (hl : (envOf name fscope L a cd).kindOf z = some .local := by rfl)
    (hs : ∀ y, foldedSetIterable iter (envOf name fscope L a cd) y = pure y := by intro _; rfl) (hclos : closureFor scope (envOf name fscope L a cd) = pure cl := by rfl) (hcell : ∀ y ∈ scope.names, y.2 ≠ .cell := by decide) (hkind : scope.kind = .function := by rfl)
    (hnames : (scope.names.all fun y => y.2 != .local || (compScope scope (envOf name fscope L a cd)).names.lookup y.1 == some .local) = true := by rfl) (hx : (compScope scope (envOf name fscope L a cd)).names.lookup x = some .local := by rfl) :
    wpAny (model prog w) A (exec (.Assign [.Name z pz] (.ListComp elt [⟨.Name x px, iter, ifs, 0⟩] scope pos) spos) (envOf name fscope L a cd)) Q E s := by
  refine assignU rfl (fun ip => ?_) hsw
  refine listCompU hs hclos hcell hkind (namesOk hnames) hx hh mono hsrc hz hcond helt fun s' Lc D us j g nD nL LD hm hD ha hl' hf => ?_
  have DL : D ≠ L := fun q => by
    obtain ⟨o, _, _, e, _⟩ := F.ns
    rw [← q, nD] at e; cases e
  have nl : ∀ {us : List Value} {bs : List β}, All2 (fun u b => RO u b s'.heap) us bs → ∀ u ∈ us, ∀ c ∈ rf u, c ≠ L := by
    intro us bs h
    induction h with
    | nil => intro u hu; cases hu
    | cons r _ ih =>
      intro u hu c hc
      rcases List.mem_cons.mp hu with rfl | hu
      · intro q
        obtain ⟨es, n, o, ho, hd⟩ := frDict (frGrow F g)
        exact nodict _ _ _ r c hc o es n (by rw [q]; exact ho) hd
      · exact ih u hu c hc
  refine useAssign F g nL hm (fun s₃ F₃ g₃ k₃ => hQ s₃ D us j F₃ g₃ nD (k₃ _ _ DL (Ne.symm LD) hD) (ha.mono fun u b hu r => mono _ _ _ _ r fun c hc o e => k₃ c o (nl ha u hu c hc) (hf u hu c hc).2.2 e) hl' fun u hu c hc => ⟨fun q => ?_, (hf u hu c hc).2.1, nl ha u hu c hc⟩) hk hl
  cases q' : s'.heap.get? c with
  | none => exact (hf u hu c hc).1 q'
  | some o => rw [k₃ c o (nl ha u hu c hc) (hf u hu c hc).2.2 q'] at q; cases q
end
open PySem PySem.W PyProof.Rows PySem.Calls PySem.SeqAt

/-- equality item by item -/
def eqList {α β : Type} (eq : α → β → Bool) : List α → List β → Bool
  | [], [] => true
  | x :: xs, y :: ys => eq x y && eqList eq xs ys
  | _, _ => false
theorem eqList_iff {α : Type} {eq : α → α → Bool} (h : ∀ x y, eq x y = true ↔ x = y) : ∀ xs ys, eqList eq xs ys = true ↔ xs = ys
  | [], [] => by simp [eqList]
  | x :: xs, y :: ys => by simp [eqList, h, eqList_iff h xs ys]
  | [], _ :: _ => by simp [eqList]
  | _ :: _, [] => by simp [eqList]
theorem eqList_all {α β : Type} {eq : α → β → Bool} : ∀ (xs : List α) (ys : List β), eqList eq xs ys = true ↔ All2 (fun x y => eq x y = true) xs ys
  | [], [] => by simp [eqList]; exact .nil
  | x :: xs, y :: ys => by
    simp only [eqList, Bool.and_eq_true, eqList_all xs ys]
    exact ⟨fun h => .cons h.1 h.2, fun h => by cases h with | cons a b => exact ⟨a, b⟩⟩
  | [], _ :: _ => by simp [eqList]; intro h; cases h
  | _ :: _, [] => by simp [eqList]; intro h; cases h
theorem eqList_len {α β : Type} {eq : α → β → Bool} : ∀ (xs : List α) (ys : List β), xs.length ≠ ys.length → eqList eq xs ys = false
  | [], [], h => absurd rfl h
  | x :: xs, y :: ys, h => by simp only [eqList, eqList_len xs ys (fun q => h (by simp [q])), Bool.and_false]
  | [], _ :: _, _ => rfl
  | _ :: _, [], _ => rfl
theorem eqList_range {α β : Type} {eq : α → β → Bool} : ∀ (xs : List α) (ys : List β) (e : Nat → Bool), xs.length = ys.length → (∀ j (h1 : j < xs.length) (h2 : j < ys.length), e j = eq xs[j] ys[j]) → (List.range xs.length).all e = eqList eq xs ys
  | [], [], _, _, _ => rfl
  | x :: xs, y :: ys, e, h, he => by
    rw [List.length_cons, List.range_succ_eq_map, List.all_cons, List.all_map, eqList, he 0 (by simp) (by simp)]
    congr 1
    exact eqList_range xs ys _ (by simpa using h) fun j h1 h2 => he (j + 1) (by simpa using h1) (by simpa using h2)
  | [], _ :: _, _, h, _ => by simp at h
  | _ :: _, [], _, h, _ => by simp at h

section
variable {α β : Type} {A : Around} {s : Shared} {l b : Addr} {us vs : List Value} {n k : Nat} {R : Value → α → Prop} {R' : Value → β → Prop} {X : List α} {Y : List β} {eq : α → β → Bool}

theorem isL (hl : s.heap.get? l = some (listOf us.toArray n)) : s.heap.IsList l us.toArray := ⟨_, hl, rfl, n, rfl⟩

theorem rcList (hl : s.heap.get? l = some (listOf us.toArray n)) (hb : s.heap.get? b = some (listOf vs.toArray k)) (hu : A.units < cLine) (ha : All2 R us X) (ha' : All2 R' vs Y) (he : ∀ u x v y, R u x → R' v y → EqAt A.in1 s u v (eq x y)) :
    RcAt A s (.ref l) (.ref b) (eqList eq X Y) := by
  by_cases hz : us.length = vs.length
  · have e1 := ha.length
    have e2 := ha'.length
    have := RcAt.lists (e := fun j => if h : j < X.length then (if h' : j < Y.length then eq X[j] Y[j] else false) else false) (isL hl) (isL hb) (by simpa using hz) hu fun j h1 h2 => by
      have h1' : j < us.length := by simpa using h1
      have h2' : j < vs.length := by simpa using h2
      have h3 : j < X.length := by omega
      have h4 : j < Y.length := by omega
      rw [dif_pos h3, dif_pos h4]
      simpa using he _ _ _ _ (ha.get j h1' h3) (ha'.get j h2' h4)
    rw [List.size_toArray, e1, eqList_range (eq := eq) X Y _ (by omega) fun j h1 h2 => by rw [dif_pos h1, dif_pos h2]] at this
    exact this
  · rw [eqList_len X Y (by rw [← ha.length, ← ha'.length]; exact hz)]
    exact RcAt.lists_lengths (isL hl) (isL hb) (by simpa using hz) hu

theorem neList (hl : s.heap.get? l = some (listOf us.toArray n)) (hb : s.heap.get? b = some (listOf vs.toArray k)) (hu : A.units < cLine) (ha : All2 R us X) (ha' : All2 R' vs Y) (he : ∀ u x v y, R u x → R' v y → EqAt A.in1 s u v (eq x y)) :
    RcNeAt A s (.ref l) (.ref b) (!eqList eq X Y) := by
  by_cases hz : us.length = vs.length
  · have e1 := ha.length
    have e2 := ha'.length
    have := RcNeAt.lists (e := fun j => if h : j < X.length then (if h' : j < Y.length then eq X[j] Y[j] else false) else false) (isL hl) (isL hb) (by simpa using hz) hu fun j h1 h2 => by
      have h1' : j < us.length := by simpa using h1
      have h2' : j < vs.length := by simpa using h2
      have h3 : j < X.length := by omega
      have h4 : j < Y.length := by omega
      rw [dif_pos h3, dif_pos h4]
      simpa using he _ _ _ _ (ha.get j h1' h3) (ha'.get j h2' h4)
    rw [List.size_toArray, e1, eqList_range (eq := eq) X Y _ (by omega) fun j h1 h2 => by rw [dif_pos h1, dif_pos h2]] at this
    exact this
  · rw [eqList_len X Y (by rw [← ha.length, ← ha'.length]; exact hz)]
    exact RcNeAt.lists_lengths (isL hl) (isL hb) (by simpa using hz) hu

theorem eqAtList (hl : s.heap.get? l = some (listOf us.toArray n)) (hb : s.heap.get? b = some (listOf vs.toArray k)) (hne : l ≠ b) (hu : A.units < cLine) (ha : All2 R us X) (ha' : All2 R' vs Y) (he : ∀ u x v y, R u x → R' v y → EqAt A.in1 s u v (eq x y)) :
    EqAt A s (.ref l) (.ref b) (eqList eq X Y) := EqAt.of_refs hne (rcList hl hb hu ha ha' he)

/-- a list against the empty one -/
theorem neEmpty (hl : s.heap.get? l = some (listOf us.toArray n)) (hb : s.heap.get? b = some (listOf [].toArray k)) (hu : A.units < cLine) : RcNeAt A s (.ref l) (.ref b) (!us.isEmpty) := by
  cases us with
  | nil => exact RcNeAt.lists (e := fun _ => true) (isL hl) (isL hb) rfl hu fun j h1 => absurd h1 (by simp)
  | cons u us => exact RcNeAt.lists_lengths (isL hl) (isL hb) (by simp) hu
theorem rcEmpty (hl : s.heap.get? l = some (listOf us.toArray n)) (hb : s.heap.get? b = some (listOf [].toArray k)) (hu : A.units < cLine) : RcAt A s (.ref l) (.ref b) us.isEmpty := by
  cases us with
  | nil => exact RcAt.lists (e := fun _ => true) (isL hl) (isL hb) rfl hu fun j h1 => absurd h1 (by simp)
  | cons u us => exact RcAt.lists_lengths (isL hl) (isL hb) (by simp) hu
end

/-- e is the value v at s -/
def EvV (prog : Program) (w : World) (A : Around) (env : Env) (e : Expr) (v : Value) (s : Shared) : Prop := wpAny (model prog w) A (eval e env) (fun u s' => Grow s s' ∧ u = v) No s

section
variable {prog : Program} {w : World} {A : Around} {E : Value → Shared → Prop} {s : Shared} {env : Env} {e e1 e2 : Expr} {a b n : Int} {pos : Pos} {m : Str → Option Value} {v : Value}

theorem EvV.use {Q : Value → Shared → Prop} (h : EvV prog w A env e v s) (hQ : ∀ s', Grow s s' → Q v s') : wpAny (model prog w) A (eval e env) Q E s :=
  wpAny_mono h (fun u s' ⟨g, q⟩ => by rw [q]; exact hQ s' g) fun _ _ q => q.elim
theorem EvV.name {x : Str} (hn : s.heap.Ns env.locals m) (hv : m x = some v)
    (hk : env.scope.kind = .function := by rfl) (hl : env.kindOf x = some .local := by rfl) (hd : (x == ("__debug__" : Str)) = false := by decide) : EvV prog w A env (.Name x pos) v s :=
  ldE hn hv ⟨.refl _, rfl⟩ hk hl hd
/-- xs[-1] -/
theorem EvV.last {D : Addr} {vs : List Value} {k j : Nat} {p1 p2 : Pos} (h : EvV prog w A env e (.ref D) s) (hD : s.heap.get? D = some (listOf (vs ++ [v]).toArray j)) (hz : vs.length < 1000000) :
    EvV prog w A env (.Subscript e (.UnaryOp .USub (.Constant (.int 1) k p1) p2) pos) v s := by
  refine Subscript_ (h.use fun s₁ g₁ => (EvI.neg EvI.const).use fun s₂ t g₂ => ?_)
  have hL := isL (g₂.keep _ _ (g₁.keep _ _ hD))
  refine tail_any hL.typeIs slot_list_getitem.lookup (wpAny_getItem_list_neg (x := v) hL (by decide) (by simp; omega) (by decide) ?_ ⟨g₁.trans g₂, rfl⟩) (by with_unfolding_all rfl)
  simp only [List.size_toArray, List.length_append, List.length_cons, List.length_nil]
  have q : ((-1 : Int) + ((vs.length + (0 + 1) : Nat) : Int)).toNat = vs.length := by omega
  rw [q]; simp
/-- xs[0] -/
theorem EvV.head {D : Addr} {vs : List Value} {k j : Nat} {p1 : Pos} (h : EvV prog w A env e (.ref D) s) (hD : s.heap.get? D = some (listOf (v :: vs).toArray j)) :
    EvV prog w A env (.Subscript e (.Constant (.int 0) k p1) pos) v s := by
  refine Subscript_ (h.use fun s₁ g₁ => (EvI.const (n := 0)).use fun s₂ t g₂ => ?_)
  have hL := isL (g₂.keep _ _ (g₁.keep _ _ hD))
  exact tail_any hL.typeIs slot_list_getitem.lookup (wpAny_getItem_list (x := v) hL (by decide) (by decide) (by simp) ⟨g₁.trans g₂, rfl⟩) (by with_unfolding_all rfl)
theorem EvV.int {t : Tok} (h : EvV prog w A env e (.int n t) s) : EvI prog w A env e n s := wpAny_mono h (fun u s' ⟨g, q⟩ => ⟨g, t, q⟩) fun _ _ q => q

/-- «o.append(e)» as a statement -/
theorem appendAny {o : Expr} {pl : Sem Bool} {p1 p2 p3 : Pos} {D : Addr} {ms : List Value} {n : Nat} {Q : Flow → Shared → Prop} (ho : EvV prog w A env o (.ref D) s) (hD : s.heap.get? D = some (listOf ms.toArray n)) (hsz : ms.length < 1000000)
    (he : ∀ s₁, Grow s s₁ → wpAny (model prog w) A (eval e env) (fun v s₂ => Grow s₁ s₂ ∧ ∀ s', ExL D s₂ s' → s'.heap.get? D = some (listOf (ms ++ [v]).toArray (n + 1)) → Q .next s') E s₁)
    (hc : eval (.Call (.Attribute o "append" p1) [e] [] p2) env = (do
      let ov ← eval o env
      standAt p1.atName
      let (f, first) ← holding [ov] (getMethod ov "append" pl)
      callWith p2 f first (backTo p2 (starEach [e] env)) []) := by rfl)
    (hs : starEach [e] env = [(false, eval e env)] := by rfl) (hi : interactive env = false := by rfl) :
    wpAny (model prog w) A (exec (.Expr (.Call (.Attribute o "append" p1) [e] [] p2) p3) env) Q E s := by
  refine wpAny_Expr_any (MethodCall_ (ho.use fun s₀ g₀ => ?_) hc) hi rfl
  have hD₀ := g₀.keep _ _ hD
  refine getMethod_builtin ⟨_, hD₀, rfl⟩ PySem.F.plainAttrs_list slot_list_append PySem.F.type_list_append (fun x q => by cases q; exact ⟨_, hD₀, rfl⟩) ?_
  refine callWith_method1 (spliced_more (wpAny_mono (he s₀ g₀) (fun v s₁ ⟨g, h⟩ => spliced_none ?_) fun _ _ x => x) hs) hs rfl
  refine append_at (g.keep _ _ hD₀) (fun h' sb hD' => h _ ⟨fun b o n q => (sb.2 b n).trans q, rfl, rfl⟩ ?_) ?_
  · have q : ms.toArray.push v = (ms ++ [v]).toArray := by simp
    rw [q] at hD'; exact hD'
  · rw [List.size_toArray, sizeLine_eq]; omega

theorem mulAny {l : Addr} {items : Array Value} {k : Nat} {x : Int} {u : Tok} {Q : Value → Shared → Prop}
    (hl : s.heap.get? l = some { cls := .type "list", dict := none, data := .seq items k, slots := #[] })
    (hlo : -(2 ^ 63 : Int) ≤ x) (hhi : x < 2 ^ 63) (hsz : items.size * x.toNat ≤ 2 ^ 24)
    (h : Q (.ref s.heap.objs.size) { s with heap := s.heap.push { cls := .type "list", data := .seq (List.foldl (fun x1 x2 => x1 ++ x2) #[] (List.replicate (if items.isEmpty = true then 0 else x.toNat) items)) } }) :
    wpAny (model prog w) A (binaryOp .Mult (.ref l) (.int x u)) Q E s :=
  wpAny_binaryOp_repeat_ref (T := "list") (U := "int") (by decide) ⟨_, hl, rfl⟩ (fun s' => typeIs_int s' x u) noFill_list_mul F.fills_int_mul F.slot_int_rmul repeat_list F.slot_int_index.lookup
    (call_meets F.slot_int_rmul (typeIs_int s x u) F.entry_int_rmul (F.args_int_rmul_2 _ _) (int___rmul___int_list x u l items k)
      ⟨hl, rfl, ⟨_, hl, rfl⟩, call_meets F.slot_list_mul ⟨_, hl, rfl⟩ F.entry_list_mul (F.args_list_mul_2 _ _)
        (AutoListH.list___mul___list_int_3 l items k x u (by simp [Builtin.List.listFitsIndex]; omega) (by omega) (by simp [Builtin.List.listTooLong, sizeLine]; omega))
        ⟨hl, h⟩⟩)

/-- «[v] * x» -/
theorem mulList {l : Addr} {x : Nat} {u : Tok} {j : Nat} {Q : Value → Shared → Prop} (hl : s.heap.get? l = some (listOf [v].toArray j)) (hx : x < 1000000)
    (h : ∀ s' D, Grow s s' → s.heap.get? D = none → s'.heap.get? D = some (listOf (List.replicate x v).toArray 0) → Q (.ref D) s') : wpAny (model prog w) A (binaryOp .Mult (.ref l) (.int (x : Nat) u)) Q E s := by
  refine mulAny hl (by omega) (by omega) (by simp; omega) (h _ _ ⟨fun _ _ e => Heap.get?_push_of_some _ e, rfl, rfl⟩ (Heap.get?_none_of_le (Nat.le_refl _)) ?_)
  have q : ∀ (k : Nat) (acc : Array Value), List.foldl (fun x1 x2 => x1 ++ x2) acc (List.replicate k [v].toArray) = acc ++ (List.replicate k v).toArray := by
    intro k
    induction k with
    | zero => intro acc; simp
    | succ k ih => intro acc; rw [List.replicate_succ, List.foldl_cons, ih, List.replicate_succ]; apply Array.toList_inj.mp; simp
  have e : (if ([v].toArray).isEmpty = true then 0 else (x : Int).toNat) = x := by simp
  refine (Heap.get?_push_size s.heap rfl).trans ?_
  rw [q, e]
  simp

/-- «on.extend([e1] * e2)» as a statement -/
theorem extendMul {o : Expr} {pl : Sem Bool} {p1 p2 p3 q1 q2 : Pos} {D : Addr} {ms : List Value} {k x : Nat} {Q : Flow → Shared → Prop} (ho : EvV prog w A env o (.ref D) s) (hD : s.heap.get? D = some (listOf ms.toArray k)) (hsz : ms.length + x < 1000000)
    (h1 : ∀ s₁, Grow s s₁ → EvI prog w A env e1 a s₁) (h2 : ∀ s₁, Grow s s₁ → EvI prog w A env e2 (x : Nat) s₁)
    (hQ : ∀ s' k' t, ExL D s s' → s'.heap.get? D = some (listOf (ms ++ List.replicate x (Value.int a t)).toArray k') → Q .next s')
    (hc : eval (.Call (.Attribute o "extend" p1) [.BinOp (.List [e1] q1) .Mult e2 q2] [] p2) env = (do
      let ov ← eval o env
      standAt p1.atName
      let (f, first) ← holding [ov] (getMethod ov "extend" pl)
      callWith p2 f first (backTo p2 (starEach [.BinOp (.List [e1] q1) .Mult e2 q2] env)) []) := by rfl)
    (hs : starEach [e1] env = [(false, eval e1 env)] := by rfl) (hi : interactive env = false := by rfl) :
    wpAny (model prog w) A (exec (.Expr (.Call (.Attribute o "extend" p1) [.BinOp (.List [e1] q1) .Mult e2 q2] [] p2) p3) env) Q E s := by
  refine wpAny_Expr_any (MethodCall_ (ho.use fun s₀ g₀ => ?_) hc) hi rfl
  have hD₀ := g₀.keep _ _ hD
  refine getMethod_builtin ⟨_, hD₀, rfl⟩ PySem.F.plainAttrs_list PySem.F.slot_list_extend PySem.F.type_list_extend (fun x q => by cases q; exact ⟨_, hD₀, rfl⟩) ?_
  refine callWith_method1 (spliced_more (wpAny_BinOp (List_ (spliced_more ((h1 s₀ g₀).use fun s₁ t g₁ => spliced_none (newList_ fun s₂ l g₂ hl _ => ?_)) hs))) rfl) rfl rfl
  refine (h2 s₂ ((g₀.trans g₁).trans g₂)).use fun s₃ t' g₃ => ?_
  refine mulList (g₃.keep _ _ hl) (by omega) fun s₄ B g₄ _ hB => spliced_none ?_
  have g := (g₁.trans g₂).trans (g₃.trans g₄)
  refine extendCall (g.keep _ _ hD₀) hB (by rw [List.length_replicate]; omega) fun s' n' g' hD' => hQ s' n' t ((g₀.trans g).exL.trans g') hD'

/-- «(n0, .., n4)[e]» -/
theorem EvI.tup5 {n0 n1 n2 n3 n4 : Int} {k0 k1 k2 k3 k4 kk : Nat} {p0 p1 p2 p3 p4 pt q : Pos} {op : Operator} (h : ∀ s', Grow s s' → EvI prog w A env (.BinOp e1 op e2 q) n s') (hn : 0 ≤ n) (hn' : n < 5)
    (hs : starEach [.Constant (.int n0) k0 p0, .Constant (.int n1) k1 p1, .Constant (.int n2) k2 p2, .Constant (.int n3) k3 p3, .Constant (.int n4) k4 p4] env = [(false, eval (.Constant (.int n0) k0 p0) env), (false, eval (.Constant (.int n1) k1 p1) env), (false, eval (.Constant (.int n2) k2 p2) env), (false, eval (.Constant (.int n3) k3 p3) env), (false, eval (.Constant (.int n4) k4 p4) env)] := by rfl) :
    EvI prog w A env (.Subscript (.Tuple [.Constant (.int n0) k0 p0, .Constant (.int n1) k1 p1, .Constant (.int n2) k2 p2, .Constant (.int n3) k3 p3, .Constant (.int n4) k4 p4] kk pt) (.BinOp e1 op e2 q) pos) ([n0, n1, n2, n3, n4].getD n.toNat 0) s := by
  refine Subscript_ (Tuple_ ?_)
  refine spliced_more (EvI.const.use fun s₁ t1 g₁ => spliced_more (EvI.const.use fun s₂ t2 g₂ => spliced_more (EvI.const.use fun s₃ t3 g₃ => spliced_more (EvI.const.use fun s₄ t4 g₄ => spliced_more (EvI.const.use fun s₅ t5 g₅ => spliced_none (newTuple_ fun s₆ T g₆ hT _ => ?_)) rfl) rfl) rfl) rfl) hs
  have g := g₁.trans (g₂.trans (g₃.trans (g₄.trans (g₅.trans g₆))))
  refine (h s₆ g).use fun s₇ t7 g₇ => ?_
  have hT' : IsTup s₇.heap T [.int n0 t1, .int n1 t2, .int n2 t3, .int n3 t4, .int n4 t5].toArray := ⟨_, g₇.keep _ _ hT, rfl, _, rfl⟩
  obtain ⟨i, rfl⟩ : ∃ i : Nat, n = (i : Nat) := ⟨n.toNat, by omega⟩
  have hi : i < 5 := by omega
  refine item_tupleT (j := i) hT' (by omega) (by omega) (by unfold seqIndex?; have h5 : ([Value.int n0 t1, .int n1 t2, .int n2 t3, .int n3 t4, .int n4 t5] : List Value).length = 5 := rfl; rw [h5]; match i, hi with | 0, _ => rfl | 1, _ => rfl | 2, _ => rfl | 3, _ => rfl | 4, _ => rfl) (List.getElem?_eq_getElem (by simpa using hi)) ⟨g.trans g₇, ?_⟩ (by with_unfolding_all rfl)
  match i, hi with
  | 0, _ => exact ⟨_, rfl⟩
  | 1, _ => exact ⟨_, rfl⟩
  | 2, _ => exact ⟨_, rfl⟩
  | 3, _ => exact ⟨_, rfl⟩
  | 4, _ => exact ⟨_, rfl⟩
end

/-- all but two objects stand -/
structure Ex2 (a b : Addr) (s s' : Shared) : Prop where
  keep : ∀ c o, c ≠ a → c ≠ b → s.heap.get? c = some o → s'.heap.get? c = some o
  os : s'.os = s.os
  gens : s'.gens = s.gens
theorem ExL.ex2l {a b : Addr} {s s' : Shared} (g : ExL a s s') : Ex2 a b s s' := ⟨fun c o n _ e => g.keep c o n e, g.os, g.gens⟩
theorem ExL.ex2r {a b : Addr} {s s' : Shared} (g : ExL b s s') : Ex2 a b s s' := ⟨fun c o _ n e => g.keep c o n e, g.os, g.gens⟩
theorem Ex2.trans {a b : Addr} {s s' s'' : Shared} (x : Ex2 a b s s') (y : Ex2 a b s' s'') : Ex2 a b s s'' := ⟨fun c o n n' e => y.keep c o n n' (x.keep c o n n' e), y.os.trans x.os, y.gens.trans x.gens⟩

section
variable {prog : Program} {w : World} {A : Around} {E : Value → Shared → Prop} {s : Shared} {α : Type}

theorem srcListF {RA : Value → α → Prop} {X : List α} {vs : List Value} {l : Addr} {n : Nat} {s₁ : Shared} (g : Grow s s₁) (hl : s₁.heap.get? l = some (listOf vs.toArray n)) (ha : All2 RA vs X) :
    wpAny (model prog w) A (pyIter (.ref l)) (fun itv s₂ => ∃ it V P, itv = .ref it ∧ Src prog w s s₂ RA X it [it, l] V P) E s₁ := by
  refine pyIterList hl fun s₂ it g₂ ni nil st => ⟨it, fun k v => vs[k]? = some v, fun k h => h.IsListIter it l k ∧ h.IsList l vs.toArray, rfl, ?_⟩
  have D := iterList (prog := prog) (w := w) (vs := vs) nil
  have e := ha.length
  refine ⟨by rw [← e]; exact D, st, g.trans g₂, ?_, D.there st, ?_, fun k v hk hv => ?_⟩
  · cases q : s.heap.get? it with
    | none => rfl
    | some o => rw [g.keep _ _ q] at ni; cases ni
  · intro b hb q
    rcases List.mem_cons.mp hb with rfl | hb
    · exact D.there st q
    · rw [List.mem_singleton.mp hb, g₂.keep _ _ hl] at q; cases q
  · have hk' : k < vs.length := by omega
    have : v = vs[k] := by rw [List.getElem?_eq_getElem hk'] at hv; exact (Option.some.inj hv).symm
    rw [this]
    exact ha.get k hk' hk

/-- the same, for a list of which no more is known -/
theorem srcListI {RA : Value → α → Prop} {X : List α} {vs : List Value} {l : Addr} {s₁ : Shared} (g : Grow s s₁) (hL : s₁.heap.IsList l vs.toArray) (ha : All2 RA vs X) :
    wpAny (model prog w) A (pyIter (.ref l)) (fun itv s₂ => ∃ it V P, itv = .ref it ∧ Src prog w s s₂ RA X it [it, l] V P) E s₁ := by
  obtain ⟨o, ho, r⟩ := id hL
  refine wpAny_pyIter_list hL ⟨_, fun k v => vs[k]? = some v, fun k h => h.IsListIter s₁.heap.objs.size l k ∧ h.IsList l vs.toArray, rfl, ?_⟩
  have nil : s₁.heap.objs.size ≠ l := Nat.ne_of_gt (Heap.lt_size ho)
  have D := iterList (prog := prog) (w := w) (vs := vs) nil
  have e := ha.length
  refine ⟨by rw [← e]; exact D, ⟨⟨_, Heap.get?_push_size _ rfl, rfl, rfl⟩, hL.push _⟩, g.trans ⟨fun _ _ e => Heap.get?_push_of_some _ e, rfl, rfl⟩, ?_, ?_, ?_, fun k v hk hv => ?_⟩
  · cases q : s.heap.get? s₁.heap.objs.size with
    | none => rfl
    | some o => exact absurd (Heap.lt_size (g.keep _ _ q)) (Nat.lt_irrefl _)
  · rw [Heap.get?_push_size _ rfl]; exact fun q => by cases q
  · intro b hb q
    rcases List.mem_cons.mp hb with rfl | hb
    · rw [Heap.get?_push_size _ rfl] at q; cases q
    · rw [List.mem_singleton.mp hb, Heap.get?_push_of_some _ ho] at q; cases q
  · have hk' : k < vs.length := by omega
    have : v = vs[k] := by rw [List.getElem?_eq_getElem hk'] at hv; exact (Option.some.inj hv).symm
    rw [this]
    exact ha.get k hk' hk

theorem srcRangeF {n : Nat} {r : Addr} {t u v : Tok} {s₁ : Shared} (g : Grow s s₁) (hr : IsRange s₁.heap r 0 (n : Nat) 1 t u v) (hn : n < 1000000) :
    wpAny (model prog w) A (pyIter (.ref r)) (fun itv s₂ => ∃ it V P, itv = .ref it ∧ Src prog w s s₂ (fun v (k : Nat) => ∃ t, v = .int (k : Nat) t) (List.range n) it [it] V P) E s₁ := by
  refine pyIterRange hr hn fun s₂ it g₂ ni st => ⟨it, fun k v => ∃ t, v = .int (k : Nat) t, fun k h => IsRangeIter h it (k : Nat) ((n : Int) - (k : Nat)) 1, rfl, ?_⟩
  have D := iterRange (prog := prog) (w := w) (it := it) (n := n)
  refine ⟨by rw [List.length_range]; exact D, st, g.trans g₂, ?_, D.there st, ?_, fun k v hk hv => ?_⟩
  · cases q : s.heap.get? it with
    | none => rfl
    | some o => rw [g.keep _ _ q] at ni; cases ni
  · intro b hb q
    rw [List.mem_singleton.mp hb] at q
    exact D.there st q
  · simpa using hv
end

section
variable {prog : Program} {w : World} {A : Around} {E : Value → Shared → Prop} {s : Shared} {name : Str} {fscope : Scope} {L a : Addr} {cd : Value} {base : Heap} {m : Str → Option Value} {α : Type}

/-- a for-loop in a function -/
theorem forS {RA : Value → α → Prop} {X : List α} {fps : Addr → List Addr} {x : Str} {px pos : Pos} {iter : Expr} {body : List Stmt} {Q : Flow → Shared → Prop} (F : Fr base L s.heap m) (hh : A.handled = none)
    (hsrc : wpAny (model prog w) A (eval iter (envOf name fscope L a cd)) (fun y s₁ => wpAny (model prog w) A (pyIter y) (fun itv s₂ => ∃ it V P, itv = .ref it ∧ Src prog w s s₂ RA X it (fps it) V P) E s₁) E s)
    (hfp : ∀ it, s.heap.get? it = none → L ∉ fps it)
    (J : Addr → Nat → Shared → (Str → Option Value) → Prop)
    (hJ : ∀ it k s₁ s₂ m', s.heap.get? it = none → J it k s₁ m' → Ex2 it L s₁ s₂ → J it k s₂ m')
    (h0 : ∀ it s₁, s.heap.get? it = none → Grow s s₁ → J it 0 s₁ m)
    (turn : ∀ it k v s₁ m₁ (hk : k < X.length), s.heap.get? it = none → it ≠ L → s₁.heap.get? it ≠ none → (∀ b ∈ fps it, s₁.heap.get? b ≠ none) → RA v X[k] → Fr base L s₁.heap (upd m₁ x v) → J it k s₁ m₁ →
      wpAny (model prog w) A (execs body (envOf name fscope L a cd)) (fun f s₃ => (f = .next ∧ Stay (fps it) s₁.heap s₃.heap ∧ ∃ m₃, Fr base L s₃.heap m₃ ∧ J it (k + 1) s₃ m₃) ∨ ∃ v, f = .ret v ∧ Q (.ret v) s₃) No s₁)
    (hQ : ∀ it s' m', s.heap.get? it = none → Fr base L s'.heap m' → J it X.length s' m' → Q .next s')
    (hk : fscope.kind = .function := by rfl) (hl : (envOf name fscope L a cd).kindOf x = some .local := by rfl)
    (hs : ∀ x, foldedSetIterable iter (envOf name fscope L a cd) x = pure x := by intro _; rfl) :
    wpAny (model prog w) A (exec (.For (.Name x px) iter body [] pos) (envOf name fscope L a cd)) Q E s := by
  refine wpAny_For (wpAny_mono hsrc (fun y s₁ h₁ => wpAny_mono h₁ (fun itv s₂ h₂ => ?_) fun _ _ e => e) fun _ _ e => e) hs
  obtain ⟨it, V, P, rfl, S⟩ := h₂
  have ni := S.ni
  have iL : it ≠ L := fun q => hfp it ni (q ▸ S.D.mem)
  have fL := hfp it ni
  have bi : base.get? it = none := by
    cases q : base.get? it with
    | none => rfl
    | some o => rw [F.keep _ _ q] at ni; cases ni
  refine forIt (R := fun r s' => match r with | .ok f => Q f s' | .error e => cameBackBy (model prog w) A (envOf name fscope L a cd) E e s') S.D hh S.p0 (fun k s₁ => (∀ b ∈ fps it, b ≠ it → s₁.heap.get? b ≠ none) ∧ ∃ m₁, Fr base L s₁.heap m₁ ∧ J it k s₁ m₁) ?_ ⟨fun b hb _ => S.fp b hb, m, frGrow F S.g, h0 it s₂ ni S.g⟩ ?_ ?_
  · rintro k s₁ s₃ ⟨hf, m₁, F₁, j₁⟩ g
    refine ⟨fun b hb n q => ?_, m₁, frExL F₁ g (Ne.symm iL) bi, hJ it k s₁ s₃ m₁ ni j₁ g.ex2l⟩
    cases e : s₁.heap.get? b with
    | none => exact hf b hb n e
    | some o => rw [g.keep _ _ n e] at q; cases q
  · rintro k v s₁ hk' hv hp ⟨hf, m₁, F₁, j₁⟩
    have git := S.D.there hp
    refine st_ F₁ (fun s₂ F₂ g₂ => ?_) hk hl
    have k12 : ∀ b, b ≠ L → s₁.heap.get? b ≠ none → s₂.heap.get? b ≠ none := fun b n e q => by
      cases e' : s₁.heap.get? b with
      | none => exact e e'
      | some o => rw [g₂.keep _ _ n e'] at q; cases q
    refine wpAny_mono (turn it k v s₂ m₁ hk' ni iL (k12 it iL git) (fun b hb => k12 b (fun q => fL (q ▸ hb)) ?_) (S.ra k v hk' hv) F₂ (hJ it k s₁ s₂ m₁ ni j₁ g₂.ex2r)) (fun f s₃ h₃ => ?_) fun _ _ q => q
    · by_cases q : b = it
      · rw [q]; exact git
      · exact hf b hb q
    · rcases h₃ with ⟨rfl, st, m₃, F₃, j₃⟩ | h₃
      · refine .inl ⟨rfl, fun b hb o e => st b hb o (g₂.keep b o (fun q => fL (q ▸ hb)) e), fun b hb n q => ?_, m₃, F₃, j₃⟩
        cases e : s₁.heap.get? b with
        | none => exact hf b hb n e
        | some o => rw [st b hb o (g₂.keep b o (fun q => fL (q ▸ hb)) e)] at q; cases q
      · exact .inr h₃
  · rintro s' ⟨_, m', F', j'⟩
    exact hQ it s' m' ni F' j'
end

section
variable {prog : Program} {w : World} {A : Around} {E : Value → Shared → Prop} {s : Shared} {env : Env} {e lo : Expr} {pos p : Pos} {D : Addr} {vs : List Value} {j k : Nat}

/-- xs[lo:] -/
theorem sliceFrom {Q : Value → Shared → Prop} (h : EvV prog w A env e (.ref D) s) (hD : s.heap.get? D = some (listOf vs.toArray j)) (hz : vs.length < 1000000) (hk : ∀ s₁, Grow s s₁ → EvI prog w A env lo (k : Nat) s₁)
    (hQ : ∀ s' B, Grow s s' → s.heap.get? B = none → s'.heap.get? B = some (listOf (vs.drop k).toArray 0) → Q (.ref B) s') : wpAny (model prog w) A (eval (.Subscript e (.Slice (some lo) none none p) pos) env) Q E s := by
  refine Subscript_ (h.use fun s₁ g₁ => wpAny_Slice ?_)
  rw [evalPart_some, evalPart_none]
  refine (hk s₁ g₁).use fun s₂ t g₂ => wpAny_pure (wpAny_pure ?_)
  have g₃ : Grow s₂ { s₂ with heap := s₂.heap.push { cls := .type "slice", data := .fields #[.int (k : Nat) t, .none, .none] } } := ⟨fun _ _ e => Heap.get?_push_of_some _ e, rfl, rfl⟩
  have g := g₁.trans (g₂.trans g₃)
  have hL := isL (g.keep _ _ hD)
  refine tail_any hL.typeIs slot_list_getitem.lookup (wpAny_getItem_list_slice hL (Heap.IsSliceOf.new ..) (.int _ _) .none .none (by simp) ?_ (by rw [List.size_toArray, sizeLine_eq]; omega)) rfl
  have e : slicePick vs.toArray (some (k : Int)) none none = (vs.drop k).toArray := by rw [slicePick_from']
  rw [e]
  refine hQ _ _ ⟨fun _ _ e => Heap.get?_push_of_some _ (g.keep _ _ e), g.os, g.gens⟩ ?_ (Heap.get?_push_size _ rfl)
  cases q : s.heap.get? (s₂.heap.push { cls := .type "slice", data := .fields #[.int (k : Nat) t, .none, .none] }).objs.size with
  | none => rfl
  | some o => exact absurd (Heap.lt_size (g.keep _ _ q)) (Nat.lt_irrefl _)

/-- xs[:] -/
theorem sliceAll {Q : Value → Shared → Prop} (h : EvV prog w A env e (.ref D) s) (hD : s.heap.get? D = some (listOf vs.toArray j)) (hz : vs.length < 1000000)
    (hQ : ∀ s' B, Grow s s' → s.heap.get? B = none → s'.heap.get? B = some (listOf vs.toArray 0) → Q (.ref B) s') : wpAny (model prog w) A (eval (.Subscript e (.Slice none none none p) pos) env) Q E s := by
  refine Subscript_ (h.use fun s₁ g₁ => wpAny_Slice ?_)
  simp only [evalPart_none]
  refine wpAny_pure (wpAny_pure (wpAny_pure ?_))
  have g₃ : Grow s₁ { s₁ with heap := s₁.heap.push { cls := .type "slice", data := .fields #[.none, .none, .none] } } := ⟨fun _ _ e => Heap.get?_push_of_some _ e, rfl, rfl⟩
  have g := g₁.trans g₃
  have hL := isL (g.keep _ _ hD)
  refine tail_any hL.typeIs slot_list_getitem.lookup (wpAny_getItem_list_slice hL (Heap.IsSliceOf.new ..) .none .none .none (by simp) ?_ (by rw [List.size_toArray, sizeLine_eq]; omega)) rfl
  rw [slicePick_all]
  refine hQ _ _ ⟨fun _ _ e => Heap.get?_push_of_some _ (g.keep _ _ e), g.os, g.gens⟩ ?_ (Heap.get?_push_size _ rfl)
  cases q : s.heap.get? (s₁.heap.push { cls := .type "slice", data := .fields #[.none, .none, .none] }).objs.size with
  | none => rfl
  | some o => exact absurd (Heap.lt_size (g.keep _ _ q)) (Nat.lt_irrefl _)

/-- len(xs) -/
theorem EvI.len {x : Str} {p1 : Pos} (hb : wpAny (model prog w) A (eval (.Name x p) env) (fun v s' => v = .builtin "len" ∧ s' = s) No s) (h : EvV prog w A env e (.ref D) s) (hD : s.heap.get? D = some (listOf vs.toArray j)) (hz : vs.length < 1000000)
    (hc : eval (.Call (.Name x p) [e] [] p1) env = (do callWith p1 (← eval (.Name x p) env) [] (backTo p1 (starEach [e] env)) (backToKw p1 (keywordEach [] env))) := by rfl)
    (q1 : starEach [e] env = (false, eval e env) :: starEach [] env := by rfl) :
    EvI prog w A env (.Call (.Name x p) [e] [] p1) (vs.length : Nat) s := by
  refine Call_ (wpAny_mono hb (fun v s' ⟨q, q'⟩ => ?_) fun _ _ q => q) hc
  subst q q'
  refine callWith_builtin1 (spliced_more (h.use fun s₁ g => spliced_none ?_) q1) q1 rfl
  refine len_list (isL (g.keep _ _ hD)) (by rw [List.size_toArray]; omega) ?_
  rw [List.size_toArray]
  exact ⟨g.trans (Grow.toks _ _), _, rfl⟩
end

section
variable {prog : Program} {w : World} {A : Around} {E : Value → Shared → Prop} {s : Shared}
open MeetsSeq MeetsSeq2 MeetsSeq3

theorem loopLt (l b : Addr) (x y : Int) (tx ty : Tok) (n n2 : Nat) : Meets (Builtin.«list.__lt__» ⟨[.ref l, .ref b], []⟩)
    (fun _ R s => s.heap.get? l = some (listOf #[.int x tx] n) ∧ s.heap.get? b = some (listOf #[.int y ty] n2) ∧ R (.ok (.ret (.bool (decide (x < y))))) s) := by
  intro prog w A R s h
  obtain ⟨hp, g, d, tk, os⟩ := s; obtain ⟨hl, hb, h⟩ := h
  have f3 := AutoSeq1.sub_list_list
  wp_walk using PySem.AutoSeq1.wpAny_loadPart' hl, PySem.AutoSeq1.wpAny_loadPart' hb
  refine ⟨plainId_quiet plain_eq_loop _, codeAny_builtin entry_eq_loop ?_⟩
  rw [Around.under_plainId plain_eq_loop _]
  wp_walk using PySem.AutoSeq1.wpAny_loadPart' hl, PySem.AutoSeq1.wpAny_loadPart' hb
  refine EqAt.int_int x tx y ty prog w _ _ ?_
  by_cases e : x = y
  · rw [show (x == y) = true by simpa using e, if_pos rfl]
    wp_walk
    refine ⟨plainId_quiet plain_eq_loop _, codeAny_builtin entry_eq_loop ?_⟩
    rw [Around.under_plainId plain_eq_loop _]
    wp_walk using PySem.AutoSeq1.wpAny_loadPart' hl, PySem.AutoSeq1.wpAny_loadPart' hb
    rw [show decide (x < y) = false by simp; omega] at h
    exact h
  · rw [show (x == y) = false by simpa using e, if_neg (by decide)]
    refine wpAny_bind (listItems_at hl rfl (wpAny_bind (listItems_at hb rfl ?_)))
    show wpAny _ _ (compareOp .Lt (.int x tx) (.int y ty) >>= fun r => ret r) _ _ _
    exact wpAny_bind (PyProof.Rows.lt_int (wpAny_pure h))

theorem loopGt (l b : Addr) (x y : Int) (tx ty : Tok) (n n2 : Nat) : Meets (Builtin.«list.__gt__» ⟨[.ref l, .ref b], []⟩)
    (fun _ R s => s.heap.get? l = some (listOf #[.int x tx] n) ∧ s.heap.get? b = some (listOf #[.int y ty] n2) ∧ R (.ok (.ret (.bool (decide (x > y))))) s) := by
  intro prog w A R s h
  obtain ⟨hp, g, d, tk, os⟩ := s; obtain ⟨hl, hb, h⟩ := h
  have f3 := AutoSeq1.sub_list_list
  wp_walk using PySem.AutoSeq1.wpAny_loadPart' hl, PySem.AutoSeq1.wpAny_loadPart' hb
  refine ⟨plainId_quiet plain_eq_loop _, codeAny_builtin entry_eq_loop ?_⟩
  rw [Around.under_plainId plain_eq_loop _]
  wp_walk using PySem.AutoSeq1.wpAny_loadPart' hl, PySem.AutoSeq1.wpAny_loadPart' hb
  refine EqAt.int_int x tx y ty prog w _ _ ?_
  by_cases e : x = y
  · rw [show (x == y) = true by simpa using e, if_pos rfl]
    wp_walk
    refine ⟨plainId_quiet plain_eq_loop _, codeAny_builtin entry_eq_loop ?_⟩
    rw [Around.under_plainId plain_eq_loop _]
    wp_walk using PySem.AutoSeq1.wpAny_loadPart' hl, PySem.AutoSeq1.wpAny_loadPart' hb
    rw [show decide (x > y) = false by simp; omega] at h
    exact h
  · rw [show (x == y) = false by simpa using e, if_neg (by decide)]
    refine wpAny_bind (listItems_at hl rfl (wpAny_bind (listItems_at hb rfl ?_)))
    show wpAny _ _ (compareOp .Gt (.int x tx) (.int y ty) >>= fun r => ret r) _ _ _
    exact wpAny_bind (PyProof.Rows.gt_int (wpAny_pure h))

theorem ltL1 {l b : Addr} {x y : Int} {tx ty : Tok} {n n2 : Nat} {Q : Value → Shared → Prop} (hl : s.heap.get? l = some (listOf #[.int x tx] n)) (hb : s.heap.get? b = some (listOf #[.int y ty] n2)) (hu : A.units < cLine) (h : Q (.bool (decide (x < y))) s) :
    wpAny (model prog w) A (compareOp .Lt (.ref l) (.ref b)) Q E s :=
  cmp_ofLt (richCompare_meets_room (op := .Lt) ⟨_, hl, rfl⟩ ⟨_, hb, rfl⟩ PySem.F.slot_list_lt PySem.F.entry_list_lt (PySem.F.args_list_lt_2 _ _) (loopLt l b x y tx ty n n2) ⟨hl, hb, show Value.bool _ ≠ Value.notImplemented ∧ Q _ s from ⟨(fun x => nomatch x), h⟩⟩ hu)
theorem gtL1 {l b : Addr} {x y : Int} {tx ty : Tok} {n n2 : Nat} {Q : Value → Shared → Prop} (hl : s.heap.get? l = some (listOf #[.int x tx] n)) (hb : s.heap.get? b = some (listOf #[.int y ty] n2)) (hu : A.units < cLine) (h : Q (.bool (decide (x > y))) s) :
    wpAny (model prog w) A (compareOp .Gt (.ref l) (.ref b)) Q E s :=
  cmp_ofGt (richCompare_meets_room (op := .Gt) ⟨_, hl, rfl⟩ ⟨_, hb, rfl⟩ PySem.F.slot_list_gt PySem.F.entry_list_gt (PySem.F.args_list_gt_2 _ _) (loopGt l b x y tx ty n n2) ⟨hl, hb, show Value.bool _ ≠ Value.notImplemented ∧ Q _ s from ⟨(fun x => nomatch x), h⟩⟩ hu)

/-- lists that hold the very same items -/
theorem neSame {l b : Addr} {us : List Value} {n k : Nat} (hl : s.heap.get? l = some (listOf us.toArray n)) (hb : s.heap.get? b = some (listOf us.toArray k)) (hu : A.units < cLine) : RcNeAt A s (.ref l) (.ref b) false := by
  have := RcNeAt.lists (e := fun _ => true) (isL hl) (isL hb) rfl hu fun j h1 h2 => EqAt.same _
  have e : ((List.range us.toArray.size).all fun _ => true) = true := by simp
  rw [e] at this; exact this
theorem eqSame {l b : Addr} {us : List Value} {n k : Nat} (hl : s.heap.get? l = some (listOf us.toArray n)) (hb : s.heap.get? b = some (listOf us.toArray k)) (hu : A.units < cLine) : RcAt A s (.ref l) (.ref b) true := by
  have := RcAt.lists (e := fun _ => true) (isL hl) (isL hb) rfl hu fun j h1 h2 => EqAt.same _
  have e : ((List.range us.toArray.size).all fun _ => true) = true := by simp
  rw [e] at this; exact this
end

section
variable {prog : Program} {w : World} {A : Around} {E : Value → Shared → Prop} {s : Shared} {env : Env} {e e1 e2 : Expr} {pos p : Pos} {v : Value}

/-- xs[e], an index that is there -/
theorem EvV.item {D : Addr} {vs : List Value} {j i : Nat} {sl : Expr} (h : EvV prog w A env e (.ref D) s) (hD : s.heap.get? D = some (listOf vs.toArray j)) (hi : vs[i]? = some v) (hz : i < 1000000) (hs : ∀ s₁, Grow s s₁ → EvI prog w A env sl (i : Nat) s₁)
    (hq : ∀ t, subscripted sl false (.ref D) (.int (i : Nat) t) = operate [.ref D, .int (i : Nat) t] (getItem (.ref D) (.int (i : Nat) t)) := by intro _; with_unfolding_all rfl) : EvV prog w A env (.Subscript e sl pos) v s := by
  refine Subscript_ (h.use fun s₁ g₁ => (hs s₁ g₁).use fun s₂ t g₂ => ?_)
  have hL := isL (g₂.keep _ _ (g₁.keep _ _ hD))
  exact tail_any hL.typeIs slot_list_getitem.lookup (wpAny_getItem_list (x := v) hL (by omega) (by omega) (by simpa using hi) ⟨g₁.trans g₂, rfl⟩) (hq t)

/-- divmod(e, 3)[w] -/
theorem EvI.divmod {x : Str} {a b : Int} {k i : Nat} {p1 p2 p3 : Pos} {y : Str} {m : Str → Option Value} {t : Tok} (hb : wpAny (model prog w) A (eval (.Name x p) env) (fun v s' => v = .builtin "divmod" ∧ s' = s) No s)
    (h1 : EvI prog w A env e1 a s) (h0 : b ≠ 0) (hs : b.natAbs < 1073741824) (hn : s.heap.Ns env.locals m) (hv : m y = some (.int (i : Nat) t)) (hi : i < 2)
    (hk : env.scope.kind = .function := by rfl) (hl : env.kindOf y = some .local := by rfl) (hd : (y == ("__debug__" : Str)) = false := by decide)
    (hc : eval (.Call (.Name x p) [e1, .Constant (.int b) k p2] [] p1) env = (do callWith p1 (← eval (.Name x p) env) [] (backTo p1 (starEach [e1, .Constant (.int b) k p2] env)) (backToKw p1 (keywordEach [] env))) := by rfl)
    (q1 : starEach [e1, .Constant (.int b) k p2] env = (false, eval e1 env) :: starEach [.Constant (.int b) k p2] env := by rfl) (q2 : starEach [.Constant (.int b) k p2] env = (false, eval (.Constant (.int b) k p2) env) :: starEach [] env := by rfl) :
    EvI prog w A env (.Subscript (.Call (.Name x p) [e1, .Constant (.int b) k p2] [] p1) (.Name y p3) pos) (if i = 0 then a.fdiv b else a.fmod b) s := by
  refine Subscript_ (Call_ (wpAny_mono hb (fun v s' ⟨q, q'⟩ => ?_) fun _ _ q => q) hc)
  subst q q'
  refine callWith_builtin1 (spliced_more (h1.use fun s₁ t1 g₁ => spliced_more (EvI.const.use fun s₂ t2 g₂ => spliced_none ?_) q2) q1) q1 (by rw [q2]; rfl)
  refine divmod_int h0 ?_ (.inl (PyProof.noPylong_small hs))
  have g₃ : Grow s₂ { s₂ with toks := s₂.toks + 1 + 1, heap := s₂.heap.push { cls := .type "tuple", data := .seq #[.int (a.fdiv b) s₂.toks, .int (a.fmod b) (s₂.toks + 1)] } } := ⟨fun _ _ e => Heap.get?_push_of_some _ e, rfl, rfl⟩
  have g := g₁.trans (g₂.trans g₃)
  refine ldE (hn.keeps g.keep) hv ?_ hk hl hd
  have hT : IsTup (s₂.heap.push { cls := .type "tuple", data := .seq #[.int (a.fdiv b) s₂.toks, .int (a.fmod b) (s₂.toks + 1)] }) s₂.heap.objs.size [Value.int (a.fdiv b) s₂.toks, .int (a.fmod b) (s₂.toks + 1)].toArray := ⟨_, Heap.get?_push_size _ rfl, rfl, _, rfl⟩
  have hi' : i = 0 ∨ i = 1 := by omega
  rcases hi' with rfl | rfl
  · exact item_tupleT (j := 0) (l := [Value.int (a.fdiv b) s₂.toks, .int (a.fmod b) (s₂.toks + 1)]) hT (by decide) (by decide) (by rfl) rfl ⟨g, _, rfl⟩ (by with_unfolding_all rfl)
  · exact item_tupleT (j := 1) (l := [Value.int (a.fdiv b) s₂.toks, .int (a.fmod b) (s₂.toks + 1)]) hT (by decide) (by decide) (by rfl) rfl ⟨g, _, rfl⟩ (by with_unfolding_all rfl)

/-- range(len(xs)) as what is walked over -/
theorem rangeLen {D : Addr} {vs : List Value} {j : Nat} {x y : Str} {p1 p2 p3 : Pos} (hr : wpAny (model prog w) A (eval (.Name x p) env) (fun v s' => v = .type "range" ∧ s' = s) No s)
    (hn : ∀ s₁, Grow s s₁ → wpAny (model prog w) A (eval (.Name y p1) env) (fun v s' => v = .builtin "len" ∧ s' = s₁) No s₁) (h : ∀ s₁, Grow s s₁ → EvV prog w A env e (.ref D) s₁) (hD : s.heap.get? D = some (listOf vs.toArray j)) (hz : vs.length < 1000000)
    (hc : eval (.Call (.Name x p) [.Call (.Name y p1) [e] [] p2] [] p3) env = (do callWith p3 (← eval (.Name x p) env) [] (backTo p3 (starEach [.Call (.Name y p1) [e] [] p2] env)) (backToKw p3 (keywordEach [] env))) := by rfl)
    (q1 : starEach [.Call (.Name y p1) [e] [] p2] env = (false, eval (.Call (.Name y p1) [e] [] p2) env) :: starEach [] env := by rfl)
    (hc' : eval (.Call (.Name y p1) [e] [] p2) env = (do callWith p2 (← eval (.Name y p1) env) [] (backTo p2 (starEach [e] env)) (backToKw p2 (keywordEach [] env))) := by rfl)
    (q1' : starEach [e] env = (false, eval e env) :: starEach [] env := by rfl) :
    wpAny (model prog w) A (eval (.Call (.Name x p) [.Call (.Name y p1) [e] [] p2] [] p3) env) (fun v s₁ => ∃ r t u w', v = .ref r ∧ Grow s s₁ ∧ IsRange s₁.heap r 0 (vs.length : Nat) 1 t u w') E s := by
  refine Call_ (wpAny_mono hr (fun v s' ⟨q, q'⟩ => ?_) fun _ _ q => q.elim) hc
  subst q q'
  refine callWith_type1 (spliced_more ((EvI.len (hn s' (.refl _)) (h s' (.refl _)) hD hz hc' q1').use fun s₁ t g => spliced_none ?_) q1) q1 rfl
  refine call_range_1 ⟨_, _, _, _, rfl, g.trans ⟨fun _ _ e => Heap.get?_push_of_some _ e, rfl, rfl⟩, Heap.get?_push_size _ rfl⟩
end

/-- a frame with captured names: locals m, cells cm -/
structure Fc (base : Heap) (env : Env) (h : Heap) (m cm : Str → Option Value) : Prop where
  fr : Fr base env.locals h m
  cl : Cl env.locals env.cells h cm

section
variable {prog : Program} {w : World} {A : Around} {E : Value → Shared → Prop} {s s' : Shared} {base : Heap} {env : Env} {m cm : Str → Option Value}

theorem fcGrow (F : Fc base env s.heap m cm) (g : Grow s s') : Fc base env s'.heap m cm := ⟨frGrow F.fr g, F.cl.keeps g.keep⟩
theorem fcExL {D : Addr} (F : Fc base env s.heap m cm) (g : ExL D s s') (hL : D ≠ env.locals) (hb : base.get? D = none) (hc : ∀ n c, env.cells.lookup n = some c → D ≠ c) : Fc base env s'.heap m cm :=
  ⟨frExL F.fr g (Ne.symm hL) hb, ⟨fun n c e => let ⟨o, ho, hd⟩ := F.cl.cell n c e; ⟨o, g.keep c o (Ne.symm (hc n c e)) ho, hd⟩, F.cl.apart, F.cl.above⟩⟩
/-- what is new is none of the frame's places -/
theorem fcNew {a : Addr} (F : Fc base env s.heap m cm) (h : s.heap.get? a = none) : a ≠ env.locals ∧ base.get? a = none ∧ ∀ n c, env.cells.lookup n = some c → a ≠ c := by
  refine ⟨fun q => ?_, ?_, fun n c e q => ?_⟩
  · obtain ⟨o, _, _, ho, _⟩ := F.fr.ns
    rw [q, ho] at h; cases h
  · cases q : base.get? a with
    | none => rfl
    | some o => rw [F.fr.keep _ _ q] at h; cases h
  · obtain ⟨o, ho, _⟩ := F.cl.cell n c e
    rw [q, ho] at h; cases h

theorem stL {x : Str} {v : Value} {Q : Unit → Shared → Prop} (F : Fc base env s.heap m cm) (h : ∀ s', Fc base env s'.heap (upd m x v) cm → ExL env.locals s s' → Q () s')
    (hk : env.scope.kind = .function := by rfl) (hl : env.kindOf x = some .local := by rfl) : wpAny (model prog w) A (storeName env x v) Q E s := by
  refine wpAny_storeName_local hl F.fr.ns (fun h' hn hs => h _ ⟨F.fr.set hn hs, F.cl.sameBut hs (Nat.le_refl _)⟩ ⟨fun b _ n e => (hs.2 b n).trans e, rfl, rfl⟩) (by rw [hk]; rfl)
theorem stCe {x : Str} {c : Addr} {v : Value} {Q : Unit → Shared → Prop} (F : Fc base env s.heap m cm) (hc : env.cells.lookup x = some c) (h : ∀ s', Fc base env s'.heap m (upd cm x v) → ExL c s s' → Q () s')
    (hk : env.scope.kind = .function := by rfl) (hl : env.kindOf x = some .cell := by rfl) : wpAny (model prog w) A (storeName env x v) Q E s := by
  have hLc := F.cl.above x c (mem_of_lookup hc)
  refine wpAny_storeName_cell hk hl hc (F.cl.cell x c hc) fun h' hv hs => h _ ⟨⟨F.fr.ns.sameBut hs (Nat.ne_of_lt hLc), fun b o e => (hs.2 b (Nat.ne_of_lt (Nat.lt_trans (Nat.lt_of_lt_of_le (Heap.lt_size e) F.fr.above) hLc))).trans (F.fr.keep b o e), F.fr.above⟩, ⟨fun n c' e => ?_, F.cl.apart, F.cl.above⟩⟩ ⟨fun b _ n e => (hs.2 b n).trans e, rfl, rfl⟩
  by_cases hn : n = x
  · subst hn; rw [hc] at e; cases e
    have : upd cm n v n = some v := upd_same
    rw [this]; exact hv
  · have hcc : c' ≠ c := fun q => hn (name_of_addr F.cl.apart (mem_of_lookup e) (q ▸ mem_of_lookup hc))
    have : upd cm x v n = cm n := upd_ne hn rfl
    rw [this]; exact (F.cl.cell n c' e).sameBut hs hcc
theorem ldCe {x : Str} {c : Addr} {v : Value} {pos : Pos} {Q : Value → Shared → Prop} (F : Fc base env s.heap m cm) (hc : env.cells.lookup x = some c) (hv : cm x = some v) (h : Q v s)
    (hk : env.scope.kind = .function := by rfl) (hl : env.kindOf x = some .cell := by rfl) (hd : (x == ("__debug__" : Str)) = false := by decide) : wpAny (model prog w) A (eval (.Name x pos) env) Q E s := by
  obtain ⟨o, ho, hd'⟩ := F.cl.cell x c hc
  rw [hv] at hd'
  exact ldCell hc ho hd' h hk hl hd

theorem nameGE {x : Str} {v : Value} {pos : Pos} {Q : Value → Shared → Prop} (hb : base.StaysIn s.heap) (B : Gn base x v) (h : Q v s) (eg : env.globals = mainGlobals := by rfl)
    (hk : env.scope.kind = .function := by rfl) (hx : env.kindOf x = some .globalImplicit := by rfl) (hd : (x == ("__debug__" : Str)) = false := by decide) : wpAny (model prog w) A (eval (.Name x pos) env) Q E s :=
  let ⟨_, g, v'⟩ := B
  Calls.Name_function_global hk hx (Calls.loadGlobal_global (env := env) (eg ▸ g.keeps hb) v' h) hd

theorem callNameE {x name : Str} {f : Addr} {cd : Value} {st : Stmt} {e : Expr} {rest : List Expr} {p pos : Pos} {Q : Value → Shared → Prop} (hb : base.StaysIn s.heap) (G : Gn base x (.ref f)) (fn : Fn base f name st cd)
    (h : wpAny (model prog w) A (spliced (backTo pos (starEach (e :: rest) env))) (fun vs s₁ => base.StaysIn s₁.heap ∧
      codeAny (model prog w) A (.call (.ref f) ⟨vs, []⟩) (fun r s' => match r with | .ok (.ret v) => Q v s' | .ok _ => False | .error e => E e s') s₁) E s)
    (he : starEach (e :: rest) env = (false, eval e env) :: starEach rest env := by rfl)
    (hc : eval (.Call (.Name x p) (e :: rest) [] pos) env = (do callWith pos (← eval (.Name x p) env) [] (backTo pos (starEach (e :: rest) env)) (backToKw pos (keywordEach [] env))) := by rfl)
    (eg : env.globals = mainGlobals := by rfl) (hk : env.scope.kind = .function := by rfl) (hx : env.kindOf x = some .globalImplicit := by rfl) (hd : (x == ("__debug__" : Str)) = false := by decide) :
    wpAny (model prog w) A (eval (.Call (.Name x p) (e :: rest) [] pos) env) Q E s := by
  obtain ⟨⟨o, doc, pm, an, ct, ho, hd'⟩, _⟩ := fn
  refine Call_ (nameGE hb G ?_ eg hk hx hd) hc
  refine callWith_def hd' (wpAny_mono h (fun vs s₁ h₁ => ⟨h₁.1 _ _ ho, wpAny_call h₁.2⟩) fun _ _ x => x) he

/-- a call of a function with captured names -/
theorem callFnC {R : Result → Shared → Prop} {st : Stmt} {name : Str} {f : Addr} {cd : Value} {args : List Value} {binds : List (Str × Value)}
    (fn : Fn s.heap f name st cd) (lim : s.heap.NoLimit) (hroom : A.depth < recursionLimit)
    (hbind : ∀ doc pm an ct, bindArgs (fnOf name name (paramsOf st) (bodyOf st) (scopeOf st) .none .none doc pm an cd ct) ⟨args, []⟩ = pure binds)
    (hkind : ∀ x ∈ binds, (scopeOf st).names.lookup x.1 = some .local ∨ ((scopeOf st).names.lookup x.1 = some .cell ∧ ((cellsFrom (s.heap.objs.size + 1) (scopeOf st).names []).lookup x.1).isSome = true))
    (h : ∀ s₁, Fc s.heap (envOfC name (scopeOf st) s.heap.objs.size f cd) s₁.heap (bindL (envOfC name (scopeOf st) s.heap.objs.size f cd).kindOf binds fun _ => none) (bindC (envOfC name (scopeOf st) s.heap.objs.size f cd).kindOf binds fun _ => none) → Grow s s₁ →
      wpAny (model prog w) (A.deeper (envOfC name (scopeOf st) s.heap.objs.size f cd)) (execs (bodyOf st) (envOfC name (scopeOf st) s.heap.objs.size f cd))
        (fun fl s' => R (.ok (.ret (match fl with | .ret v => v | _ => .none))) s')
        (fun e s' => wpAny (model prog w) (A.deeper (envOfC name (scopeOf st) s.heap.objs.size f cd)) (leaving (envOfC name (scopeOf st) s.heap.objs.size f cd) e) (fun _ s'' => R (.error e) s'') (fun e' s'' => R (.error e') s'') s') s₁)
    (hco : (scopeOf st).isCoroutine = false := by rfl) (hgen : (scopeOf st).isGenerator = false := by rfl) (hk : (scopeOf st).kind = .function := by rfl) :
    codeAny (model prog w) A (.call (.ref f) ⟨args, []⟩) R s := by
  obtain ⟨⟨o, doc, pm, an, ct, ho, hd⟩, hcd⟩ := fn
  refine codeAny_call_cells hroom ho hd lim hcd rfl (hbind doc pm an ct) rfl hkind (fun s₁ X => ?_) hco hgen hk
  have F : Fc s.heap (envOfC name (scopeOf st) s.heap.objs.size f cd) s₁.heap _ _ := ⟨⟨X.toInCall.ns, X.toInCall.keep, X.toInCall.fresh⟩, ⟨X.cell, X.apart, X.above⟩⟩
  obtain ⟨h₁, tk, rfl⟩ := X.toInCall.same
  exact h _ F ⟨X.toInCall.keep, rfl, rfl⟩

/-- a for-loop, any frame -/
theorem forG {α : Type} {RA : Value → α → Prop} {X : List α} {fps : Addr → List Addr} {x : Str} {px pos : Pos} {iter : Expr} {body : List Stmt} {Q : Flow → Shared → Prop} (hh : A.handled = none)
    (hsrc : wpAny (model prog w) A (eval iter env) (fun y s₁ => wpAny (model prog w) A (pyIter y) (fun itv s₂ => ∃ it V P, itv = .ref it ∧ Src prog w s s₂ RA X it (fps it) V P) E s₁) E s)
    (J : Addr → Nat → Shared → Prop) (hJ : ∀ it k s₁ s₂, s.heap.get? it = none → J it k s₁ → ExL it s₁ s₂ → J it k s₂) (h0 : ∀ it s₁, s.heap.get? it = none → Grow s s₁ → J it 0 s₁)
    (turn : ∀ it k v s₁ (hk : k < X.length), s.heap.get? it = none → s₁.heap.get? it ≠ none → RA v X[k] → J it k s₁ →
      wpAny (model prog w) A (storeName env x v) (fun _ s₂ => wpAny (model prog w) A (execs body env) (fun f s₃ => (f = .next ∧ Stay (fps it) s₁.heap s₃.heap ∧ J it (k + 1) s₃) ∨ ∃ v, f = .ret v ∧ Q (.ret v) s₃) No s₂) No s₁)
    (hQ : ∀ it s', s.heap.get? it = none → J it X.length s' → Q .next s')
    (hs : ∀ x, foldedSetIterable iter env x = pure x := by intro _; rfl) :
    wpAny (model prog w) A (exec (.For (.Name x px) iter body [] pos) env) Q E s := by
  refine wpAny_For (wpAny_mono hsrc (fun y s₁ h₁ => wpAny_mono h₁ (fun itv s₂ h₂ => ?_) fun _ _ e => e) fun _ _ e => e) hs
  obtain ⟨it, V, P, rfl, S⟩ := h₂
  have ni := S.ni
  refine forIt (R := fun r s' => match r with | .ok f => Q f s' | .error e => cameBackBy (model prog w) A env E e s') S.D hh S.p0 (fun k s₁ => J it k s₁) (fun k s₁ s₂ j g => hJ it k s₁ s₂ ni j g) (h0 it s₂ ni S.g) ?_ fun s' j => hQ it s' ni j
  intro k v s₁ hk hv hp j
  exact turn it k v s₁ hk ni (S.D.there hp) (S.ra k v hk hv) j
end

section
variable {prog : Program} {w : World} {A : Around} {E : Value → Shared → Prop} {s : Shared} {env : Env}

/-- a for-loop over a list that stands, any frame (its iterable has just been evaluated) -/
theorem forLs {α : Type} {RA : Value → α → Prop} {X : List α} {l : Addr} {vs : List Value} {n : Nat} {x : Str} {px : Pos} {body : List Stmt} {Q : Flow → Shared → Prop} (hh : A.handled = none)
    (hl : s.heap.get? l = some (listOf vs.toArray n)) (ha : All2 RA vs X)
    (J : Addr → Nat → Shared → Prop) (hJ : ∀ it k s₁ s₂, s.heap.get? it = none → J it k s₁ → ExL it s₁ s₂ → J it k s₂) (h0 : ∀ it s₁, s.heap.get? it = none → Grow s s₁ → J it 0 s₁)
    (turn : ∀ it k v s₁ (hk : k < X.length), s.heap.get? it = none → it ≠ l → s₁.heap.get? it ≠ none → RA v X[k] → J it k s₁ →
      wpAny (model prog w) A (storeName env x v) (fun _ s₂ => wpAny (model prog w) A (execs body env) (fun f s₃ => (f = .next ∧ Stay [it, l] s₁.heap s₃.heap ∧ J it (k + 1) s₃) ∨ ∃ v, f = .ret v ∧ Q (.ret v) s₃) No s₂) No s₁)
    (hQ : ∀ it s', s.heap.get? it = none → J it X.length s' → Q .next s') :
    wpAny (model prog w) A (pyIter (.ref l)) (fun it s₂ => codeAny (model prog w) A (.forLoop (.Name x px) it body [] env) (fun r s' => match r with | .ok f => Q f s' | .error e => cameBackBy (model prog w) A env E e s') s₂) E s := by
  refine wpAny_mono (srcListF (E := E) (.refl s) hl ha) (fun itv s₂ h₂ => ?_) fun _ _ e => e
  obtain ⟨it, V, P, rfl, S⟩ := h₂
  have ni := S.ni
  have il : it ≠ l := fun q => by rw [q, hl] at ni; cases ni
  refine forIt (R := fun r s' => match r with | .ok f => Q f s' | .error e => cameBackBy (model prog w) A env E e s') S.D hh S.p0 (fun k s₁ => J it k s₁) (fun k s₁ s₂ j g => hJ it k s₁ s₂ ni j g) (h0 it s₂ ni S.g) ?_ fun s' j => hQ it s' ni j
  intro k v s₁ hk hv hp j
  exact turn it k v s₁ hk ni il (S.D.there hp) (S.ra k v hk hv) j

/-- xs[:k] of what e gives -/
theorem sliceTo {e : Expr} {p1 p pos : Pos} {k kc : Nat} {Q : Value → Shared → Prop}
    (h : wpAny (model prog w) A (eval e env) (fun v s₁ => ∃ (D : Addr) (vs : List Value) (j : Nat), v = .ref D ∧ s₁.heap.get? D = some (listOf vs.toArray j) ∧ vs.length < 1000000 ∧ ∀ s' B, Grow s₁ s' → s₁.heap.get? B = none → s'.heap.get? B = some (listOf (vs.take k).toArray 0) → Q (.ref B) s') E s) :
    wpAny (model prog w) A (eval (.Subscript e (.Slice none (some (.Constant (.int (k : Nat)) kc p1)) none p) pos) env) Q E s := by
  refine Subscript_ (wpAny_mono h (fun v s₁ h₁ => ?_) fun _ _ e => e)
  obtain ⟨D, vs, j, rfl, hD, hz, hq⟩ := h₁
  refine wpAny_Slice ?_
  rw [evalPart_some]
  simp only [evalPart_none]
  refine wpAny_pure (EvI.const.use fun s₂ t g₂ => wpAny_pure ?_)
  have g₃ : Grow s₂ { s₂ with heap := s₂.heap.push { cls := .type "slice", data := .fields #[.none, .int (k : Nat) t, .none] } } := ⟨fun _ _ e => Heap.get?_push_of_some _ e, rfl, rfl⟩
  have g := g₂.trans g₃
  have hL := isL (g.keep _ _ hD)
  refine tail_any hL.typeIs slot_list_getitem.lookup (wpAny_getItem_list_slice hL (Heap.IsSliceOf.new ..) .none (.int _ _) .none (by simp) ?_ (by rw [List.size_toArray, sizeLine_eq]; omega)) rfl
  have e : slicePick vs.toArray none (some (k : Int)) none = (vs.take k).toArray := by rw [slicePick_upto']
  rw [e]
  refine hq _ _ ⟨fun _ _ e => Heap.get?_push_of_some _ (g.keep _ _ e), g.os, g.gens⟩ ?_ (Heap.get?_push_size _ rfl)
  cases q : s₁.heap.get? (s₂.heap.push { cls := .type "slice", data := .fields #[.none, .int (k : Nat) t, .none] }).objs.size with
  | none => rfl
  | some o => exact absurd (Heap.lt_size (g.keep _ _ q)) (Nat.lt_irrefl _)

/-- a + b of two lists -/
theorem addLists {a b : Addr} {vs us : List Value} {i j : Nat} {Q : Value → Shared → Prop} (ha : s.heap.get? a = some (listOf vs.toArray i)) (hb : s.heap.get? b = some (listOf us.toArray j)) (hz : vs.length + us.length < 1000000)
    (h : ∀ s' D, Grow s s' → s.heap.get? D = none → s'.heap.get? D = some (listOf (vs ++ us).toArray 0) → Q (.ref D) s') : wpAny (model prog w) A (binaryOp .Add (.ref a) (.ref b)) Q E s := by
  refine PySem.P.add_list ha hb (h _ _ ⟨fun _ _ e => Heap.get?_push_of_some _ e, rfl, rfl⟩ (Heap.get?_none_of_le (Nat.le_refl _)) ?_) (by rw [List.size_toArray, List.size_toArray, sizeLine_eq]; omega)
  refine (Heap.get?_push_size s.heap rfl).trans ?_
  have : vs.toArray ++ us.toArray = (vs ++ us).toArray := by simp
  rw [this]
end

/-- the order of a sort: a rank for each item that it meets -/
structure Ord (prog : Program) (w : World) (A : Around) (s : Shared) (κ : SortKind) (key : Keyed → Int) (P : Keyed → Prop) : Prop where
  lt : ∀ {E : Value → Shared → Prop} {Q : Bool → Shared → Prop} {x y : Keyed}, P x → P y → Q (decide (key x < key y)) s → wpAny (model prog w) A (keyLt' κ x.1 y.1) Q E s

def kk (key : Keyed → Int) (xs : Array Keyed) (i : Nat) : Int := match xs[i]? with
  | some p => key p
  | none => 0
def Up (key : Keyed → Int) (xs : Array Keyed) (a b : Nat) : Prop := ∀ i j, a ≤ i → i ≤ j → j < b → kk key xs i ≤ kk key xs j
def Down (key : Keyed → Int) (xs : Array Keyed) (a b : Nat) : Prop := ∀ i j, a ≤ i → i ≤ j → j < b → kk key xs j ≤ kk key xs i
/-- the same items, and outside a..b the same places -/
def Turn (xs ys : Array Keyed) (a b : Nat) : Prop := ys.Perm xs ∧ ∀ k, k < a ∨ b ≤ k → ys[k]? = xs[k]?

theorem kk_congr {key : Keyed → Int} {xs ys : Array Keyed} {i j : Nat} (h : xs[i]? = ys[j]?) : kk key xs i = kk key ys j := by unfold kk; rw [h]
theorem kk_at {key : Keyed → Int} {xs : Array Keyed} {i : Nat} {x : Keyed} (h : xs[i]? = some x) : kk key xs i = key x := by unfold kk; rw [h]

section
variable {key : Keyed → Int} {xs ys zs : Array Keyed} {a b : Nat}
theorem Turn.refl : Turn xs xs a b := ⟨Array.Perm.refl _, fun _ _ => rfl⟩
theorem Turn.trans (h : Turn xs ys a b) (k : Turn ys zs a b) : Turn xs zs a b := ⟨k.1.trans h.1, fun i hi => (k.2 i hi).trans (h.2 i hi)⟩
theorem Turn.size (h : Turn xs ys a b) : ys.size = xs.size := h.1.size_eq
theorem Turn.mono {a' b' : Nat} (h : Turn xs ys a b) (ha : a' ≤ a) (hb : b ≤ b') : Turn xs ys a' b' := ⟨h.1, fun k hk => h.2 k (by omega)⟩
theorem Turn.up {c d : Nat} (h : Turn xs ys a b) (u : Up key xs c d) (hd : d ≤ a) : Up key ys c d := fun i j h1 h2 h3 => by
  rw [kk_congr (h.2 i (by omega)), kk_congr (h.2 j (by omega))]; exact u i j h1 h2 h3
theorem turn_mirror {i j : Nat} (hj : j ≤ xs.size) (ha : a ≤ i) (hb : j ≤ b) : Turn xs (mirror xs i j ((j - i) / 2)) a b :=
  ⟨mirror_perm _ _ _ _, fun k hk => by rw [getElem?_mirror_all hj, if_neg (by omega)]⟩
theorem kk_mirror {i j : Nat} (hj : j ≤ xs.size) (k : Nat) : kk key (mirror xs i j ((j - i) / 2)) k = if i ≤ k ∧ k < j then kk key xs (i + j - 1 - k) else kk key xs k := by
  have e := getElem?_mirror_all (i := i) hj k
  by_cases h1 : i ≤ k ∧ k < j
  · rw [if_pos h1] at e ⊢; exact kk_congr e
  · rw [if_neg h1] at e ⊢; exact kk_congr e
theorem kk_mirror_eq {i j : Nat} (hj : j ≤ xs.size) (he : ∀ k, i ≤ k → k < j → kk key xs k = kk key xs (j - 1)) (k : Nat) : kk key (mirror xs i j ((j - i) / 2)) k = kk key xs k := by
  rw [kk_mirror hj]
  split
  · rw [he _ (by omega) (by omega), he k (by omega) (by omega)]
  · rfl
theorem kk_bubble {src d : Nat} (hs : src < xs.size) (hd : d ≤ src) (k : Nat) :
    kk key (bubble xs src d) k = if k = src - d then kk key xs src else if src - d < k ∧ k ≤ src then kk key xs (k - 1) else kk key xs k := by
  have e := getElem?_bubble hs d hd k
  by_cases h1 : k = src - d
  · rw [if_pos h1] at e ⊢; exact kk_congr e
  · rw [if_neg h1] at e ⊢
    by_cases h2 : src - d < k ∧ k ≤ src
    · rw [if_pos h2] at e ⊢; exact kk_congr e
    · rw [if_neg h2] at e ⊢; exact kk_congr e
theorem turn_bubble {src d : Nat} (hs : src < xs.size) (hd : d ≤ src) (ha : a ≤ src - d) (hb : src < b) : Turn xs (bubble xs src d) a b :=
  ⟨bubble_perm _ _ _, fun k hk => by rw [getElem?_bubble hs d hd, if_neg (by omega), if_neg (by omega)]⟩
end

section
variable {prog : Program} {w : World} {A : Around} {E : Value → Shared → Prop} {s : Shared} {κ : SortKind} {key : Keyed → Int} {P : Keyed → Prop} {st : SortSt}

theorem elem_ {arr : Array Keyed} {i : Nat} {x : Keyed} {Q : Keyed → SortSt → Prop} (hx : arr[i]? = some x) (h : Q x st) : wpS (model prog w) A E s (elem' arr i) Q st := by
  rw [elem'_eq, hx]; exact wpS_pure h
theorem lt_ {x y : Keyed} {Q : Option Bool → SortSt → Prop} (O : Ord prog w A s κ key P) (hk : kindOf st = κ) (px : P x) (py : P y) (h : Q (some (decide (key x < key y))) st) : wpS (model prog w) A E s (lt' x y) Q st := by
  rw [lt'_eq]
  refine wpS_bind (wpS_get ?_)
  rw [hk]
  refine wpS_bind (wpS_lift (wpAny_attempt (O.lt px py ⟨rfl, ?_⟩)))
  exact wpS_pure h
theorem ltAt_ {i j : Nat} {Q : Option Bool → SortSt → Prop} (O : Ord prog w A s κ key P) (hk : kindOf st = κ) (hP : ∀ p ∈ (arrOf st).toList, P p) (hi : i < (arrOf st).size) (hj : j < (arrOf st).size)
    (h : Q (some (decide (kk key (arrOf st) i < kk key (arrOf st) j))) st) : wpS (model prog w) A E s (ltAt' i j) Q st := by
  rw [ltAt'_eq]
  refine wpS_bind (wpS_get ?_)
  have ei := getElem?_pos (arrOf st) i hi
  have ej := getElem?_pos (arrOf st) j hj
  refine wpS_bind (elem_ ei (wpS_bind (elem_ ej (lt_ O hk (hP _ (by simp)) (hP _ (by simp)) ?_))))
  rw [kk_at ei, kk_at ej] at h
  exact h
theorem turnP {xs ys : Array Keyed} {a b : Nat} (h : Turn xs ys a b) (hP : ∀ p ∈ xs.toList, P p) : ∀ p ∈ ys.toList, P p := fun p hp => hP p ((Array.perm_iff_toList_perm.mp h.1).mem_iff.mp hp)
end

section
variable {prog : Program} {w : World} {A : Around} {E : Value → Shared → Prop} {s : Shared} {κ : SortKind} {key : Keyed → Int} {P : Keyed → Prop} {st : SortSt}

/-- a rising run grows from a on -/
theorem asc_ {f : Nat → Option (Option Nat) × Nat → StateT SortSt Sem (ForInStep (Option (Option Nat) × Nat))} {lo a nrem : Nat} {Q : Option (Option Nat) × Nat → SortSt → Prop}
    (O : Ord prog w A s κ key P) (hk : kindOf st = κ) (hP : ∀ p ∈ (arrOf st).toList, P p)
    (hf : ∀ x n R, wpS (model prog w) A E s (ltAt' (lo + n) (lo + n - 1)) (fun o st' => match o with | some true => R (.done (none, n)) st' | some false => R (.yield (none, n + 1)) st' | none => False) st → wpS (model prog w) A E s (f x (none, n)) R st)
    (hn : lo + nrem ≤ (arrOf st).size) (ha : 1 ≤ a) (han : a ≤ nrem) (hs : Up key (arrOf st) lo (lo + a))
    (h : ∀ n, a ≤ n → n ≤ nrem → Up key (arrOf st) lo (lo + n) → (n = nrem ∨ kk key (arrOf st) (lo + n) < kk key (arrOf st) (lo + n - 1)) → Q (none, n) st) :
    wpS (model prog w) A E s (forIn [a:nrem] (none, a) f) Q st := by
  refine wpS_forRange (I := fun x c st' => st' = st ∧ c = (none, x) ∧ Up key (arrOf st) lo (lo + x)) ?step ?fin ⟨rfl, rfl, hs⟩
  case fin =>
    rintro c st' ⟨rfl, rfl, hs'⟩
    rw [show max a nrem = nrem by omega] at hs' ⊢
    exact h nrem han (Nat.le_refl _) hs' (.inl rfl)
  case step =>
    rintro x c st' hax hxn ⟨rfl, rfl, hs'⟩
    refine hf x x _ (ltAt_ O hk hP (by omega) (by omega) ?_)
    by_cases hless : kk key (arrOf st') (lo + x) < kk key (arrOf st') (lo + x - 1)
    · rw [decide_eq_true hless]
      exact h x hax (by omega) hs' (.inr hless)
    · rw [decide_eq_false hless]
      refine ⟨rfl, rfl, fun i j h1 hij hj => ?_⟩
      by_cases hjx : j < lo + x
      · exact hs' i j h1 hij hjx
      · have hj' : j = lo + x := by omega
        subst hj'
        by_cases hi' : i = lo + x
        · rw [hi']; exact Int.le_refl _
        · exact Int.le_trans (hs' i (lo + x - 1) h1 (by omega) (by omega)) (Int.not_lt.mp hless)

/-- a falling run grows from n on; equal neighbours are turned -/
theorem desc_ {f : Nat → Option (Option Nat) × Nat × Nat → StateT SortSt Sem (ForInStep (Option (Option Nat) × Nat × Nat))} {lo n nrem : Nat} {Q : Option (Option Nat) × Nat × Nat → SortSt → Prop}
    (O : Ord prog w A s κ key P) (hk : kindOf st = κ) (hP : ∀ p ∈ (arrOf st).toList, P p)
    (hf : ∀ x n neq R st, wpS (model prog w) A E s (ltAt' (lo + n) (lo + n - 1)) (fun o st' => match o with
      | some true => if neq > 0 then R (.yield (none, n + 1, 0)) (setArr st' (mirror (arrOf st') (lo + n - (neq + 1)) (lo + n) ((lo + n - (lo + n - (neq + 1))) / 2))) else R (.yield (none, n + 1, 0)) st'
      | some false => wpS (model prog w) A E s (ltAt' (lo + n - 1) (lo + n)) (fun o st' => match o with | some true => R (.done (none, n, neq)) st' | some false => R (.yield (none, n + 1, neq + 1)) st' | none => False) st'
      | none => False) st → wpS (model prog w) A E s (f x (none, n, neq)) R st)
    (hn : lo + nrem ≤ (arrOf st).size) (h1 : 1 ≤ n) (hnn : n ≤ nrem) (hs : Down key (arrOf st) lo (lo + n))
    (h : ∀ m neq ys, Turn (arrOf st) ys lo (lo + nrem) → n ≤ m → m ≤ nrem → Down key ys lo (lo + m) → neq + 1 ≤ m → (∀ i, lo + m - (neq + 1) ≤ i → i < lo + m → kk key ys i = kk key ys (lo + m - 1)) → Q (none, m, neq) (setArr st ys)) :
    wpS (model prog w) A E s (forIn [n:nrem] (none, n, 0) f) Q st := by
  refine wpS_forRange (I := fun x c st' => ∃ neq ys, c = (none, x, neq) ∧ st' = setArr st ys ∧ Turn (arrOf st) ys lo (lo + nrem) ∧ Down key ys lo (lo + x) ∧ neq + 1 ≤ x ∧
      (∀ i, lo + x - (neq + 1) ≤ i → i < lo + x → kk key ys i = kk key ys (lo + x - 1))) ?step ?fin ⟨0, arrOf st, rfl, rfl, .refl, hs, by omega, fun i h1 h2 => by congr 1; omega⟩
  case fin =>
    rintro c st' ⟨neq, ys, rfl, rfl, T, hs', hq, he⟩
    rw [show max n nrem = nrem by omega] at hs' hq he ⊢
    exact h nrem neq ys T hnn (Nat.le_refl _) hs' hq he
  case step =>
    rintro x c st' hax hxn ⟨neq, ys, rfl, rfl, T, hs', hq, he⟩
    have hz := T.size
    have hsz : lo + x ≤ ys.size := by omega
    have hP' := turnP T hP
    refine hf x x neq _ _ (ltAt_ (st := setArr st ys) O hk hP' (show lo + x < ys.size by omega) (show lo + x - 1 < ys.size by omega) ?_)
    show match some (decide (kk key ys (lo + x) < kk key ys (lo + x - 1))) with | some true => _ | some false => _ | none => _
    by_cases hless : kk key ys (lo + x) < kk key ys (lo + x - 1)
    · rw [decide_eq_true hless]
      dsimp only
      have step1 : ∀ zs : Array Keyed, (∀ k, kk key zs k = kk key ys k) → Down key zs lo (lo + (x + 1)) := by
        intro zs hk i j h1 hij hj
        rw [hk, hk]
        by_cases hjx : j < lo + x
        · exact hs' i j h1 hij hjx
        · have hj' : j = lo + x := by omega
          subst hj'
          by_cases hi' : i = lo + x
          · rw [hi']; exact Int.le_refl _
          · exact Int.le_trans (Int.le_of_lt hless) (hs' i (lo + x - 1) h1 (by omega) (by omega))
      split
      · exact ⟨0, _, rfl, rfl, T.trans (turn_mirror (by omega) (by omega) (by omega)), step1 _ (kk_mirror_eq hsz he), by omega, fun i h1 h2 => by congr 1; omega⟩
      · exact ⟨0, ys, rfl, rfl, T, step1 _ (fun _ => rfl), by omega, fun i h1 h2 => by congr 1; omega⟩
    · rw [decide_eq_false hless]
      dsimp only
      refine ltAt_ (st := setArr st ys) O hk hP' (show lo + x - 1 < ys.size by omega) (show lo + x < ys.size by omega) ?_
      show match some (decide (kk key ys (lo + x - 1) < kk key ys (lo + x))) with | some true => _ | some false => _ | none => _
      by_cases hl : kk key ys (lo + x - 1) < kk key ys (lo + x)
      · rw [decide_eq_true hl]
        exact h x neq ys T hax (by omega) hs' hq he
      · rw [decide_eq_false hl]
        have heqx : kk key ys (lo + x) = kk key ys (lo + x - 1) := by omega
        refine ⟨neq + 1, ys, rfl, rfl, T, fun i j h1 hij hj => ?_, by omega, fun i h1 h2 => ?_⟩
        · by_cases hjx : j < lo + x
          · exact hs' i j h1 hij hjx
          · have hj' : j = lo + x := by omega
            subst hj'
            by_cases hi' : i = lo + x
            · rw [hi']; exact Int.le_refl _
            · rw [heqx]; exact hs' i (lo + x - 1) h1 (by omega) (by omega)
        · rw [show lo + (x + 1) - 1 = lo + x by omega]
          by_cases hix : i = lo + x
          · rw [hix]
          · rw [heqx]; exact he i (by omega) (by omega)

theorem rev_ {i j : Nat} {Q : Unit → SortSt → Prop} (h : Q () (setArr st (mirror (arrOf st) i j ((j - i) / 2)))) : wpS (model prog w) A E s (reverseSlice' i j) Q st := by
  rw [reverseSlice'_eq]; exact wpS_modify h

theorem rises {ys : Array Keyed} {lo m : Nat} (D : Down key ys lo (lo + m)) (hz : lo + m ≤ ys.size) : Up key (mirror ys lo (lo + m) ((lo + m - lo) / 2)) lo (lo + m) := by
  intro i j h1 h2 h3
  rw [kk_mirror hz, kk_mirror hz, if_pos (by omega), if_pos (by omega)]
  exact D _ _ (by omega) (by omega) (by omega)

theorem countRun_ {lo nrem : Nat} {Q : Option Nat → SortSt → Prop} (O : Ord prog w A s κ key P) (hk : kindOf st = κ) (hP : ∀ p ∈ (arrOf st).toList, P p) (hn : lo + nrem ≤ (arrOf st).size) (h1 : 1 ≤ nrem)
    (h : ∀ m ys, Turn (arrOf st) ys lo (lo + nrem) → 1 ≤ m → m ≤ nrem → Up key ys lo (lo + m) → Q (some m) (setArr st ys)) :
    wpS (model prog w) A E s (countRun' lo nrem) Q st := by
  rw [countRun'_eq]
  refine wpS_bind (asc_ O hk hP (fun x n R h' => ?_) hn (Nat.le_refl 1) h1 (fun i j h1 h2 h3 => by rw [show i = j by omega]; exact Int.le_refl _) fun n hn1 hn2 hsn hor => ?_)
  · dsimp only
    refine wpS_bind (wpS_mono h' fun o st' h'' => ?_)
    match o, h'' with
    | some true, h'' => exact wpS_pure h''
    | some false, h'' => exact wpS_pure h''
    | none, h'' => exact h''.elim
  dsimp only
  by_cases hnn : n = nrem
  · rw [if_pos (by simpa using hnn)]
    exact wpS_pure (h n (arrOf st) .refl hn1 hn2 hsn)
  rw [if_neg (by simpa using hnn)]
  have hlt : kk key (arrOf st) (lo + n) < kk key (arrOf st) (lo + n - 1) := hor.resolve_left hnn
  by_cases hgt : n > 1
  · rw [if_pos hgt]
    refine wpS_bind (ltAt_ O hk hP (by omega) (by omega) ?_)
    by_cases hrose : kk key (arrOf st) lo < kk key (arrOf st) (lo + n - 1)
    · rw [decide_eq_true hrose]
      exact wpS_pure (h n (arrOf st) .refl hn1 hn2 hsn)
    rw [decide_eq_false hrose]
    dsimp only
    rw [if_neg (by decide)]
    have hsz : lo + n ≤ (arrOf st).size := by omega
    have hall : ∀ k, lo ≤ k → k < lo + n → kk key (arrOf st) k = kk key (arrOf st) (lo + n - 1) := by
      intro k hk1 hk
      have a1 := hsn lo k (Nat.le_refl _) hk1 hk
      have a2 := hsn k (lo + n - 1) hk1 (by omega) (by omega)
      omega
    refine wpS_bind (rev_ ?_)
    have T₁ : Turn (arrOf st) (mirror (arrOf st) lo (lo + n) ((lo + n - lo) / 2)) lo (lo + nrem) := turn_mirror hsz (Nat.le_refl _) (by omega)
    have D₁ : Down key (mirror (arrOf st) lo (lo + n) ((lo + n - lo) / 2)) lo (lo + (n + 1)) := by
      intro i j h1 hij hj
      rw [kk_mirror_eq hsz hall, kk_mirror_eq hsz hall]
      by_cases hjn : j < lo + n
      · rw [hall i h1 (by omega), hall j (by omega) hjn]; exact Int.le_refl _
      · have hj' : j = lo + n := by omega
        subst hj'
        by_cases hi' : i = lo + n
        · rw [hi']; exact Int.le_refl _
        · rw [hall i h1 (by omega)]; exact Int.le_of_lt hlt
    generalize mirror (arrOf st) lo (lo + n) ((lo + n - lo) / 2) = ys₁ at *
    refine wpS_bind (wpS_lift (wpAny_rule ⟨rfl, ?_⟩))
    refine wpS_bind (desc_ (st := setArr st ys₁) O hk (turnP T₁ hP) (fun x n neq R st₀ h' => ?_) (by show lo + nrem ≤ ys₁.size; rw [T₁.size]; exact hn) (show 1 ≤ n + 1 by omega) (by omega) D₁ fun m neq ys₂ T₂' hm1 hm2 D₂ hq he => ?_)
    · dsimp only
      refine wpS_bind (wpS_mono h' fun o st' h'' => ?_)
      match o, h'' with
      | some true, h'' =>
        dsimp only at h'' ⊢
        rw [if_pos rfl]
        by_cases hq : neq > 0
        · rw [if_pos hq] at h'' ⊢
          exact wpS_bind (rev_ (wpS_pure h''))
        · rw [if_neg hq] at h'' ⊢
          exact wpS_pure h''
      | some false, h'' =>
        dsimp only at h'' ⊢
        rw [if_neg (by decide)]
        refine wpS_bind (wpS_mono h'' fun o st' h₃ => ?_)
        match o, h₃ with
        | some true, h₃ => exact wpS_pure h₃
        | some false, h₃ => exact wpS_pure h₃
        | none, h₃ => exact h₃.elim
      | none, h'' => exact h''.elim
    dsimp only
    have T₂ : Turn (arrOf st) ys₂ lo (lo + nrem) := T₁.trans T₂'
    have hz₂ : lo + m ≤ ys₂.size := by rw [T₂.size]; omega
    by_cases hneq : neq > 0
    · rw [if_pos hneq]
      refine wpS_bind (rev_ ?_)
      have T₃ : Turn (arrOf st) (mirror ys₂ (lo + m - (neq + 1)) (lo + m) ((lo + m - (lo + m - (neq + 1))) / 2)) lo (lo + nrem) := T₂.trans (turn_mirror (by omega) (by omega) (by omega))
      have D₃ : Down key (mirror ys₂ (lo + m - (neq + 1)) (lo + m) ((lo + m - (lo + m - (neq + 1))) / 2)) lo (lo + m) := fun i j h1 h2 h3 => by
        rw [kk_mirror_eq hz₂ he, kk_mirror_eq hz₂ he]; exact D₂ i j h1 h2 h3
      have hz₃ : lo + m ≤ (mirror ys₂ (lo + m - (neq + 1)) (lo + m) ((lo + m - (lo + m - (neq + 1))) / 2)).size := by rw [mirror_size]; exact hz₂
      show wpS _ _ _ _ _ _ (setArr st (mirror ys₂ (lo + m - (neq + 1)) (lo + m) ((lo + m - (lo + m - (neq + 1))) / 2)))
      generalize mirror ys₂ (lo + m - (neq + 1)) (lo + m) ((lo + m - (lo + m - (neq + 1))) / 2) = ys₃ at *
      refine wpS_bind (rev_ ?_)
      refine wpS_bind (asc_ (st := setArr st (mirror ys₃ lo (lo + m) ((lo + m - lo) / 2))) O hk (turnP (T₃.trans (turn_mirror (by omega) (Nat.le_refl _) (by omega))) hP) (fun x n R h' => ?_) (by show lo + nrem ≤ (mirror ys₃ lo (lo + m) ((lo + m - lo) / 2)).size; rw [mirror_size, T₃.size]; exact hn) (show 1 ≤ m by omega) hm2 (rises D₃ hz₃) fun n' hn1 hn2 hsn _ => ?_)
      · dsimp only
        refine wpS_bind (wpS_mono h' fun o st' h'' => ?_)
        match o, h'' with
        | some true, h'' => exact wpS_pure h''
        | some false, h'' => exact wpS_pure h''
        | none, h'' => exact h''.elim
      exact wpS_pure (h n' _ (T₃.trans (turn_mirror (by omega) (Nat.le_refl _) (by omega))) (by omega) hn2 hsn)
    · rw [if_neg hneq]
      refine wpS_bind (rev_ ?_)
      refine wpS_bind (asc_ (st := setArr st (mirror ys₂ lo (lo + m) ((lo + m - lo) / 2))) O hk (turnP (T₂.trans (turn_mirror (by omega) (Nat.le_refl _) (by omega))) hP) (fun x n R h' => ?_) (by show lo + nrem ≤ (mirror ys₂ lo (lo + m) ((lo + m - lo) / 2)).size; rw [mirror_size, T₂.size]; exact hn) (show 1 ≤ m by omega) hm2 (rises D₂ hz₂) fun n' hn1 hn2 hsn _ => ?_)
      · dsimp only
        refine wpS_bind (wpS_mono h' fun o st' h'' => ?_)
        match o, h'' with
        | some true, h'' => exact wpS_pure h''
        | some false, h'' => exact wpS_pure h''
        | none, h'' => exact h''.elim
      exact wpS_pure (h n' _ (T₂.trans (turn_mirror (by omega) (Nat.le_refl _) (by omega))) (by omega) hn2 hsn)
  · rw [if_neg hgt]
    have hn1' : n = 1 := by omega
    have T₁ : Turn (arrOf st) (arrOf st) lo (lo + nrem) := .refl
    have D₁ : Down key (arrOf st) lo (lo + (n + 1)) := by
      intro i j h1 hij hj
      by_cases hi' : i = j
      · rw [hi']; exact Int.le_refl _
      · have hi0 : i = lo := by omega
        have hj1 : j = lo + n := by omega
        subst hi0; subst hj1
        rw [hn1'] at hlt ⊢
        exact Int.le_of_lt hlt
    have hex : ∃ ys₁, ys₁ = arrOf st ∧ Turn (arrOf st) ys₁ lo (lo + nrem) ∧ Down key ys₁ lo (lo + (n + 1)) := ⟨_, rfl, T₁, D₁⟩
    clear T₁ D₁
    obtain ⟨ys₁, hys, T₁, D₁⟩ := hex
    show wpS _ _ _ _ _ _ (setArr st (arrOf st))
    rw [← hys]
    refine wpS_bind (wpS_lift (wpAny_rule ⟨rfl, ?_⟩))
    refine wpS_bind (desc_ (st := setArr st ys₁) O hk (turnP T₁ hP) (fun x n neq R st₀ h' => ?_) (by show lo + nrem ≤ ys₁.size; rw [T₁.size]; exact hn) (show 1 ≤ n + 1 by omega) (by omega) D₁ fun m neq ys₂ T₂' hm1 hm2 D₂ hq he => ?_)
    · dsimp only
      refine wpS_bind (wpS_mono h' fun o st' h'' => ?_)
      match o, h'' with
      | some true, h'' =>
        dsimp only at h'' ⊢
        rw [if_pos rfl]
        by_cases hq : neq > 0
        · rw [if_pos hq] at h'' ⊢
          exact wpS_bind (rev_ (wpS_pure h''))
        · rw [if_neg hq] at h'' ⊢
          exact wpS_pure h''
      | some false, h'' =>
        dsimp only at h'' ⊢
        rw [if_neg (by decide)]
        refine wpS_bind (wpS_mono h'' fun o st' h₃ => ?_)
        match o, h₃ with
        | some true, h₃ => exact wpS_pure h₃
        | some false, h₃ => exact wpS_pure h₃
        | none, h₃ => exact h₃.elim
      | none, h'' => exact h''.elim
    dsimp only
    have T₂ : Turn (arrOf st) ys₂ lo (lo + nrem) := T₁.trans T₂'
    have hz₂ : lo + m ≤ ys₂.size := by rw [T₂.size]; omega
    by_cases hneq : neq > 0
    · rw [if_pos hneq]
      refine wpS_bind (rev_ ?_)
      have T₃ : Turn (arrOf st) (mirror ys₂ (lo + m - (neq + 1)) (lo + m) ((lo + m - (lo + m - (neq + 1))) / 2)) lo (lo + nrem) := T₂.trans (turn_mirror (by omega) (by omega) (by omega))
      have D₃ : Down key (mirror ys₂ (lo + m - (neq + 1)) (lo + m) ((lo + m - (lo + m - (neq + 1))) / 2)) lo (lo + m) := fun i j h1 h2 h3 => by
        rw [kk_mirror_eq hz₂ he, kk_mirror_eq hz₂ he]; exact D₂ i j h1 h2 h3
      have hz₃ : lo + m ≤ (mirror ys₂ (lo + m - (neq + 1)) (lo + m) ((lo + m - (lo + m - (neq + 1))) / 2)).size := by rw [mirror_size]; exact hz₂
      show wpS _ _ _ _ _ _ (setArr st (mirror ys₂ (lo + m - (neq + 1)) (lo + m) ((lo + m - (lo + m - (neq + 1))) / 2)))
      generalize mirror ys₂ (lo + m - (neq + 1)) (lo + m) ((lo + m - (lo + m - (neq + 1))) / 2) = ys₃ at *
      refine wpS_bind (rev_ ?_)
      refine wpS_bind (asc_ (st := setArr st (mirror ys₃ lo (lo + m) ((lo + m - lo) / 2))) O hk (turnP (T₃.trans (turn_mirror (by omega) (Nat.le_refl _) (by omega))) hP) (fun x n R h' => ?_) (by show lo + nrem ≤ (mirror ys₃ lo (lo + m) ((lo + m - lo) / 2)).size; rw [mirror_size, T₃.size]; exact hn) (show 1 ≤ m by omega) hm2 (rises D₃ hz₃) fun n' hn1 hn2 hsn _ => ?_)
      · dsimp only
        refine wpS_bind (wpS_mono h' fun o st' h'' => ?_)
        match o, h'' with
        | some true, h'' => exact wpS_pure h''
        | some false, h'' => exact wpS_pure h''
        | none, h'' => exact h''.elim
      exact wpS_pure (h n' _ (T₃.trans (turn_mirror (by omega) (Nat.le_refl _) (by omega))) (by omega) hn2 hsn)
    · rw [if_neg hneq]
      refine wpS_bind (rev_ ?_)
      refine wpS_bind (asc_ (st := setArr st (mirror ys₂ lo (lo + m) ((lo + m - lo) / 2))) O hk (turnP (T₂.trans (turn_mirror (by omega) (Nat.le_refl _) (by omega))) hP) (fun x n R h' => ?_) (by show lo + nrem ≤ (mirror ys₂ lo (lo + m) ((lo + m - lo) / 2)).size; rw [mirror_size, T₂.size]; exact hn) (show 1 ≤ m by omega) hm2 (rises D₂ hz₂) fun n' hn1 hn2 hsn _ => ?_)
      · dsimp only
        refine wpS_bind (wpS_mono h' fun o st' h'' => ?_)
        match o, h'' with
        | some true, h'' => exact wpS_pure h''
        | some false, h'' => exact wpS_pure h''
        | none, h'' => exact h''.elim
      exact wpS_pure (h n' _ (T₂.trans (turn_mirror (by omega) (Nat.le_refl _) (by omega))) (by omega) hn2 hsn)
end

section
variable {prog : Program} {w : World} {A : Around} {E : Value → Shared → Prop} {s : Shared} {κ : SortKind} {key : Keyed → Int} {P : Keyed → Prop} {st : SortSt}

theorem binarySort_ {lo n ok : Nat} {Q : Bool → SortSt → Prop} (O : Ord prog w A s κ key P) (hk : kindOf st = κ) (hP : ∀ p ∈ (arrOf st).toList, P p) (hn : lo + n ≤ (arrOf st).size) (hok : ok ≤ n) (hs : Up key (arrOf st) lo (lo + ok))
    (h : ∀ ys, Turn (arrOf st) ys lo (lo + n) → Up key ys lo (lo + n) → Q true (setArr st ys)) : wpS (model prog w) A E s (binarySort' lo n ok) Q st := by
  rw [binarySort'_eq]
  refine wpS_bind (wpS_mono (wpS_forRange (I := fun k c st' => c = (none, ()) ∧ ∃ ys, st' = setArr st ys ∧ Turn (arrOf st) ys lo (lo + n) ∧ Up key ys lo (lo + min k n))
    (Q := fun c st' => c = (none, ()) ∧ ∃ ys, st' = setArr st ys ∧ Turn (arrOf st) ys lo (lo + n) ∧ Up key ys lo (lo + n)) ?step ?fin ?init) ?post)
  case post =>
    rintro c st' ⟨rfl, ys, rfl, T, hs'⟩
    exact wpS_pure (h ys T hs')
  case init =>
    refine ⟨rfl, arrOf st, rfl, .refl, fun i j h1 hij hj => ?_⟩
    by_cases h0 : ok = 0
    · rw [show i = j by omega]; exact Int.le_refl _
    · exact hs i j h1 hij (by omega)
  case fin =>
    rintro c st' ⟨hc, ys, rfl, T, hs'⟩
    refine ⟨hc, ys, rfl, T, ?_⟩
    rwa [show min (max (max ok 1) n) n = n by omega] at hs'
  case step =>
    rintro k c st' hak hkn ⟨rfl, ys, rfl, T, hs'⟩
    rw [show min k n = k by omega] at hs'
    have hz := T.size
    have hP' := turnP T hP
    refine wpS_bind (wpS_mono (wpS_forRange (I := fun x c st'' => st'' = setArr st ys ∧ ∃ l r, c = (none, l, r) ∧ l ≤ r ∧ r ≤ k ∧ r - l ≤ k - x ∧
        (∀ i, i < l → kk key ys (lo + i) ≤ kk key ys (lo + k)) ∧ (∀ i, r ≤ i → i < k → kk key ys (lo + k) < kk key ys (lo + i)))
      (Q := fun c st'' => st'' = setArr st ys ∧ ∃ l r, c = (none, l, r) ∧ l ≤ k ∧
        (∀ i, i < l → kk key ys (lo + i) ≤ kk key ys (lo + k)) ∧ (∀ i, l ≤ i → i < k → kk key ys (lo + k) < kk key ys (lo + i))) ?istep ?ifin ?iinit) ?ipost)
    case iinit => exact ⟨rfl, 0, k, rfl, by omega, by omega, by omega, fun i hi => by omega, fun i h1 h2 => by omega⟩
    case ifin =>
      rintro c st'' ⟨rfl, l, r, rfl, hlr, hrk, hm, hlo, hhi⟩
      have : l = r := by omega
      subst this
      exact ⟨rfl, l, l, rfl, hrk, hlo, hhi⟩
    case istep =>
      rintro x c st'' _ hxk ⟨rfl, l, r, rfl, hlr, hrk, hm, hlo, hhi⟩
      dsimp only
      by_cases hge : l ≥ r
      · rw [if_pos hge]
        have : l = r := by omega
        subst this
        exact wpS_pure ⟨rfl, l, l, rfl, hrk, hlo, hhi⟩
      · rw [if_neg hge]
        refine wpS_bind (ltAt_ (st := setArr st ys) O hk hP' (show lo + k < ys.size by omega) (show lo + (l + r) / 2 < ys.size by omega) ?_)
        by_cases hless : kk key ys (lo + k) < kk key ys (lo + (l + r) / 2)
        · simp only [hless, decide_true, if_true]
          refine wpS_pure ⟨rfl, l, (l + r) / 2, rfl, by omega, by omega, by omega, hlo, fun i h1 h2 => ?_⟩
          exact Int.lt_of_lt_of_le hless (hs' _ _ (by omega) (by omega) (by omega))
        · simp only [hless, decide_false, Bool.false_eq_true, if_false]
          refine wpS_pure ⟨rfl, (l + r) / 2 + 1, r, rfl, by omega, by omega, by omega, fun i h1 => ?_, hhi⟩
          exact Int.le_trans (hs' (lo + i) (lo + (l + r) / 2) (by omega) (by omega) (by omega)) (Int.not_lt.mp hless)
    case ipost =>
      rintro c st'' ⟨rfl, l, r, rfl, hlk, hlo, hhi⟩
      dsimp only
      rw [moveDown'_eq]
      have hks : lo + k < ys.size := by omega
      refine wpS_bind (wpS_modify (wpS_pure ⟨rfl, bubble ys (lo + k) (lo + k - (lo + l)), rfl, T.trans (turn_bubble hks (by omega) (by omega) (by omega)), ?_⟩))
      rw [show min (k + 1) n = k + 1 by omega]
      intro i j h1 hij hj
      rw [kk_bubble hks (by omega), kk_bubble hks (by omega), show lo + k - (lo + k - (lo + l)) = lo + l by omega]
      have lo' : ∀ i, lo ≤ i → i < lo + l → kk key ys i ≤ kk key ys (lo + k) := fun i h1 h2 => by have := hlo (i - lo) (by omega); rwa [show lo + (i - lo) = i by omega] at this
      have hi' : ∀ i, lo + l ≤ i → i < lo + k → kk key ys (lo + k) < kk key ys i := fun i h1 h2 => by have := hhi (i - lo) (by omega) (by omega); rwa [show lo + (i - lo) = i by omega] at this
      repeat' split
      all_goals first
        | (exfalso; omega)
        | exact Int.le_refl _
        | exact lo' _ (by omega) (by omega)
        | exact Int.le_of_lt (hi' _ (by omega) (by omega))
        | exact hs' _ _ (by omega) (by omega) (by omega)

end

section
variable {prog : Program} {w : World} {A : Around} {E : Value → Shared → Prop} {s : Shared} {κ : SortKind} {key : Keyed → Int} {P : Keyed → Prop} {st : SortSt}

/-- the sort of fewer than 64 items -/
theorem sortRuns_ {Q : Unit → SortSt → Prop} {a₀ : Array Keyed} (O : Ord prog w A s κ key P) (hk : kindOf st = κ) (hf : failedOf st = none) (hP : ∀ p ∈ a₀.toList, P p) (ha : arrOf st = a₀) (hpe : pendingOf st = #[]) (h0 : 0 < a₀.size) (h64 : a₀.size < 64)
    (h : ∀ st' : SortSt, (arrOf st').Perm a₀ → failedOf st' = none → Up key (arrOf st') 0 a₀.size → Q () st') : wpS (model prog w) A E s sortRuns' Q st := by
  rw [sortRuns'_eq]
  refine wpS_bind (wpS_get ?_)
  have hsz : (arrOf st).size = a₀.size := by rw [ha]
  have hmr : minRun' a₀.size a₀.size 0 = a₀.size := by
    obtain ⟨f, hf⟩ : ∃ f, a₀.size = f + 1 := ⟨a₀.size - 1, by omega⟩
    have : minRun' (f + 1) a₀.size 0 = a₀.size := by rw [minRun'_succ, if_pos h64]; rfl
    rwa [← hf] at this
  simp only [hsz, hmr]
  refine wpS_bind (wpS_mono (wpS_forRange
    (I := fun x c (st' : SortSt) => kindOf st' = κ ∧ failedOf st' = none ∧ (arrOf st').Perm a₀ ∧ ((x = 0 ∧ c = (none, 0) ∧ pendingOf st' = #[]) ∨ (1 ≤ x ∧ c = (none, a₀.size) ∧ pendingOf st' = #[(0, a₀.size, 0)] ∧ Up key (arrOf st') 0 a₀.size)))
    (Q := fun c (st' : SortSt) => c = (none, a₀.size) ∧ failedOf st' = none ∧ (arrOf st').Perm a₀ ∧ pendingOf st' = #[(0, a₀.size, 0)] ∧ Up key (arrOf st') 0 a₀.size) ?step ?fin ⟨hk, hf, by rw [ha], .inl ⟨rfl, rfl, hpe⟩⟩) ?post)
  case fin =>
    rintro c st' ⟨_, h1, h2, ⟨hx, _, _⟩ | ⟨_, hc, hD, hU⟩⟩
    · omega
    · exact ⟨hc, h1, h2, hD, hU⟩
  case step =>
    rintro x c st₁ _ hx ⟨hk₁, hf₁, pm₁, ⟨rfl, rfl, hp₁⟩ | ⟨hx1, rfl, hD, hU⟩⟩
    · dsimp only
      rw [if_neg (by omega)]
      simp only [Nat.sub_zero, Nat.min_self, Nat.zero_add]
      have sz₁ := pm₁.size_eq
      have hP₁ : ∀ p ∈ (arrOf st₁).toList, P p := fun p hp => hP p ((Array.perm_iff_toList_perm.mp pm₁).mem_iff.mp hp)
      refine wpS_bind (countRun_ O hk₁ hP₁ (by omega) (by omega) fun m ys T hm1 hm2 U => ?_)
      dsimp only
      have hP₂ := turnP T hP₁
      have sz₂ := T.size
      rw [Nat.zero_add] at U
      have hb : (pendingOf st₁).back? = none := by rw [hp₁]; rfl
      by_cases hlt : m < a₀.size
      · rw [if_pos hlt]
        refine wpS_bind (wpS_lift (wpAny_rule ⟨rfl, ?_⟩))
        refine wpS_bind (binarySort_ (st := setArr st₁ ys) O hk₁ hP₂ (show 0 + a₀.size ≤ ys.size by omega) hm2 (by rw [Nat.zero_add]; exact U) fun zs T' U₂ => ?_)
        simp only [Bool.not_true, Bool.false_eq_true, if_false]
        refine wpS_bind (wpS_get ?_)
        have hb' : (pendingOf (setArr (setArr st₁ ys) zs)).back? = none := hb
        rw [hb']
        dsimp only
        refine wpS_bind (wpS_modify (wpS_pure ⟨hk₁, hf₁, (Array.Perm.trans T'.1 T.1).trans pm₁, .inr ⟨by omega, rfl, ?_, ?_⟩⟩))
        · show (pendingOf st₁).push _ = _; rw [hp₁]; rfl
        · rw [Nat.zero_add] at U₂; exact U₂
      · rw [if_neg hlt]
        have hm : m = a₀.size := by omega
        subst hm
        refine wpS_bind (wpS_get ?_)
        have hb' : (pendingOf (setArr st₁ ys)).back? = none := hb
        rw [hb']
        dsimp only
        refine wpS_bind (wpS_modify (wpS_pure ⟨hk₁, hf₁, T.1.trans pm₁, .inr ⟨by omega, rfl, ?_, U⟩⟩))
        show (pendingOf st₁).push _ = _; rw [hp₁]; rfl
    · dsimp only
      rw [if_pos (Nat.le_refl _)]
      exact wpS_pure ⟨rfl, hf₁, pm₁, hD, hU⟩
  case post =>
    rintro c st₁ ⟨rfl, hf₁, pm₁, hD, hU⟩
    dsimp only
    refine wpS_bind (wpS_mono (wpS_forRange (I := fun _ c (st' : SortSt) => c = (none, ()) ∧ st' = st₁) (Q := fun c (st' : SortSt) => c = (none, ()) ∧ st' = st₁) ?estep (fun _ _ hh => hh) ⟨rfl, rfl⟩) ?epost)
    case estep =>
      rintro x c st₃ _ hx ⟨rfl, rfl⟩
      refine wpS_bind (wpS_get ?_)
      rw [if_pos (by rw [hD]; simp)]
      exact wpS_pure ⟨rfl, rfl⟩
    case epost =>
      rintro c st₃ ⟨rfl, rfl⟩
      dsimp only
      exact wpS_pure (h _ pm₁ hf₁ hU)

theorem ris_up {xs : Array Keyed} (h : Up key xs 0 xs.size) : xs.toList.Pairwise fun a b => key a ≤ key b := by
  refine List.pairwise_iff_getElem.mpr fun i j hi hj hij => ?_
  have hi' : i < xs.size := by simpa using hi
  have hj' : j < xs.size := by simpa using hj
  have := h i j (by omega) (by omega) hj'
  rw [kk_at (getElem?_pos xs i hi'), kk_at (getElem?_pos xs j hj')] at this
  simpa using this
end

section
variable {prog : Program} {w : World} {A : Around} {E : Value → Shared → Prop} {s : Shared} {κ : SortKind} {key : Keyed → Int} {P : Keyed → Prop}

theorem sortOut {vs : List Value} {xs : Array Keyed} (hp : xs.Perm (pairsOf vs)) (u : Up key xs 0 (pairsOf vs).size) :
    (xs.map (·.2)).toList.Perm vs ∧ (xs.map (·.2)).toList.Pairwise fun x y => key (x, x) ≤ key (y, y) := by
  have hl : xs.toList.Perm (vs.zip vs) := by rw [← pairsOf_toList]; exact Array.perm_iff_toList_perm.mp hp
  have hmem : ∀ p, p ∈ xs.toList → p.1 = p.2 ∧ p.1 ∈ vs := fun p hp' => mem_zip_self (hl.mem_iff.mp hp')
  refine ⟨?_, ?_⟩
  · rw [Array.toList_map]
    have := hl.map (·.2)
    rwa [List.map_snd_zip (Nat.le_refl _)] at this
  · have r := ris_up (key := key) (xs := xs) (by rw [hp.size_eq]; exact u)
    rw [Array.toList_map, List.pairwise_map]
    refine List.Pairwise.imp_of_mem (fun {a b} ha hb e => ?_) r
    have ea : (a.2, a.2) = a := Prod.ext (hmem a ha).1.symm rfl
    have eb : (b.2, b.2) = b := Prod.ext (hmem b hb).1.symm rfl
    rw [ea, eb]; exact e

theorem listSort {a : Addr} {vs : List Value} {n : Nat} {Pp : PySem.Fin → Shared → Prop} (ho : s.heap.get? a = some (listOf vs.toArray n)) (hz : vs.length < 64)
    (hkind : 2 ≤ vs.length → ∀ s', ExL a s s' → wpAny (model prog w) A (keyKind' vs.toArray) (fun κ' s'' => κ' = κ ∧ s'' = s') No s')
    (hord : ∀ s', ExL a s s' → Ord prog w A s' κ key P) (hP : ∀ v ∈ vs, P (v, v))
    (h : ∀ s' (out : List Value) m, ExL a s s' → s'.heap.get? a = some (listOf out.toArray m) → out.Perm vs → (out.Pairwise fun x y => key (x, x) ≤ key (y, y)) → Pp (.done (.ret .none)) s') :
    wpAny (model prog w) A (Builtin.«list.sort» ⟨[.ref a], []⟩) Pp E s := by
  rw [list_sort_plain]
  have ha : a < s.heap.objs.size := Heap.lt_size ho
  refine wpAny_bind (listItems_at ho rfl ?_)
  refine wpAny_bind (listUpdate_at ho rfl ?_ (by rw [List.size_toArray, sizeLine_eq]; omega) (Nat.zero_le _))
  obtain ⟨e1, ho1⟩ : ∃ e1, (s.heap.update a (Obj.mapSeq fun _ => #[])).get? a = some (seqObj "list" #[] e1) := ⟨_, get?_update_seq ho (fun _ => #[])⟩
  refine wpAny_bind (seqEpoch_at ho1 rfl ?_)
  refine wpAny_bind (wpAny_newTuple ?_ (by show vs.length ≤ _; rw [sizeLine_eq]; omega))
  refine wpAny_bind (wpAny_newList ?_ (Nat.zero_le _))
  refine wpAny_holding ?_
  show wpAny (model prog w) A _ Pp E { s with heap := ((s.heap.update a (Obj.mapSeq fun _ => #[])).push (seqObj "tuple" vs.toArray 0)).push (seqObj "list" #[] 0) }
  have ho6 : (((s.heap.update a (Obj.mapSeq fun _ => #[])).push (seqObj "tuple" vs.toArray 0)).push (seqObj "list" #[] 0)).get? a = some (seqObj "list" #[] e1) := Heap.get?_push_of_some _ (Heap.get?_push_of_some _ ho1)
  have x6 : ExL a s { s with heap := ((s.heap.update a (Obj.mapSeq fun _ => #[])).push (seqObj "tuple" vs.toArray 0)).push (seqObj "list" #[] 0) } :=
    ⟨fun b o nb e => Heap.get?_push_of_some _ (Heap.get?_push_of_some _ ((Heap.get?_update_other _ _ (Ne.symm nb)).trans e)), rfl, rfl⟩
  generalize ((s.heap.update a (Obj.mapSeq fun _ => #[])).push (seqObj "tuple" vs.toArray 0)).push (seqObj "list" #[] 0) = h6 at *
  dsimp only
  have fin : ∀ st' : SortSt, (arrOf st').Perm (pairsOf vs) → Up key (arrOf st') 0 (pairsOf vs).size → Pp (.done (.ret .none)) { s with heap := h6.update a (Obj.mapSeq fun _ => (arrOf st').map (·.2)) } := by
    intro st' hp u
    obtain ⟨p1, p2⟩ := sortOut hp u
    obtain ⟨e2, he2⟩ : ∃ e2, (h6.update a (Obj.mapSeq fun _ => (arrOf st').map (·.2))).get? a = some (seqObj "list" ((arrOf st').map (·.2)) e2) := ⟨_, get?_update_seq ho6 _⟩
    refine h _ ((arrOf st').map (·.2)).toList e2 (x6.trans ⟨fun b o nb e => (Heap.get?_update_other _ _ (Ne.symm nb)).trans e, rfl, rfl⟩) ?_ p1 p2
    rw [Array.toArray_toList]; exact he2
  by_cases h2 : vs.toArray.size < 2
  · rw [if_pos h2, if_pos h2]
    refine wpAny_bind (wpAny_pure ?_)
    rw [StateT.run_pure]
    refine wpAny_bind (wpAny_pure ?_)
    dsimp only
    refine wpAny_bind (seqEpoch_at ho6 rfl ?_)
    refine wpAny_bind (listUpdate_at ho6 rfl ?_ (Nat.zero_le _) (by show (((vs.toArray.zip vs.toArray)).map (·.2)).size ≤ _; rw [Array.size_map]; show (pairsOf vs).size ≤ _; rw [pairsOf_size, sizeLine_eq]; omega))
    simp only [bne_self_eq_false, Bool.false_eq_true, if_false]
    refine wpAny_pure (fin (SortSt.mk' general' (vs.toArray.zip vs.toArray) #[] 7 none) (Array.Perm.refl _) ?_)
    intro i j _ hij hj
    rw [pairsOf_size] at hj
    rw [List.size_toArray] at h2
    have : i = j := by omega
    subst this; exact Int.le_refl _
  · rw [if_neg h2, if_neg h2]
    rw [List.size_toArray] at h2
    refine wpAny_bind (wpAny_mono (hkind (by omega) _ x6) (fun κ' s'' hk => ?_) fun _ _ q => q.elim)
    obtain ⟨rfl, rfl⟩ := hk
    refine wpAny_bind (wpAny_mono (sortRuns_ (Q := fun _ st' => (arrOf st').Perm (pairsOf vs) ∧ failedOf st' = none ∧ Up key (arrOf st') 0 (pairsOf vs).size) (a₀ := pairsOf vs) (st := SortSt.mk' κ' (vs.toArray.zip vs.toArray) #[] 7 none) (hord _ x6) rfl rfl (fun p hp => ?_) rfl rfl (by rw [pairsOf_size]; omega) (by rw [pairsOf_size]; omega) fun st' a1 a2 a3 => ⟨a1, a2, a3⟩) ?_ fun _ _ e => e)
    · rw [pairsOf_toList] at hp
      have := mem_zip_self hp
      have e : p = (p.1, p.1) := Prod.ext rfl this.1.symm
      rw [e]; exact hP _ this.2
    · rintro ⟨⟨⟩, st'⟩ s' ⟨rfl, hp, hf, hs⟩
      dsimp only
      refine wpAny_bind (seqEpoch_at ho6 rfl ?_)
      refine wpAny_bind (listUpdate_at ho6 rfl ?_ (Nat.zero_le _) (by refine Nat.le_trans (Nat.le_of_eq ((Array.size_map ..).trans (hp.size_eq.trans (pairsOf_size _)))) ?_; rw [sizeLine_eq]; omega))
      rw [hf]
      simp only [bne_self_eq_false, Bool.false_eq_true, if_false]
      exact wpAny_pure (fin st' hp hs)

/-- sorted(v) -/
theorem sortedCall {v : Value} {Q : Value → Shared → Prop}
    (hcol : wpAny (model prog w) A.in1 (collect v) (fun xs s₁ => Grow s s₁ ∧ xs.length < 64 ∧ (2 ≤ xs.length → ∀ (A' : Around) s', A'.units ≤ A.units + 10 → Grow s₁ s' → wpAny (model prog w) A' (keyKind' xs.toArray) (fun κ' s'' => κ' = κ ∧ s'' = s') No s') ∧
      (∀ (A' : Around) s', A'.units ≤ A.units + 10 → Grow s₁ s' → Ord prog w A' s' κ key P) ∧ (∀ x ∈ xs, P (x, x)) ∧
      ∀ s' D (out : List Value) m, Grow s₁ s' → s₁.heap.get? D = none → s'.heap.get? D = some (listOf out.toArray m) → out.Perm xs → (out.Pairwise fun x y => key (x, x) ≤ key (y, y)) → Q (.ref D) s') E s) :
    wpAny (model prog w) A (call (.builtin "sorted") [v]) Q E s := by
  refine Calls.call_function_entry kind_sorted plain_sorted entry_sorted (args_sorted1 _) ?_
  unfold Builtin.«sorted»
  refine wpAny_bind (m := checkCount "sorted" 1 1 _) (wpAny_pure ?_)
  refine wpAny_bind (wpAny_mono hcol (fun xs s₁ ⟨g₁, hz, hk, ho, hP, hQ⟩ => ?_) fun _ _ q => q)
  refine wpAny_bind (newList_ (fun s₂ D g₂ hD nD => ?_) (by omega))
  have gx : ∀ {s'}, ExL D s₂ s' → Grow s₁ s' := fun {s'} x => ⟨fun b o e => x.keep b o (fun q => by rw [q, nD] at e; cases e) (g₂.keep b o e), x.os.trans g₂.os, x.gens.trans g₂.gens⟩
  refine wpAny_bind (wpAny_holding (wpAny_call_entry slot_list_sort ⟨_, hD, rfl⟩ entry_list_sort (listSort hD hz (fun h2 s' x => hk h2 _ s' ?_ (gx x)) (fun s' x => ho _ s' ?_ (gx x)) hP fun s' out m x hD' p1 p2 => ⟨_, rfl, ?_⟩) (args_list_sort _)))
  · show A.units + 1 + 1 ≤ A.units + 10; omega
  · show A.units + 1 + 1 ≤ A.units + 10; omega
  · exact wpAny_pure ⟨_, rfl, hQ s' D out m (gx x) nD hD' p1 p2⟩

/-- a list's items -/
theorem collectList {l : Addr} {vs : List Value} {n : Nat} {Q : List Value → Shared → Prop} (hl : s.heap.get? l = some (listOf vs.toArray n)) (hz : vs.length < 1000000) (h : ∀ s', Grow s s' → Q vs s') : wpAny (model prog w) A (collect (.ref l)) Q E s := by
  refine collect_list (isL hl) (h _ ⟨fun b o e => ?_, rfl, rfl⟩) (by rw [sizeLine_eq]; omega)
  rw [Heap.get?_update_other _ _ (Ne.symm (Nat.ne_of_lt (Heap.lt_size e)))]
  exact Heap.get?_push_of_some _ e

/-- ints by rank -/
theorem ordInt : Ord prog w A s oneType' (fun p => numOf p.1) (fun p => ∃ n t, p.1 = .int n t) where
  lt := by
    rintro E Q ⟨x, x'⟩ ⟨y, y'⟩ ⟨n, t, rfl⟩ ⟨m, u, rfl⟩ h
    rw [keyLt'_oneType]
    exact oneLt_int h

theorem kindInts {vs : List Value} {ns : List Int} (ha : All2 RepI vs ns) (h2 : 2 ≤ vs.length) : keyKind' vs.toArray = pure oneType' := by
  have hI : IntsAre vs ns := by
    clear h2
    induction ha with
    | nil => exact .nil
    | cons r _ ih => obtain ⟨t, rfl⟩ := r; exact .cons _ t ih
  match vs, h2, hI with
  | v₁ :: v₂ :: rest, _, hI => exact keyKind_ints hI

theorem all2_map {vs : List Value} (h : ∀ v ∈ vs, ∃ n t, v = .int n t) : All2 RepI vs (vs.map numOf) := by
  induction vs with
  | nil => exact .nil
  | cons v vs ih =>
    obtain ⟨n, t, rfl⟩ := h v (.head _)
    exact .cons ⟨t, rfl⟩ (ih fun u hu => h u (.tail _ hu))
theorem all2_nums {vs : List Value} {ns : List Int} (ha : All2 RepI vs ns) : vs.map numOf = ns := by
  induction ha with
  | nil => rfl
  | cons r _ ih => obtain ⟨t, rfl⟩ := r; rw [List.map_cons, ih]; rfl
theorem all2_int {vs : List Value} {ns : List Int} (ha : All2 RepI vs ns) : ∀ v ∈ vs, ∃ n t, v = .int n t := by
  induction ha with
  | nil => intro v hv; cases hv
  | cons r _ ih =>
    intro v hv
    rcases List.mem_cons.mp hv with rfl | hv
    · obtain ⟨t, rfl⟩ := r; exact ⟨_, t, rfl⟩
    · exact ih v hv

/-- sorted(l) of a list of ints -/
theorem sortedInts {l : Addr} {vs : List Value} {ns : List Int} {n : Nat} {Q : Value → Shared → Prop} (hl : s.heap.get? l = some (listOf vs.toArray n)) (ha : All2 RepI vs ns) (hz : vs.length < 64)
    (h : ∀ s' D (out : List Value) (ns' : List Int) m, Grow s s' → s.heap.get? D = none → s'.heap.get? D = some (listOf out.toArray m) → All2 RepI out ns' → ns'.Perm ns → ns'.Pairwise (· ≤ ·) → Q (.ref D) s') :
    wpAny (model prog w) A (call (.builtin "sorted") [.ref l]) Q E s := by
  refine sortedCall (κ := oneType') (key := fun p => numOf p.1) (P := fun p => ∃ n t, p.1 = .int n t) (collectList hl (by omega) fun s₁ g₁ => ⟨g₁, hz, fun h2 A' s' _ _ => ?_, fun A' s' _ _ => ordInt, fun x hx => all2_int ha x hx, fun s' D out m g₂ nD hD p1 p2 => ?_⟩)
  · rw [kindInts ha h2]
    exact wpAny_pure ⟨rfl, rfl⟩
  · refine h s' D out (out.map numOf) m (g₁.trans g₂) ?_ hD (all2_map fun v hv => all2_int ha v (p1.mem_iff.mp hv)) ?_ ?_
    · cases q : s.heap.get? D with
      | none => rfl
      | some o => rw [g₁.keep _ _ q] at nD; cases nD
    · have := p1.map numOf
      rwa [all2_nums ha] at this
    · rw [List.pairwise_map]; exact p2
end

section
variable {prog : Program} {w : World} {A : Around} {E : Value → Shared → Prop} {s s' : Shared} {base : Heap} {env : Env} {m cm : Str → Option Value} {e e1 sl : Expr} {pos p : Pos} {v : Value}

theorem EvV.cell {x : Str} {c : Addr} (F : Fc base env s.heap m cm) (hc : env.cells.lookup x = some c) (hv : cm x = some v)
    (hk : env.scope.kind = .function := by rfl) (hl : env.kindOf x = some .cell := by rfl) (hd : (x == ("__debug__" : Str)) = false := by decide) : EvV prog w A env (.Name x pos) v s := ldCe F hc hv ⟨.refl _, rfl⟩ hk hl hd

def CellIs (h : Heap) (c : Addr) (v : Value) : Prop := ∃ o, h.get? c = some o ∧ o.data = .cell (some v)
theorem CellIs.keep {h h' : Heap} {c : Addr} (x : CellIs h c v) (k : ∀ b o, h.get? b = some o → h'.get? b = some o) : CellIs h' c v := let ⟨o, ho, hd⟩ := x; ⟨o, k _ _ ho, hd⟩
theorem Fc.cellIs {x : Str} {c : Addr} (F : Fc base env s.heap m cm) (hc : env.cells.lookup x = some c) (hv : cm x = some v) : CellIs s.heap c v := by
  obtain ⟨oc, ho, hd⟩ := F.cl.cell _ _ hc
  rw [hv] at hd
  exact ⟨oc, ho, hd⟩
theorem EvV.cap {x : Str} {c : Addr} (hc : env.cells.lookup x = some c) (ho : CellIs s.heap c v)
    (hk : env.scope.kind = .function := by rfl) (hl : env.kindOf x = some .cell := by rfl) (hd : (x == ("__debug__" : Str)) = false := by decide) : EvV prog w A env (.Name x pos) v s :=
  let ⟨_, h1, h2⟩ := ho
  ldCell hc h1 h2 ⟨.refl _, rfl⟩ hk hl hd

/-- d[k] of a dict that stands -/
theorem EvV.dict {D : Addr} {kvs : List (Int × Value)} {k : Int} (h : EvV prog w A env e (.ref D) s) (hD : s.heap.DictOf (intKind prog w) D kvs) (hv : valueAt kvs k = some v) (hs : ∀ s₁, Grow s s₁ → EvI prog w A env sl k s₁)
    (hq : ∀ t, subscripted sl false (.ref D) (.int k t) = operate [.ref D, .int k t] (getItem (.ref D) (.int k t)) := by intro _; with_unfolding_all rfl) : EvV prog w A env (.Subscript e sl pos) v s := by
  refine Subscript_ (h.use fun s₁ g₁ => (hs s₁ g₁).use fun s₂ t g₂ => ?_)
  have hD2 := hD.keep (g₁.trans g₂).keep
  exact tail_any hD2.typeIs slot_dict_getitem.lookup (wpAny_getItem_of (intKind_is _ _ _ _) hD2.mapOf hv ⟨(g₁.trans g₂).trans (Grow.toks _ _), rfl⟩) (hq t)

theorem countP_rep {ws : List Value} {Y : List Int} (h : All2 RepI ws Y) (n : Int) : (ws.countP fun y => numOf y == n) = Y.count n := by
  induction h with
  | nil => rfl
  | cons r _ ih =>
    obtain ⟨t, rfl⟩ := r
    rw [List.countP_cons, List.count_cons, ih]
    rfl

/-- xs.count(n) -/
theorem EvI.count {o a : Expr} {pl : Sem Bool} {p1 p2 : Pos} {D : Addr} {ws : List Value} {Y : List Int} {n : Int} {j : Nat} (ho : EvV prog w A env o (.ref D) s) (hD : s.heap.get? D = some (listOf ws.toArray j)) (ha : All2 RepI ws Y)
    (he : ∀ s₁, Grow s s₁ → EvI prog w A env a n s₁)
    (hc : eval (.Call (.Attribute o "count" p1) [a] [] p2) env = (do
      let ov ← eval o env
      standAt p1.atName
      let (f, first) ← holding [ov] (getMethod ov "count" pl)
      callWith p2 f first (backTo p2 (starEach [a] env)) []) := by rfl)
    (hs : starEach [a] env = [(false, eval a env)] := by rfl) :
    EvI prog w A env (.Call (.Attribute o "count" p1) [a] [] p2) (Y.count n : Nat) s := by
  refine MethodCall_ (ho.use fun s₀ g₀ => ?_) hc
  have hD₀ := g₀.keep _ _ hD
  refine getMethod_builtin ⟨_, hD₀, rfl⟩ PySem.F.plainAttrs_list PySem.F.slot_list_count PySem.F.type_list_count (fun x q => by cases q; exact ⟨_, hD₀, rfl⟩) ?_
  refine callWith_method1 (spliced_more ((he s₀ g₀).use fun s₁ t g₁ => spliced_none ?_) hs) hs rfl
  have hD₁ := g₁.keep _ _ hD₀
  refine call_meets PySem.F.slot_list_count ⟨_, hD₁, rfl⟩ PySem.F.entry_list_count (PySem.F.args_list_count_2 _ _) (SeqAt.list_countAt D ws.toArray j none #[] (.int n t) fun y => numOf y == n) ⟨hD₁, fun y hy => ?_, ?_⟩
  · obtain ⟨k, u, rfl⟩ := all2_int ha y (by simpa using hy)
    exact EqAt.int_int _ _ _ _
  · refine ⟨(g₀.trans g₁).trans (Grow.toks _ _), s₁.toks, ?_⟩
    rw [show ws.toArray.toList = ws from rfl, countP_rep ha n]

theorem iterDict {it d : Addr} {kvs : List (Int × Value)} {ep : Nat} (hil : it ≠ d) : Iter prog w it [it, d] kvs.length (fun k v => ∃ x, kvs[k]? = some x ∧ RepI v x.1) (fun k h => h.IsKeyIter it d k kvs.length ep ∧ h.DictAt (intKind prog w) d kvs ep) where
  mem := .head _
  there := by
    rintro k h ⟨⟨o, ho, r⟩, _⟩ q
    rw [ho] at q; cases q
  keep := by
    rintro k h h' ⟨h1, h2⟩ st
    exact ⟨h1.at fun o e => st it (.head _) o e, h2.at' fun o e => st d (.tail _ (.head _)) o e⟩
  item := by
    rintro A E s k Q ⟨hi, hl⟩ hk h
    refine wpAny_pyNext_dict_item (k := kvs[k].1) (v := kvs[k].2) hi hl (List.getElem?_eq_getElem hk) fun key h' hkey hi' sb => h _ _ ⟨fun b o n e => (sb.2 b n).trans e, rfl, rfl⟩ ⟨hi', hl.extBut sb.extBut (Ne.symm hil)⟩ ⟨_, List.getElem?_eq_getElem hk, Value.isInt_shape hkey⟩
  fin := by
    rintro A E s Q hh ⟨hi, hl⟩ h
    exact wpAny_pyNext_dict_end hh hi hl (by simp) fun h' eb => h _ ⟨fun b o n e => eb b o n e, rfl, rfl⟩
  again := by
    rintro A E s k Q ⟨hi, _⟩ h
    exact wpAny_pyIter_keyiter hi h
  own := by
    intro s k M A E x p v Q _ h
    exact wpAny_pure h

theorem srcDict {kvs : List (Int × Value)} {d : Addr} {s₁ : Shared} (g : Grow s s₁) (hd : (d == sysModules) = false) (hm : s₁.heap.DictOf (intKind prog w) d kvs) :
    wpAny (model prog w) A (pyIter (.ref d)) (fun itv s₂ => ∃ it fp V P, itv = .ref it ∧ Src prog w s s₂ RepI (kvs.map (·.1)) it fp V P) E s₁ := by
  obtain ⟨ep, hat⟩ := hm.dictAt
  refine wpAny_pyIter_dict hd hat ?_
  have hne : s₁.heap.objs.size ≠ d := Nat.ne_of_gt hat.lt_size
  have hst : (s₁.heap.push { cls := .type "dict_keyiterator", data := .fields #[.ref d, .int 0 0, .int kvs.length 0, .int ep 0] }).IsKeyIter s₁.heap.objs.size d 0 kvs.length ep ∧ (s₁.heap.push { cls := .type "dict_keyiterator", data := .fields #[.ref d, .int 0 0, .int kvs.length 0, .int ep 0] }).DictAt (intKind prog w) d kvs ep :=
    ⟨⟨_, Heap.get?_push_size _ rfl, rfl, rfl⟩, hat.push _⟩
  refine ⟨s₁.heap.objs.size, [s₁.heap.objs.size, d], fun k v => ∃ x, kvs[k]? = some x ∧ RepI v x.1, fun k h => h.IsKeyIter s₁.heap.objs.size d k kvs.length ep ∧ h.DictAt (intKind prog w) d kvs ep, rfl, ?_⟩
  have D := iterDict (prog := prog) (w := w) (kvs := kvs) (ep := ep) hne
  refine ⟨by rw [List.length_map]; exact D, hst, g.trans ⟨fun b o e => Heap.get?_push_of_some _ e, rfl, rfl⟩, ?_, D.there hst, ?_, fun k v hk hv => ?_⟩
  · cases q : s.heap.get? s₁.heap.objs.size with
    | none => rfl
    | some o => exact absurd (Heap.lt_size (g.keep _ _ q)) (Nat.lt_irrefl _)
  · intro b hb q
    rcases List.mem_cons.mp hb with rfl | hb
    · exact D.there hst q
    · rw [List.mem_singleton.mp hb] at q
      obtain ⟨o, es, ho, _⟩ := hst.2
      have ho' : (s₁.heap.push { cls := .type "dict_keyiterator", data := .fields #[.ref d, .int 0 0, .int kvs.length 0, .int ep 0] }).get? d = some o := ho
      exact absurd (ho'.symm.trans q) (by simp)
  · obtain ⟨x, hx, r⟩ := hv
    rw [List.length_map] at hk
    rw [List.getElem?_eq_getElem hk] at hx
    cases hx
    rw [List.getElem_map]; exact r
end

section
variable {prog : Program} {w : World} {A : Around} {E : Value → Shared → Prop} {s : Shared} {env : Env} {e : Expr} {pos : Pos}

/-- an item of a tuple that stands -/
theorem EvV.tupAt {sl : Expr} {D : Addr} {vs : List Value} {v : Value} {i : Nat} (h : EvV prog w A env e (.ref D) s) (hD : s.heap.get? D = some (tupOf vs)) (hi : vs[i]? = some v) (hz : i < 1000000) (hs : ∀ s₁, Grow s s₁ → EvI prog w A env sl (i : Nat) s₁)
    (hq : ∀ t, subscripted sl false (.ref D) (.int (i : Nat) t) = operate [.ref D, .int (i : Nat) t] (getItem (.ref D) (.int (i : Nat) t)) := by intro _; with_unfolding_all rfl) : EvV prog w A env (.Subscript e sl pos) v s := by
  refine Subscript_ (h.use fun s₁ g₁ => (hs s₁ g₁).use fun s₂ t g₂ => ?_)
  have hT : IsTup s₂.heap D vs.toArray := ⟨_, g₂.keep _ _ (g₁.keep _ _ hD), rfl, _, rfl⟩
  have hlt : i < vs.length := by
    rcases Nat.lt_or_ge i vs.length with q | q
    · exact q
    · rw [List.getElem?_eq_none q] at hi; cases hi
  refine item_tupleT (j := i) hT (by omega) (by omega) ?_ hi ⟨g₁.trans g₂, rfl⟩ (hq t)
  unfold seqIndex?
  have n0 : ¬ ((i : Nat) : Int) < 0 := by omega
  simp only [if_neg n0]
  rw [if_pos (by simp; omega)]
  simp

/-- «o.extend(e)», both lists -/
theorem extendAny {o : Expr} {pl : Sem Bool} {p1 p2 p3 : Pos} {D b : Addr} {ms vs : List Value} {n k : Nat} {Q : Flow → Shared → Prop} (ho : EvV prog w A env o (.ref D) s) (hD : s.heap.get? D = some (listOf ms.toArray n)) (hsz : ms.length + vs.length ≤ 10000000)
    (he : ∀ s₁, Grow s s₁ → EvV prog w A env e (.ref b) s₁) (hb : s.heap.get? b = some (listOf vs.toArray k))
    (hQ : ∀ s' n', ExL D s s' → s'.heap.get? D = some (listOf (ms ++ vs).toArray n') → Q .next s')
    (hc : eval (.Call (.Attribute o "extend" p1) [e] [] p2) env = (do
      let ov ← eval o env
      standAt p1.atName
      let (f, first) ← holding [ov] (getMethod ov "extend" pl)
      callWith p2 f first (backTo p2 (starEach [e] env)) []) := by rfl)
    (hs : starEach [e] env = [(false, eval e env)] := by rfl) (hi : interactive env = false := by rfl) :
    wpAny (model prog w) A (exec (.Expr (.Call (.Attribute o "extend" p1) [e] [] p2) p3) env) Q E s := by
  refine wpAny_Expr_any (MethodCall_ (ho.use fun s₀ g₀ => ?_) hc) hi rfl
  have hD₀ := g₀.keep _ _ hD
  refine getMethod_builtin ⟨_, hD₀, rfl⟩ PySem.F.plainAttrs_list PySem.F.slot_list_extend PySem.F.type_list_extend (fun x q => by cases q; exact ⟨_, hD₀, rfl⟩) ?_
  refine callWith_method1 (spliced_more ((he s₀ g₀).use fun s₁ g₁ => spliced_none ?_) hs) hs rfl
  have g := g₀.trans g₁
  exact extendCall (g.keep _ _ hD) (g.keep _ _ hb) hsz fun s' n' g' hD' => hQ s' n' (g.exL.trans g') hD'
end

section
variable {prog : Program} {w : World} {A : Around} {E : Value → Shared → Prop} {s : Shared} {env : Env} {γ : Type}
/-- the walk of «[y for x in .. if .. for y in x]» -/
theorem listComp2M {RB : Value → γ → Prop} {X : List (List γ)} {p : List γ → Bool} {iter : Expr} {x y : Str} {px py q1 q2 : Pos} {ifs : List Expr} {scope : Scope} {pos ip : Pos} {cl : List (Str × Addr)} {use : Option (Value → Sem Unit)} {Q : Value → Shared → Prop}
    (hs : ∀ z, foldedSetIterable iter env z = pure z) (hs' : ∀ Lc z, foldedSetIterable (.Name x q2) (compEnv scope env Lc cl) z = pure z) (hclos : closureFor scope env = pure cl) (hcell : ∀ y ∈ scope.names, y.2 ≠ .cell) (hkind : scope.kind = .function)
    (hnames : ∀ y ∈ scope.names, y.2 = .local → (compScope scope env).names.lookup y.1 = some .local) (hx : (compScope scope env).names.lookup x = some .local) (hy : (compScope scope env).names.lookup y = some .local)
    (dx : (x == ("__debug__" : Str)) = false) (dy : (y == ("__debug__" : Str)) = false)
    (hh : A.handled = none) (plain : ∀ u b, RB u b → rf u = [])
    (hsrc : wpAny (model prog w) A (eval iter env) (fun y s₁ => wpAny (model prog w) A (pyIter y) (fun itv s₂ => ∃ it fp V P, itv = .ref it ∧ Src prog w s s₂ (RL RB s.heap) X it fp V P) E s₁) E s) (hz : X.flatten.length < 1000000)
    (hcond : ∀ v a s₁ Lc m, Grow s s₁ → RL RB s.heap v a → a ∈ X → s₁.heap.Ns Lc m → m x = some v → wpAny (model prog w) A (conds ifs (compEnv scope env Lc cl)) (fun ok s₂ => Grow s₁ s₂ ∧ ok = p a) No s₁)
    (hQ : ∀ s' Lc D us j, Grow s s' → s.heap.get? D = none → s.heap.get? Lc = none → Lc ≠ D → (∃ m, s'.heap.Ns Lc m) → s'.heap.get? D = some (listOf us.toArray j) → All2 RB us (X.filter p).flatten → UseOk prog w A E use Q Lc (.ref D) s') :
    wpAny (model prog w) A (comprehension (.ListComp (.Name y q1) [⟨.Name x px, iter, ifs, 0⟩, ⟨.Name y py, .Name x q2, [], 0⟩] scope pos) scope env ip (newList []) false (eval iter env) use) Q E s := by
  refine comprehension_ (g := ⟨.Name x px, iter, ifs, 0⟩) (gs := [⟨.Name y py, .Name x q2, [], 0⟩]) rfl hs hclos hcell hkind hnames (wpAny_mono hsrc (fun yv s₁ h₁ => wpAny_mono h₁ (fun itv s₂ h₂ => ?_) fun _ _ q => q) fun _ _ q => q)
  obtain ⟨it, fp, V, P, rfl, S⟩ := h₂
  refine newList_ fun s₃ D g₃ gD nD => ?_
  intro s₄ Lc g₄ nL hns
  have keepS : ∀ {a : Addr}, s₂.heap.get? a = none → s.heap.get? a = none := fun {a} q => by
    cases e : s.heap.get? a with
    | none => rfl
    | some o => rw [S.g.keep _ _ e] at q; cases q
  have nL₂ : s₂.heap.get? Lc = none := by
    cases e : s₂.heap.get? Lc with
    | none => rfl
    | some o => rw [g₃.keep _ _ e] at nL; cases nL
  have LD : Lc ≠ D := fun q => by rw [q, gD] at nL; cases nL
  have nDs := keepS nD
  have nLs := keepS nL₂
  have fD : D ∉ fp := fun q => S.fp _ q nD
  have fL : Lc ∉ fp := fun q => S.fp _ q nL₂
  have iD : it ≠ D := fun q => fD (q ▸ S.D.mem)
  have iL : it ≠ Lc := fun q => fL (q ▸ S.D.mem)
  have hg : ([⟨.Name x px, iter, ifs, 0⟩, ⟨.Name y py, .Name x q2, [], 0⟩] : List Comprehension)[0]? = some ⟨.Name x px, iter, ifs, 0⟩ := rfl
  have hg1 : ([⟨.Name x px, iter, ifs, 0⟩, ⟨.Name y py, .Name x q2, [], 0⟩] : List Comprehension)[1]? = some ⟨.Name y py, .Name x q2, [], 0⟩ := rfl
  have gs₄ : Grow s s₄ := S.g.trans (g₃.trans g₄)
  have fp₄ : ∀ b ∈ fp, s₄.heap.get? b ≠ none := fun b hb q => by
    cases e : s₂.heap.get? b with
    | none => exact S.fp b hb e
    | some o => rw [g₄.keep _ _ (g₃.keep _ _ e)] at q; cases q
  refine compStart_ hg rfl S.D (S.D.keep S.p0 fun b _ o e => g₄.keep b o (g₃.keep b o e)) ?_
  refine compInner hg hg1 (hs' Lc) S.D hh (S.D.keep S.p0 fun b _ o e => g₄.keep b o (g₃.keep b o e))
    (fun k s₁ => (∀ b o, b ≠ it → b ≠ Lc → b ≠ D → s₄.heap.get? b = some o → s₁.heap.get? b = some o) ∧ s₁.os = s₄.os ∧ s₁.gens = s₄.gens ∧ (∃ m, s₁.heap.Ns Lc m) ∧
      ∃ us j, s₁.heap.get? D = some (listOf us.toArray j) ∧ All2 RB us ((X.take k).filter p).flatten) ?_ ?_ ?_ ?_
  · rintro k s₁ s₂ ⟨h1, h2, h3, ⟨m, o, es, ep, ho, r⟩, us, j, h5, h6⟩ g
    exact ⟨fun b o n1 n2 n3 e => g.keep b o n1 (h1 b o n1 n2 n3 e), g.os.trans h2, g.gens.trans h3, ⟨m, o, es, ep, g.keep _ _ (Ne.symm iL) ho, r⟩, us, j, g.keep _ _ (Ne.symm iD) h5, h6⟩
  · exact ⟨fun b o _ _ _ e => e, rfl, rfl, ⟨_, hns⟩, [], 0, g₄.keep _ _ gD, by simpa using All2.nil⟩
  · rintro k v s₁ hkn hv hp ⟨h1, h2, h3, ⟨m, h4⟩, us, j, h5, h6⟩
    have ra := S.ra k v hkn hv
    have git := S.D.there hp
    have tk : X.take (k + 1) = X.take k ++ [X[k]] := by rw [List.take_succ_eq_append_getElem hkn]
    refine stE (env := compEnv scope env Lc cl) h4 (fun s₂ hn₂ g₂ => ?_) hkind hx
    have g₂' : ExL Lc s₁ s₂ := g₂
    have gs₂ : Grow s s₂ := by
      refine ⟨fun b o e => g₂'.keep b o (fun q => by rw [q, nLs] at e; cases e) (h1 b o (fun q => by rw [q, S.ni] at e; cases e) (fun q => by rw [q, nLs] at e; cases e) (fun q => by rw [q, nDs] at e; cases e) (gs₄.keep b o e)), ?_, ?_⟩
      · exact g₂.os.trans (h2.trans gs₄.os)
      · exact g₂.gens.trans (h3.trans gs₄.gens)
    refine wpAny_mono (hcond v X[k] s₂ Lc _ gs₂ ra (List.getElem_mem hkn) hn₂ upd_same) (fun ok s₃ h₃ => ?_) fun _ _ q => q
    obtain ⟨g₃', rfl⟩ := h₃
    have e₁₃ : ExL Lc s₁ s₃ := g₂'.trans g₃'.exL
    cases hpk : p X[k] with
    | false =>
      rw [if_neg (by decide)]
      refine ⟨fun b hb o e => e₁₃.keep b o (fun q => fL (q ▸ hb)) e, fun b o n1 n2 n3 e => e₁₃.keep b o n2 (h1 b o n1 n2 n3 e), e₁₃.os.trans h2, e₁₃.gens.trans h3, ⟨_, hn₂.keeps g₃'.keep⟩, us, j, e₁₃.keep _ _ (Ne.symm LD) h5, ?_⟩
      rw [tk, List.filter_append]
      have : [X[k]].filter p = [] := by simp [hpk]
      rw [this, List.append_nil]; exact h6
    | true =>
      rw [if_pos rfl]
      have hn₃ := hn₂.keeps g₃'.keep
      refine ldE (env := compEnv scope env Lc cl) hn₃ upd_same ?_ hkind hx dx
      obtain ⟨c, vs, n, rfl, hc, hav⟩ := ra
      have gs₃ := gs₂.trans g₃'
      have hc₃ := gs₃.keep _ _ hc
      refine pyIterList hc₃ fun s₅ it' g₅ ni' nil' st' => ?_
      have D' := iterList (prog := prog) (w := w) (vs := vs) nil'
      refine compStart_ hg1 rfl D' st' ?_
      have el := hav.length
      have lt := flat_le X p k hkn
      have h5' := g₅.keep _ _ (e₁₃.keep _ _ (Ne.symm LD) h5)
      have hcD : c ≠ D := fun q => by rw [q, nDs] at hc; cases hc
      have hcL : c ≠ Lc := fun q => by rw [q, nLs] at hc; cases hc
      have iD' : it' ≠ D := fun q => by rw [q, e₁₃.keep _ _ (Ne.symm LD) h5] at ni'; cases ni'
      have iL' : it' ≠ Lc := fun q => by
        obtain ⟨o, _, _, ho, _⟩ := hn₃
        rw [q] at ni'; rw [show s₃.heap.get? Lc = some o from ho] at ni'; cases ni'
      have ni : s.heap.get? it' = none := by
        cases q : s.heap.get? it' with
        | none => rfl
        | some o => rw [gs₃.keep _ _ q] at ni'; cases ni'
      have S' : Src prog w s s₅ RB X[k] it' [it', c] (fun k v => vs[k]? = some v) (fun k h => h.IsListIter it' c k ∧ h.IsList c vs.toArray) := by
        refine ⟨by rw [← el]; exact D', st', gs₃.trans g₅, ni, D'.there st', ?_, fun i u hi hu => ?_⟩
        · intro b hb q
          rcases List.mem_cons.mp hb with rfl | hb
          · exact D'.there st' q
          · rw [List.mem_singleton.mp hb, g₅.keep _ _ hc₃] at q; cases q
        · have hk' : i < vs.length := by omega
          have : u = vs[i] := by rw [List.getElem?_eq_getElem hk'] at hu; exact (Option.some.inj hu).symm
          rw [this]
          exact hav.get i hk' hi
      refine compWalk (s := s) (s₂ := s₅) (s₃ := s₅) (s₄ := s₅) (us₀ := us) (RO := fun u b _ => RB u b) (X := X[k]) (p := fun _ => true) (f := fun b => b) (Lc := Lc) hg1 rfl hh (fun _ _ _ _ r _ => r) S' (.refl _) nDs nLs ?_ ?_ LD rfl ⟨_, hn₃.keeps g₅.keep⟩ ⟨j, h5'⟩ h6 ?_ ?_ hkind hy ?_ ?_ ?_
      · intro q
        rcases List.mem_cons.mp q with q | q
        · exact iD' q.symm
        · exact hcD (List.mem_singleton.mp q).symm
      · intro q
        rcases List.mem_cons.mp q with q | q
        · exact iL' q.symm
        · exact hcL (List.mem_singleton.mp q).symm
      · intro u hu c hc
        have : ∀ {us : List Value} {bs : List γ}, All2 RB us bs → ∀ u ∈ us, rf u = [] := by
          intro us bs h
          induction h with
          | nil => intro u hu; cases hu
          | cons r _ ih =>
            intro u hu
            rcases List.mem_cons.mp hu with rfl | hu
            · exact plain _ _ r
            · exact ih u hu
        rw [this h6 u hu] at hc; cases hc
      · rw [h6.length]; omega
      · intro v a s₁ m' _ _ _ _
        exact conds_nil ⟨.refl _, rfl⟩
      · intro v a s₁ m' g' rv _ hn' hv'
        refine ldE (env := compEnv scope env Lc cl) hn' hv' ⟨.refl _, rv, fun c hc => ?_⟩ hkind hy dy
        rw [plain _ _ rv] at hc; cases hc
      · intro s' us' j' k1 k2 k3 hm hD ha _ _
        have g15 : ∀ b o, b ≠ Lc → s₁.heap.get? b = some o → s₅.heap.get? b = some o := fun b o n e => g₅.keep b o (e₁₃.keep b o n e)
        have ni1 : ∀ b o, b ≠ Lc → s₁.heap.get? b = some o → b ≠ it' := fun b o n e q => by
          have := e₁₃.keep b o n e
          rw [q, ni'] at this; cases this
        refine ⟨⟨_, rfl⟩, fun b hb o e => ?_, fun b o n1 n2 n3 e => ?_, k2.trans (g₅.os.trans (e₁₃.os.trans h2)), k3.trans (g₅.gens.trans (e₁₃.gens.trans h3)), hm, us', j', hD, ?_⟩
        · have nb : b ≠ Lc := fun q => fL (q ▸ hb)
          exact k1 b o (ni1 b o nb e) nb (fun q => fD (q ▸ hb)) (g15 b o nb e)
        · have e1 := h1 b o n1 n2 n3 e
          exact k1 b o (ni1 b o n2 e1) n2 n3 (g15 b o n2 e1)
        · rw [tk, List.filter_append, List.flatten_append]
          have q1 : [X[k]].filter p = [X[k]] := by simp [hpk]
          rw [q1]
          have q2 : (X[k].filter fun _ => true).map (fun b => b) = [X[k]].flatten := by simp
          rw [q2] at ha; exact ha
  · rintro s' ⟨h1, h2, h3, hm, us, j, h5, h6⟩
    rw [List.take_length] at h6
    have gs : Grow s s' := ⟨fun b o e => h1 b o (fun q => by rw [q, S.ni] at e; cases e) (fun q => by rw [q, nLs] at e; cases e) (fun q => by rw [q, nDs] at e; cases e) (gs₄.keep b o e), h2.trans gs₄.os, h3.trans gs₄.gens⟩
    exact ⟨⟨_, rfl⟩, hm, hQ s' Lc D us j gs nDs nLs LD hm h5 h6⟩

end
section
variable {prog : Program} {w : World} {A : Around} {E : Value → Shared → Prop} {s : Shared} {base : Heap} {env : Env} {m cm : Str → Option Value} {γ : Type}
/-- «z = [y for x in .. if .. for y in x]» in a frame with captured names -/
theorem assignComp2M {RB : Value → γ → Prop} {X : List (List γ)} {p : List γ → Bool} {iter : Expr} {x y z : Str} {px py pz spos q1 q2 : Pos} {ifs : List Expr} {scope : Scope} {pos : Pos} {cl : List (Str × Addr)} {Q : Flow → Shared → Prop} (F : Fc base env s.heap m cm)
    (hh : A.handled = none) (plain : ∀ u b, RB u b → rf u = [])
    (hsrc : wpAny (model prog w) A (eval iter env) (fun y s₁ => wpAny (model prog w) A (pyIter y) (fun itv s₂ => ∃ it fp V P, itv = .ref it ∧ Src prog w s s₂ (RL RB s.heap) X it fp V P) E s₁) E s) (hz : X.flatten.length < 1000000)
    (hcond : ∀ v a' s₁ Lc m', Grow s s₁ → RL RB s.heap v a' → a' ∈ X → s₁.heap.Ns Lc m' → m' x = some v → wpAny (model prog w) A (conds ifs (compEnv scope env Lc cl)) (fun ok s₂ => Grow s₁ s₂ ∧ ok = p a') No s₁)
    (hQ : ∀ s' D us j, Fc base env s'.heap (upd m z (.ref D)) cm → ExL env.locals s s' → s.heap.get? D = none → s'.heap.get? D = some (listOf us.toArray j) → All2 RB us (X.filter p).flatten → Q .next s')
    (hsw : swapsWith (.ListComp (.Name y q1) [⟨.Name x px, iter, ifs, 0⟩, ⟨.Name y py, .Name x q2, [], 0⟩] scope pos) (some (.Name z pz)) spos.line env = pure true := by rfl)
    (hk : env.scope.kind = .function := by rfl) (hl : env.kindOf z = some .local := by rfl)
    (hs : ∀ z, foldedSetIterable iter env z = pure z := by intro _; rfl) (hs' : ∀ Lc z, foldedSetIterable (.Name x q2) (compEnv scope env Lc cl) z = pure z := by intro _ _; rfl) (hclos : closureFor scope env = pure cl := by rfl) (hcell : ∀ y ∈ scope.names, y.2 ≠ .cell := by decide) (hkind : scope.kind = .function := by rfl)
    (hnames : (scope.names.all fun y => y.2 != .local || (compScope scope env).names.lookup y.1 == some .local) = true := by rfl) (hx : (compScope scope env).names.lookup x = some .local := by rfl) (hy : (compScope scope env).names.lookup y = some .local := by rfl)
    (dx : (x == ("__debug__" : Str)) = false := by decide) (dy : (y == ("__debug__" : Str)) = false := by decide) :
    wpAny (model prog w) A (exec (.Assign [.Name z pz] (.ListComp (.Name y q1) [⟨.Name x px, iter, ifs, 0⟩, ⟨.Name y py, .Name x q2, [], 0⟩] scope pos) spos) env) Q E s := by
  refine assignU rfl (fun ip => ?_) hsw
  refine listComp2M hs hs' hclos hcell hkind (namesOk hnames) hx hy dx dy hh plain hsrc hz hcond fun s' Lc D us j g nD nL LD hm hD ha => ?_
  have nD' := fcNew F nD
  have nL' := fcNew F nL
  show wpAny _ A (assign (.Name z pz) env (.ref D)) _ _ _
  refine wpAny_assign_Name (stL (fcGrow F g) (fun s₂ F₂ g₂ => ⟨?_, fun s₃ g₃ => hQ s₃ D us j (fcExL F₂ g₃ nL'.1 nL'.2.1 nL'.2.2) ?_ nD (g₃.keep _ _ (Ne.symm LD) (g₂.keep _ _ nD'.1 hD)) ha⟩) hk hl)
  · obtain ⟨m', o, es, ep, ho, r⟩ := hm
    exact ⟨m', o, es, ep, g₂.keep _ _ nL'.1 ho, r⟩
  · exact ⟨fun b o n e => g₃.keep b o (fun q => by rw [q, nL] at e; cases e) (g₂.keep b o n (g.keep b o e)), g₃.os.trans (g₂.os.trans g.os), g₃.gens.trans (g₂.gens.trans g.gens)⟩
end

/-! a set's table: its places rise -/
def Rise (xs : Array Nat) : Prop := ∀ i j (hi : i < xs.size) (hj : j < xs.size), i < j → xs[i] < xs[j]

theorem below_go (xs : Array Nat) (j : Nat) (hr : Rise xs) : ∀ (fuel lo hi : Nat), lo ≤ hi → hi ≤ xs.size → hi - lo ≤ fuel → (∀ i (h : i < xs.size), i < lo → xs[i] < j) → (∀ i (h : i < xs.size), hi ≤ i → j ≤ xs[i]) →
    SetTable.below.go xs j fuel lo hi ≤ xs.size ∧ (∀ i (h : i < xs.size), i < SetTable.below.go xs j fuel lo hi → xs[i] < j) ∧ (∀ i (h : i < xs.size), SetTable.below.go xs j fuel lo hi ≤ i → j ≤ xs[i])
  | 0, lo, hi, h1, h2, h3, h4, h5 => by
    have : lo = hi := by omega
    subst this
    exact ⟨h2, h4, h5⟩
  | fuel + 1, lo, hi, h1, h2, h3, h4, h5 => by
    unfold SetTable.below.go
    by_cases hlt : lo < hi
    · rw [if_pos hlt]
      have hm : (lo + hi) / 2 < xs.size := by omega
      have hg : xs.getD ((lo + hi) / 2) j = xs[(lo + hi) / 2] := by simp [Array.getD, hm]
      dsimp only
      rw [hg]
      by_cases hx : xs[(lo + hi) / 2] < j
      · rw [if_pos hx]
        refine below_go xs j hr fuel _ _ (by omega) h2 (by omega) (fun i h q => ?_) h5
        rcases Nat.lt_or_eq_of_le (show i ≤ (lo + hi) / 2 by omega) with q' | q'
        · have := hr i _ h hm q'; omega
        · subst q'; exact hx
      · rw [if_neg hx]
        refine below_go xs j hr fuel _ _ (by omega) (by omega) (by omega) h4 (fun i h q => ?_)
        rcases Nat.lt_or_eq_of_le q with q' | q'
        · have := hr _ i hm h q'; omega
        · subst q'; omega
    · rw [if_neg hlt]
      have : lo = hi := by omega
      subst this
      exact ⟨h2, h4, h5⟩
theorem below_spec {xs : Array Nat} {j : Nat} (hr : Rise xs) : SetTable.below xs j ≤ xs.size ∧ (∀ i (h : i < xs.size), i < SetTable.below xs j → xs[i] < j) ∧ (∀ i (h : i < xs.size), SetTable.below xs j ≤ i → j ≤ xs[i]) :=
  below_go xs j hr xs.size 0 xs.size (by omega) (Nat.le_refl _) (by omega) (fun i _ q => by omega) (fun i h q => by omega)

theorem insertAt_list {α : Type} (xs : Array α) (p : Nat) (x : α) : (SetTable.insertAt xs p x).toList = xs.toList.take p ++ x :: xs.toList.drop p := by
  unfold SetTable.insertAt
  simp [List.take_of_length_le]

theorem rise_list {xs : Array Nat} : Rise xs ↔ xs.toList.Pairwise (· < ·) := by
  rw [List.pairwise_iff_getElem]
  constructor
  · intro h i j hi hj q
    simpa using h i j (by simpa using hi) (by simpa using hj) q
  · intro h i j hi hj q
    have := h i j (by simpa using hi) (by simpa using hj) q
    rw [Array.getElem_toList, Array.getElem_toList] at this
    exact this

theorem rise_insert {xs : Array Nat} {j : Nat} (hr : Rise xs) (hn : xs[SetTable.below xs j]? ≠ some j) : Rise (SetTable.insertAt xs (SetTable.below xs j) j) := by
  obtain ⟨b1, b2, b3⟩ := below_spec (j := j) hr
  rw [rise_list, insertAt_list]
  have hp := rise_list.mp hr
  have lo : ∀ x ∈ xs.toList.take (SetTable.below xs j), x < j := by
    intro x hx
    obtain ⟨i, hi, rfl⟩ := List.mem_iff_getElem.mp hx
    simp at hi
    have := b2 i (by omega) (by omega)
    simpa using this
  have hi : ∀ x ∈ xs.toList.drop (SetTable.below xs j), j < x := by
    intro x hx
    obtain ⟨i, hi, rfl⟩ := List.mem_iff_getElem.mp hx
    simp at hi
    have h1 := b3 (SetTable.below xs j + i) (by omega) (by omega)
    simp
    rcases Nat.lt_or_eq_of_le h1 with q | q
    · exact q
    · exfalso
      cases i with
      | zero =>
        apply hn
        rw [getElem?_pos xs (SetTable.below xs j) (by omega)]
        simp at q; rw [← q]
      | succ i =>
        have h2 := b3 (SetTable.below xs j) (by omega) (Nat.le_refl _)
        have h3 := hr (SetTable.below xs j) (SetTable.below xs j + (i + 1)) (by omega) (by omega) (by omega)
        omega
  refine List.pairwise_append.mpr ⟨hp.sublist (List.take_sublist _ _), List.pairwise_cons.mpr ⟨hi, hp.sublist (List.drop_sublist _ _)⟩, fun x hx y hy => ?_⟩
  have h1 := lo x hx
  rcases List.mem_cons.mp hy with rfl | hy
  · exact h1
  · have := hi y hy; omega

theorem rise_range (n : Nat) : Rise (Array.range n) := fun i j hi hj q => by simpa using q
theorem rise_empty : Rise #[] := fun i j hi => absurd hi (by simp)

/-- the slot that is found is not live -/
theorem probe_free (t : SetTable) (hashAt : Nat → Int) (h : Int) : ∀ (fuel : Nat) (p : SetTable.Probe) (j : Nat) (d : Option Nat), (∀ k, p.dummy = some k → t.place[SetTable.below t.place k]? ≠ some k) →
    SetTable.probe.go t hashAt h fuel p = some (.empty j d) → t.place[SetTable.below t.place (d.getD j)]? ≠ some (d.getD j)
  | 0, p, j, d, _, e => by unfold SetTable.probe.go at e; cases e
  | fuel + 1, p, j, d, hd, e => by
    have adv : ∀ q : SetTable.Probe, (t.advance q).dummy = q.dummy := fun q => by unfold SetTable.advance; split <;> rfl
    unfold SetTable.probe.go at e
    have notLive : (t.slot p.j = .empty ∨ t.slot p.j = .dummy) → t.place[SetTable.below t.place p.j]? ≠ some p.j := by
      intro q hq
      unfold SetTable.slot at q
      dsimp only at q
      rw [hq] at q
      simp at q
    cases hs : t.slot p.j with
    | empty =>
      rw [hs] at e
      cases e
      cases hpd : p.dummy with
      | none => exact notLive (.inl hs)
      | some k => exact hd k hpd
    | dummy =>
      rw [hs] at e
      refine probe_free t hashAt h fuel _ j d (fun k hk => ?_) e
      rw [adv] at hk
      cases hk
      exact notLive (.inr hs)
    | live i =>
      rw [hs] at e
      dsimp only at e
      split at e
      · cases e
      · refine probe_free t hashAt h fuel _ j d (fun k hk => ?_) e
        rw [adv] at hk
        exact hd k hk

theorem freeSlot_free {t : SetTable} {h : Int} {j : Nat} {b : Bool} (e : t.freeSlot h = some (j, b)) : t.place[SetTable.below t.place j]? ≠ some j := by
  unfold SetTable.freeSlot at e
  split at e
  · rename_i j' d hp
    cases e
    unfold SetTable.probe at hp
    exact probe_free t _ h _ _ _ _ (fun k hk => by cases hk) hp
  · cases e

/-- what stays so: the order of the places, and whether the table is led -/
structure TabOk (led : Bool) (t : SetTable) : Prop where
  led : t.led = led
  rise : Rise t.place

theorem tab_standIn {led : Bool} {t : SetTable} (h : TabOk led t) (n : Nat) : TabOk led (t.standIn n) := ⟨h.led, rise_range n⟩
theorem tab_layNew {led : Bool} {t : SetTable} (h : TabOk led t) (es : Array (Int × Value)) (hs : Int) (x : Value) : TabOk led (layNew t es hs x).2.1 := by
  unfold layNew
  cases e : t.freeSlot hs with
  | none => exact tab_standIn h _
  | some r =>
    obtain ⟨j, b⟩ := r
    dsimp only
    have hr := rise_insert h.rise (freeSlot_free e)
    unfold SetTable.orStandIn
    split
    · exact ⟨h.led, hr⟩
    · exact ⟨h.led, rise_range _⟩
theorem tab_relay {led : Bool} {t : SetTable} (h : TabOk led t) (es : Array (Int × Value)) (n : Nat) : TabOk led (relayAll t es n).2.1 := by
  unfold relayAll
  cases e : t.relaid (es.map (·.1)) n with
  | none => exact tab_standIn h _
  | some r =>
    obtain ⟨t', o⟩ := r
    dsimp only
    split
    · unfold SetTable.relaid SetTable.laid at e
      cases hc : SetTable.layClean (SetTable.sizeAbove n - 1) (es.map (·.1)) with
      | none => rw [hc] at e; cases e
      | some owner =>
        rw [hc] at e
        cases e
        refine ⟨h.led, rise_list.mpr ?_⟩
        have : ∀ l : List Nat, l.Pairwise (· < ·) → ((l.filterMap fun j => (owner.getD j none).map (j, ·)).map (·.1)).Pairwise (· < ·) := by
          intro l hl
          have hsub : ((l.filterMap fun j => (owner.getD j none).map (j, ·)).map (·.1)).Sublist l := by
            clear hl
            induction l with
            | nil => exact .slnil
            | cons a l ih =>
              rw [List.filterMap_cons]
              cases ho : owner.getD a none with
              | none => exact ih.cons a
              | some k => exact ih.cons_cons a
          exact hl.sublist hsub
        simpa using this _ List.pairwise_lt_range
    · exact tab_standIn h _

/-- a set's object: its entries es and its table t -/
structure SetB (led : Bool) (h : Heap) (a : Addr) (es : Array (Int × Value)) : Prop where
  it : ∃ o ep t, h.get? a = some o ∧ o.ExactSet ∧ o.data = .set es ep t ∧ t.fits es.size = true ∧ TabOk led t
  small : es.size < scanBound

section
variable {prog : Program} {w : World} {K : Type} [DecidableEq K] {knd : KeyKind prog w K} {A : Around} {E : Value → Shared → Prop} {s : Shared} {led : Bool}

theorem setB_store {h : Heap} {a : Addr} {o : Obj} {es es' : Array (Int × Value)} {ep : Nat} {t t' : SetTable} (ho : h.get? a = some o) (hex : o.ExactSet) (hd : o.data = .set es ep t) (hf : t'.fits es'.size = true) (hb : es'.size < scanBound) (ht : TabOk led t') :
    SetB led (h.update a (Obj.putSet es' t')) a es' := by
  have e := Heap.get?_update_self (Obj.putSet es' t') ho (by rw [putSet_of es' t' hd]; rfl)
  rw [putSet_of es' t' hd] at e
  exact ⟨⟨_, ep + 1, t', e, hex, rfl, hf, ht⟩, hb⟩

/-- one more entry -/
theorem setAddB {a : Addr} {es : Array (Int × Value)} {k : K} {x : Value} {Q : Bool → Shared → Prop} (hkey : knd.is k x = true) (hsc : x.scannable = true) (B : SetB led s.heap a es) (hel : ElemsOf knd es.toList) (hroom : es.size + 1 < scanBound)
    (hOld : (∃ e ∈ es.toList, knd.is k e.2 = true) → Q false s)
    (hNew : (¬ ∃ e ∈ es.toList, knd.is k e.2 = true) → ∀ s' es', ExL a s s' → SetB led s'.heap a es' → es'.toList.Perm (es.toList ++ [(knd.hash k, x)]) → Q true s') :
    wpAny (model prog w) A (setAddHashed a x (knd.hash k)) Q E s := by
  obtain ⟨⟨o, ep, t, ho, hex, hd, hf, ht⟩, hb⟩ := B
  unfold setAddHashed setAddHashedIn
  refine wpAny_holding (wpAny_bind (wpAny_setState_of ho hd hf ?_))
  dsimp only
  rw [byScan_of hsc hb hel, if_pos rfl]
  unfold setAddByScan
  refine wpAny_bind (wpAny_bind (wpAny_rule (wpAny_bind (wpAny_setScan_of hkey ho hd hf hel ?_))))
  cases hr : es.toList.findIdx? (fun e => knd.is k e.2) with
  | some j =>
    dsimp only
    obtain ⟨hj, hpj, _⟩ := List.findIdx?_eq_some_iff_getElem.mp hr
    exact wpAny_pure (wpAny_pure (hOld ⟨_, List.getElem_mem hj, hpj⟩))
  | none =>
    dsimp only
    have hno : ¬ ∃ e ∈ es.toList, knd.is k e.2 = true := by
      rintro ⟨e, he, q⟩
      have := List.findIdx?_eq_none_iff.mp hr e he
      rw [q] at this; cases this
    have hp := layNew_perm t es (knd.hash k) x
    have hf1 := layNew_fits t es (knd.hash k) x
    have ht1 := tab_layNew ht es (knd.hash k) x
    generalize layNew t es (knd.hash k) x = r at hp hf1 ht1 ⊢
    obtain ⟨es1, t1, wd, gave⟩ := r
    dsimp only at hp hf1 ht1 ⊢
    rw [Array.toList_push] at hp
    have z1 : es1.size = es.size + 1 := by have := hp.length_eq; simpa using this
    have hgw : ∀ (b : Bool) {s₁ : Shared} {Q' : Unit → Shared → Prop}, Q' () s₁ → wpAny (model prog w) A (match b with | true => rule "set.scan.the-table-gave-way" | false => pure ()) Q' E s₁ := fun b s₁ Q' hq => by
      cases b
      · exact wpAny_pure hq
      · exact wpAny_rule hq
    have fin : ∀ (t2 : SetTable), t2.fits es1.size = true → TabOk led t2 → wpAny (model prog w) A (do
        storeSet a es1 t2
        if (!wd && t2.tooFull) = true then do
            (match (relayAll t2 es1 (SetTable.grown es1.size)).2.2 with | true => rule "set.scan.the-table-gave-way" | false => pure () : Sem Unit)
            storeSet a (relayAll t2 es1 (SetTable.grown es1.size)).1 (relayAll t2 es1 (SetTable.grown es1.size)).2.1
            pure (some true)
          else pure (some true) : Sem (Option Bool)) (fun r s' => r = some true ∧ Q true s') E s := by
      intro t2 f2 k2
      refine wpAny_bind (wpAny_storeSet_of ho hd ?_ (fits_of_scanBound (by omega)))
      have B1 := setB_store (led := led) ho hex hd f2 (by omega) k2
      have x1 : ExL a s { s with heap := s.heap.update a (Obj.putSet es1 t2) } := ⟨fun b o n e => (Heap.get?_update_other _ _ (Ne.symm n)).trans e, rfl, rfl⟩
      split
      · refine wpAny_bind (hgw _ ?_)
        obtain ⟨o1, ep1, t1', g1, g2, g3, _, _⟩ := B1.it
        have hp2 := relayAll_perm t2 es1 (SetTable.grown es1.size)
        have hf2 := relayAll_fits t2 es1 (SetTable.grown es1.size)
        have ht2 := tab_relay k2 es1 (SetTable.grown es1.size)
        generalize relayAll t2 es1 (SetTable.grown es1.size) = r2 at hp2 hf2 ht2 ⊢
        obtain ⟨es2, t3, gave2⟩ := r2
        dsimp only at hp2 hf2 ht2 ⊢
        have z2 : es2.size = es1.size := by have := hp2.length_eq; simpa using this
        refine wpAny_bind (wpAny_storeSet_of g1 g3 ?_ (fits_of_scanBound (by omega)))
        refine wpAny_pure ⟨rfl, hNew hno _ es2 (x1.trans ⟨fun b o n e => (Heap.get?_update_other _ _ (Ne.symm n)).trans e, rfl, rfl⟩) (setB_store g1 g2 g3 hf2 (by omega) ht2) (hp2.trans hp)⟩
      · exact wpAny_pure ⟨rfl, hNew hno _ es1 x1 B1 hp⟩
    refine wpAny_bind (hgw _ ?_)
    split
    · refine wpAny_bind ?_
      rw [hashByValue_scannable 8 hsc]
      refine wpAny_pure (wpAny_mono (fin _ ?_ ?_) (fun r s' q => ?_) fun _ _ q => q)
      · split
        · exact hf1
        · exact SetTable.fits_plain_off hf1
      · split
        · exact ht1
        · exact ⟨ht1.led, ht1.rise⟩
      · obtain ⟨rfl, q⟩ := q
        exact wpAny_pure q
    · refine wpAny_bind (wpAny_pure ?_)
      simp only [if_true]
      refine wpAny_mono (fin _ hf1 ht1) (fun r s' q => ?_) fun _ _ q => q
      obtain ⟨rfl, q⟩ := q
      exact wpAny_pure q
end

/-! the walk over a set -/
theorem sub_setit : isSubtype (.type "set_iterator") (.type "set_iterator") = pure true := by rw [isSubtype_type]; kernel_rfl
theorem owner_setit : Manifest.owners.lookup (String.ofList ['r', 'o', 't', 'a', 'r', 'e', 't', 'i', '_', 't', 'e', 's'].reverse) = some Manifest.sig_set_iterator := by kernel_rfl
theorem slot_setit_next : Slot "set_iterator" "__next__" "set_iterator.__next__" :=
  .of (owner := "set_iterator") (n := "__next__") (by rw [typeLookup_type, builtinLookup_eq_fast]; kernel_rfl) (by decide +kernel) (by decide +kernel) (by decide +kernel)
    (by first | exact .inl (by decide +kernel) | exact .inr (by decide +kernel)) (by rw [isSubtype_type]; kernel_rfl)
theorem entry_setit_next : entryFor table "set_iterator.__next__" = some Builtin.«set_iterator.__next__» := entryFor_of_tree (by kernel_rfl)
theorem args_setit_next (a : Value) : argsOk "set_iterator.__next__" ⟨[a], []⟩ := by
  unfold argsOk; rw [signature?_of (id := "set_iterator.__next__") (n := ['_', '_', 't', 'x', 'e', 'n', '_', '_']) (o := ['r', 'o', 't', 'a', 'r', 'e', 't', 'i', '_', 't', 'e', 's']) (by kernel_rfl) owner_setit]; kernel_rfl
theorem slot_setit_iter : Slot "set_iterator" "__iter__" "set_iterator.__iter__" :=
  .of (owner := "set_iterator") (n := "__iter__") (by rw [typeLookup_type, builtinLookup_eq_fast]; kernel_rfl) (by decide +kernel) (by decide +kernel) (by decide +kernel)
    (by first | exact .inl (by decide +kernel) | exact .inr (by decide +kernel)) (by rw [isSubtype_type]; kernel_rfl)
theorem entry_setit_iter : entryFor table "set_iterator.__iter__" = some Builtin.«dict_keyiterator.__iter__» :=
  entryFor_alias (id' := "dict_keyiterator.__iter__") (by kernel_rfl) (by first | rfl | decide +kernel | (unfold String.splitOn; simp +decide [String.splitOnAux])) (by decide +kernel) (by kernel_rfl)
theorem args_setit_iter (a : Value) : argsOk "set_iterator.__iter__" ⟨[a], []⟩ := by
  unfold argsOk; rw [signature?_of (id := "set_iterator.__iter__") (n := ['_', '_', 'r', 'e', 't', 'i', '_', '_']) (o := ['r', 'o', 't', 'a', 'r', 'e', 't', 'i', '_', 't', 'e', 's']) (by kernel_rfl) owner_setit]; kernel_rfl
theorem entry_set_iter : entryFor table "set.__iter__" = some Builtin.«frozenset.__iter__» :=
  entryFor_alias (id' := "frozenset.__iter__") (by kernel_rfl) rfl (by decide +kernel) (by kernel_rfl)
theorem set_len : typeLookup (.type "set") "__len__" = pure (some (.builtin "set.__len__")) := by rw [typeLookup_type, builtinLookup_eq_fast]; kernel_rfl

theorem erase_perm {α : Type} : ∀ (l : List α) (i : Nat) (x : α), l[i]? = some x → (x :: l.eraseIdx i).Perm l
  | [], i, x, h => by cases h
  | y :: l, 0, x, h => by cases h; exact .refl _
  | y :: l, i + 1, x, h => by
    have := erase_perm l i x h
    exact (List.Perm.swap y x _).trans (this.cons y)

theorem pick_go {α : Type} (next : Nat → Nat) : ∀ (fuel k : Nat) (left : List α) (out : Array α), left.length = fuel → (pickOrder.go next fuel k left out).toList.Perm (out.toList ++ left)
  | 0, k, left, out, h => by rw [List.length_eq_zero_iff.mp h, List.append_nil]; exact .refl _
  | fuel + 1, k, left, out, h => by
    unfold pickOrder.go
    have hlt : next k % left.length < left.length := Nat.mod_lt _ (by omega)
    have e : left[next k % left.length]? = some left[next k % left.length] := List.getElem?_eq_getElem hlt
    rw [e]
    dsimp only
    refine (pick_go next fuel (k + 1) _ _ (by rw [List.length_eraseIdx_of_lt hlt]; omega)).trans ?_
    rw [Array.toList_push, List.append_assoc]
    exact (erase_perm _ _ _ e).append_left _
theorem pick_perm {α : Type} (next : Nat → Nat) (xs : Array α) : (pickOrder next xs).toList.Perm xs.toList := by
  have := pick_go next xs.size 0 xs.toList #[] (by simp)
  simpa [pickOrder] using this

section
variable {prog : Program} {w : World} {A : Around} {E : Value → Shared → Prop} {s : Shared}
theorem choose_ {src : Source} {n : Nat} {Q : Nat → Shared → Prop} (hn : n ≠ 0) (h : ∀ i d, i < n → Q i { s with drawn := d }) : wpAny (model prog w) A (choose src n) Q E s := by
  intro Γ p hΓ
  unfold choose
  rw [Sem.wp_choose]
  refine ⟨hn, ?_⟩
  rw [Sem.wp_pure]
  exact h _ _ (Nat.mod_lt _ (Nat.pos_of_ne_zero hn))

theorem draw_ {α : Type} : ∀ (n : Nat) (xs : List α) (s : Shared) (Q : List α → Shared → Prop), xs.length = n → (∀ ys d, ys.Perm xs → Q ys { s with drawn := d }) → wpAny (model prog w) A (drawOrder n xs) Q E s
  | 0, xs, s, Q, hn, h => by
    rw [List.length_eq_zero_iff.mp hn] at h ⊢
    unfold drawOrder
    exact wpAny_pure (h [] s.drawn (.refl _))
  | n + 1, [], s, Q, hn, h => by cases hn
  | n + 1, x :: xs, s, Q, hn, h => by
    unfold drawOrder
    refine wpAny_bind (choose_ (by simp) fun i d hi => ?_)
    have e : (x :: xs)[i]? = some (x :: xs)[i] := List.getElem?_eq_getElem hi
    rw [e]
    dsimp only
    refine wpAny_bind (draw_ n _ _ _ (by rw [List.length_eraseIdx_of_lt hi]; omega) fun ys d' hp => ?_)
    exact wpAny_pure (h _ d' ((hp.cons _).trans (erase_perm _ _ _ e)))

/-- whether the order of sets is laid down by a text -/
def byT (w : World) : Bool := w.params.followText "set-order"
theorem byT_ {Q : Bool → Shared → Prop} (h : Q (byT w) s) : wpAny (model prog w) A setsByText Q E s := wpAny_bind (wpAny_askSetting (wpAny_pure h))
end

def slotAt (place : Array Nat) : Nat → Nat
  | 0 => 0
  | i + 1 => place.getD i 0 + 1
theorem below_slotAt {place : Array Nat} (hr : Rise place) : ∀ (i : Nat), i ≤ place.size → SetTable.below place (slotAt place i) = i
  | 0, _ => by
    obtain ⟨h1, h2, h3⟩ := below_spec (j := 0) hr
    show SetTable.below place 0 = 0
    rcases Nat.eq_zero_or_pos (SetTable.below place 0) with h | h
    · exact h
    · have := h2 0 (by omega) h; omega
  | i + 1, hi => by
    obtain ⟨h1, h2, h3⟩ := below_spec (j := slotAt place (i + 1)) hr
    have e : slotAt place (i + 1) = place[i] + 1 := by show place.getD i 0 + 1 = _; rw [Array.getD_eq_getD_getElem?, Array.getElem?_eq_getElem (by omega)]; rfl
    rw [e] at h1 h2 h3 ⊢
    rcases Nat.lt_trichotomy (SetTable.below place (place[i] + 1)) (i + 1) with h | h | h
    · have := h3 i (by omega) (by omega); omega
    · exact h
    · have h4 := h2 (i + 1) (by omega) h
      have h5 := hr i (i + 1) (by omega) (by omega) (by omega)
      omega

/-- a set that stands, as the walk sees it -/
structure SetS (w : World) (h : Heap) (a : Addr) (es : Array (Int × Value)) (ep : Nat) (t : SetTable) : Prop where
  it : ∃ o, h.get? a = some o ∧ o.ExactSet ∧ o.data = .set es ep t
  fits : t.fits es.size = true
  tab : TabOk (!byT w) t

/-- what the first field of a set's iterator says -/
def FirstOk (w : World) (a : Addr) (es : Array (Int × Value)) (ep : Nat) (t : SetTable) (I T : Addr) (ord : List Value) (h : Heap) (i : Nat) (first : Value) : Prop :=
  (byT w = true ∧ (∃ k : Nat, first = rawInt k) ∧ ord = (pickOrder (w.params.setOrder a ep) es).toList.map (·.2)) ∨
  (byT w = false ∧ (!t.plain && decide (es.size > 1)) = false ∧ first = rawInt (slotAt t.place i : Nat) ∧ ord = es.toList.map (·.2)) ∨
  (∃ js : List Nat, first = .ref T ∧ T ≠ I ∧ h.get? T = some { cls := .type "tuple", data := .seq (js.map fun j => rawInt (j : Nat)).toArray } ∧ ord.length = js.length ∧ ∀ (k j : Nat), js[k]? = some j → ∃ e, es[j]? = some e ∧ ord[k]? = some e.2)

def SetIt (w : World) (a : Addr) (es : Array (Int × Value)) (ep : Nat) (t : SetTable) (I T : Addr) (ord : List Value) (i : Nat) (h : Heap) : Prop :=
  SetS w h a es ep t ∧ ∃ first, h.get? I = some { cls := .type "set_iterator", data := .fields #[first, rawInt (i : Nat), .ref a, rawInt (es.size : Nat), rawInt (ep : Nat)] } ∧ FirstOk w a es ep t I T ord h i first

section
variable {prog : Program} {w : World} {A : Around} {E : Value → Shared → Prop} {s : Shared} {a I T : Addr} {es : Array (Int × Value)} {ep : Nat} {t : SetTable} {ord : List Value} {i : Nat}

theorem stopIt {Q : PySem.Fin → Shared → Prop} (hh : A.handled = none) (h : ∀ h' e, (∀ b o, s.heap.get? b = some o → h'.get? b = some o) → Shared.TypeIs { s with heap := h' } (.ref e) "StopIteration" → E (.ref e) { s with heap := h' }) :
    wpAny (model prog w) A (do raiseNew (← newExc (.type "StopIteration") [])) Q E s := by
  show wpAny _ _ (newExc (.type "StopIteration") [] >>= _) _ _ _
  refine wpAny_bind ?_
  simp only [newExc, newTuple]
  refine wpAny_bind (wpAny_newObj_type ?_ (by size_fits))
  refine wpAny_bind (m := firstArgMember _ _) (wpAny_of_eq (a := Value.none) (by first | rfl | (simp only [firstArgMember]; rfl)) ?_)
  refine wpAny_newObj_type ?_ (by size_fits)
  simp only [raiseNew]
  refine wpAny_bind (wpAny_handled ?_)
  rw [hh]
  refine wpAny_bind (wpAny_pure (wpAny_throw ?_))
  exact h _ _ (fun b o e => Heap.get?_push_of_some _ (Heap.get?_push_of_some _ e)) ⟨_, Heap.get?_push_size _ rfl, rfl⟩

theorem setItem {Q : Option Value → Shared → Prop} {v : Value} (x : SetIt w a es ep t I T ord i s.heap) (hi : ord[i]? = some v) (hIa : I ≠ a)
    (hQ : ∀ h', SetIt w a es ep t I T ord (i + 1) h' → (∀ b o, b ≠ I → s.heap.get? b = some o → h'.get? b = some o) → Q (some v) { s with heap := h' }) : wpAny (model prog w) A (pyNext (.ref I)) Q E s := by
  obtain ⟨⟨⟨o, ho, hex, hd⟩, hf, ht⟩, first, hI, hF⟩ := id x
  have hT : s.TypeIs (.ref I) "set_iterator" := ⟨_, hI, rfl⟩
  have hpl : t.place.size = es.size := by
    unfold SetTable.fits at hf; simp only [Bool.and_eq_true, beq_iff_eq] at hf; exact hf.1
  unfold pyNext
  refine wpAny_bind (wpAny_attempt (wpAny_callSpecial?_slot (name := Str.ofString "__next__") hT slot_setit_next (wpAny_call_entry slot_setit_next hT entry_setit_next ?_ (args_setit_next _))))
  unfold Builtin.«set_iterator.__next__»
  refine wpAny_bind (m := slotArgs _ _ _) (wpAny_pure ?_)
  refine wpAny_bind (wpAny_fieldsOf hI rfl ?_)
  dsimp only [rawInt]
  show wpAny _ _ (setEntries a >>= _) _ _ _
  refine wpAny_bind (wpAny_bind (wpAny_setState_of ho hd hf (wpAny_pure ?_)))
  rw [if_neg (by simp)]
  have keep : ∀ (h' : Heap), (∀ b o, b ≠ I → s.heap.get? b = some o → h'.get? b = some o) → SetS w h' a es ep t := fun h' k => ⟨⟨o, k _ _ (Ne.symm hIa) ho, hex, hd⟩, hf, ht⟩
  -- the two fields
  have two : ∀ (nx : Value) (E' : Value → Shared → Prop), FirstOk w a es ep t I T ord s.heap (i + 1) nx → wpAny (model prog w) A.in1 (do setField (.ref I) 0 nx; setField (.ref I) 1 (rawInt ((i : Int) + 1)); ret v)
      (fun (fin : PySem.Fin) s' => ∃ r, fin = .done (.ret r) ∧ wpAny (model prog w) A (pure (some r)) Q E s') E' s := by
    intro nx E' hnx
    refine wpAny_bind (wpAny_setField hI rfl (by simp) ?_)
    have g1 := Heap.get?_update_self (Obj.mapFields (·.setIfInBounds 0 nx)) hI rfl
    refine wpAny_bind (wpAny_setField g1 rfl (by simp [Obj.mapFields]) ?_)
    have g2 := Heap.get?_update_self (Obj.mapFields (·.setIfInBounds 1 (rawInt ((i : Int) + 1)))) g1 rfl
    have kk : ∀ b o, b ≠ I → s.heap.get? b = some o → ((s.heap.update I (Obj.mapFields (·.setIfInBounds 0 nx))).update I (Obj.mapFields (·.setIfInBounds 1 (rawInt ((i : Int) + 1))))).get? b = some o :=
      fun b o n e => (Heap.get?_update_other _ _ (Ne.symm n)).trans ((Heap.get?_update_other _ _ (Ne.symm n)).trans e)
    refine wpAny_pure ⟨_, rfl, wpAny_pure (hQ _ ⟨keep _ kk, nx, ?_, ?_⟩ kk)⟩
    · rw [g2]; simp [Obj.mapFields, rawInt]
    · rcases hnx with h | h | ⟨js, h1, h2, h3, h4⟩
      · exact .inl h
      · exact .inr (.inl h)
      · exact .inr (.inr ⟨js, h1, h2, kk _ _ h2 h3, h4⟩)
  have one : ∀ (E' : Value → Shared → Prop), FirstOk w a es ep t I T ord s.heap (i + 1) first → wpAny (model prog w) A.in1 (do setField (.ref I) 1 (rawInt ((i : Int) + 1)); ret v)
      (fun (fin : PySem.Fin) s' => ∃ r, fin = .done (.ret r) ∧ wpAny (model prog w) A (pure (some r)) Q E s') E' s := by
    intro E' hnx
    refine wpAny_bind (wpAny_setField hI rfl (by simp) ?_)
    have g1 := Heap.get?_update_self (Obj.mapFields (·.setIfInBounds 1 (rawInt ((i : Int) + 1)))) hI rfl
    have kk : ∀ b o, b ≠ I → s.heap.get? b = some o → (s.heap.update I (Obj.mapFields (·.setIfInBounds 1 (rawInt ((i : Int) + 1))))).get? b = some o :=
      fun b o n e => (Heap.get?_update_other _ _ (Ne.symm n)).trans e
    refine wpAny_pure ⟨_, rfl, wpAny_pure (hQ _ ⟨keep _ kk, first, ?_, ?_⟩ kk)⟩
    · rw [g1]; simp [Obj.mapFields, rawInt]
    · rcases hnx with h | h | ⟨js, h1, h2, h3, h4⟩
      · exact .inl h
      · exact .inr (.inl h)
      · exact .inr (.inr ⟨js, h1, h2, kk _ _ h2 h3, h4⟩)
  rcases hF with ⟨hb, ⟨k, rfl⟩, ho'⟩ | ⟨hb, hdr, rfl, ho'⟩ | ⟨js, rfl, hTI, hTt, hl, hjs⟩
  · dsimp only [rawInt]
    unfold setNext
    refine wpAny_bind (wpAny_bind (wpAny_setState_of ho hd hf ?_))
    dsimp only
    refine wpAny_bind (byT_ ?_)
    rw [hb, if_pos rfl, if_neg (by simp)]
    refine wpAny_bind ?_
    unfold setWalk
    refine wpAny_bind (wpAny_setState_of ho hd hf ?_)
    dsimp only
    refine wpAny_bind (byT_ ?_)
    rw [hb, if_pos rfl]
    refine wpAny_bind (wpAny_askSetting (wpAny_pure (wpAny_pure ?_)))
    rw [ho', List.getElem?_map] at hi
    have e : ((pickOrder (w.params.setOrder a ep) es)[i]?).map (fun e => (e.2, k)) = some (v, k) := by
      rw [← Array.getElem?_toList]
      cases q : (pickOrder (w.params.setOrder a ep) es).toList[i]? with
      | none => rw [q] at hi; cases hi
      | some e => rw [q] at hi; cases hi; rfl
    simp only [Int.toNat_natCast]
    rw [show ((pickOrder ((model prog w).w.params.setOrder a ep) es)[i]?).map (fun e => (e.2, k)) = some (v, k) from e]
    exact two _ _ (.inl ⟨hb, ⟨k, rfl⟩, ho'⟩)
  · dsimp only [rawInt]
    unfold setNext
    refine wpAny_bind (wpAny_bind (wpAny_setState_of ho hd hf ?_))
    dsimp only
    refine wpAny_bind (byT_ ?_)
    rw [hb, if_neg (by decide)]
    show wpAny _ _ (if (!t.plain && decide (es.size > 1)) = true then _ else _) _ _ _
    rw [hdr, if_neg (by decide)]
    refine wpAny_bind (m := ite _ _ _) (wpAny_ite ?_)
    rw [show (!t.led && !es.isEmpty) = false from by rw [ht.led, hb]; rfl]
    rw [if_neg (by decide)]
    refine wpAny_pure (wpAny_pure ?_)
    rw [ho', List.getElem?_map] at hi
    have hlt : i < es.size := by
      rcases Nat.lt_or_ge i es.size with h | h
      · exact h
      · rw [List.getElem?_eq_none (by simpa using h)] at hi; cases hi
    have e1 : es[i]? = some es[i] := Array.getElem?_eq_getElem hlt
    have e2 : t.place[i]? = some (t.place[i]'(by omega)) := Array.getElem?_eq_getElem (by omega)
    have ev : es[i].2 = v := by
      rw [List.getElem?_eq_getElem (by simpa using hlt)] at hi
      simpa using hi
    simp only [Int.toNat_natCast]
    rw [below_slotAt ht.rise i (by omega), e1, e2]
    dsimp only
    rw [ev]
    refine two _ _ (.inr (.inl ⟨hb, hdr, ?_, ho'⟩))
    show rawInt _ = rawInt _
    congr 1
    show ((_ : Nat) : Int) = ((t.place.getD i 0 + 1 : Nat) : Int)
    rw [Array.getD_eq_getD_getElem?, e2]; rfl
  · dsimp only
    refine wpAny_bind (wpAny_seqItems hTt rfl ?_)
    dsimp only
    have hlt : i < js.length := by
      rcases Nat.lt_or_ge i ord.length with h | h
      · omega
      · rw [List.getElem?_eq_none h] at hi; cases hi
    obtain ⟨e, he1, he2⟩ := hjs i js[i] (List.getElem?_eq_getElem hlt)
    rw [hi] at he2
    cases he2
    have e1 : (js.map fun j => rawInt (j : Nat)).toArray[((i : Nat) : Int).toNat]? = some (.int (js[i] : Nat) 0) := by
      rw [Int.toNat_natCast, List.getElem?_toArray, List.getElem?_map, List.getElem?_eq_getElem hlt]; rfl
    rw [e1]
    dsimp only
    unfold setNextDrawn
    refine wpAny_bind (wpAny_bind (wpAny_setState_of ho hd hf ?_))
    dsimp only
    rw [if_neg (by simp), Int.toNat_natCast, he1]
    exact wpAny_pure (one _ (.inr (.inr ⟨js, rfl, hTI, hTt, hl, hjs⟩)))

theorem setEnd {Q : Option Value → Shared → Prop} (x : SetIt w a es ep t I T ord ord.length s.heap) (hp : ord.length = es.size) (hIa : I ≠ a) (hh : A.handled = none)
    (hQ : ∀ h', (∀ b o, b ≠ I → s.heap.get? b = some o → h'.get? b = some o) → Q none { s with heap := h' }) : wpAny (model prog w) A (pyNext (.ref I)) Q E s := by
  obtain ⟨⟨⟨o, ho, hex, hd⟩, hf, ht⟩, first, hI, hF⟩ := id x
  have hT : s.TypeIs (.ref I) "set_iterator" := ⟨_, hI, rfl⟩
  have hpl : t.place.size = es.size := by
    unfold SetTable.fits at hf; simp only [Bool.and_eq_true, beq_iff_eq] at hf; exact hf.1
  unfold pyNext
  refine wpAny_bind (wpAny_attempt (wpAny_callSpecial?_slot (name := Str.ofString "__next__") hT slot_setit_next (wpAny_call_entry slot_setit_next hT entry_setit_next ?_ (args_setit_next _))))
  unfold Builtin.«set_iterator.__next__»
  refine wpAny_bind (m := slotArgs _ _ _) (wpAny_pure ?_)
  refine wpAny_bind (wpAny_fieldsOf hI rfl ?_)
  dsimp only [rawInt]
  show wpAny _ _ (setEntries a >>= _) _ _ _
  refine wpAny_bind (wpAny_bind (wpAny_setState_of ho hd hf (wpAny_pure ?_)))
  rw [if_neg (by simp)]
  have hh' : A.in1.handled = none := hh
  have fin : ∀ (s' : Shared), s'.gens = s.gens → s'.drawn = s.drawn → s'.toks = s.toks → s'.os = s.os → (∀ b o, b ≠ I → s.heap.get? b = some o → s'.heap.get? b = some o) →
      wpAny (model prog w) A.in1 (do raiseNew (← newExc (.type "StopIteration") []))
        (fun (fin : PySem.Fin) s' => ∃ r, fin = .done (.ret r) ∧ wpAny (model prog w) A (pure (some r)) Q E s')
        (fun e s' => wpAny (model prog w) A (do if ← isInstance e (.type "StopIteration") then pure none else throw e) Q E s') s' := by
    intro s' q1 q2 q3 q4 k
    refine stopIt hh' fun h' e k' te => ?_
    refine wpAny_bind (wpAny_isInstance (T := "StopIteration") (b := true) te isSubtype_stop ?_)
    obtain ⟨hp', g', d', t', o'⟩ := s'
    dsimp only at q1 q2 q3 q4
    subst q1; subst q2; subst q3; subst q4
    exact wpAny_pure (hQ _ fun b o n e => k' _ _ (k _ _ n e))
  have e2 : ∀ (hX : Heap), hX.get? I = s.heap.get? I → (∀ b o, b ≠ I → s.heap.get? b = some o → hX.get? b = some o) → wpAny (model prog w) A.in1 (do setField (.ref I) 2 .none; raiseNew (← newExc (.type "StopIteration") []))
      (fun (fin : PySem.Fin) s' => ∃ r, fin = .done (.ret r) ∧ wpAny (model prog w) A (pure (some r)) Q E s')
        (fun e s' => wpAny (model prog w) A (do if ← isInstance e (.type "StopIteration") then pure none else throw e) Q E s') { s with heap := hX } := by
    intro hX hXI k
    rw [hI] at hXI
    refine wpAny_bind (wpAny_setField (o := _) hXI rfl (by simp) ?_)
    exact fin _ rfl rfl rfl rfl fun b o n e => (Heap.get?_update_other _ _ (Ne.symm n)).trans (k _ _ n e)
  rcases hF with ⟨hb, ⟨k, rfl⟩, ho'⟩ | ⟨hb, hdr, rfl, ho'⟩ | ⟨js, rfl, hTI, hTt, hl, hjs⟩
  · dsimp only [rawInt]
    unfold setNext
    refine wpAny_bind (wpAny_bind (wpAny_setState_of ho hd hf ?_))
    dsimp only
    refine wpAny_bind (byT_ ?_)
    rw [hb, if_pos rfl, if_neg (by simp)]
    refine wpAny_bind ?_
    unfold setWalk
    refine wpAny_bind (wpAny_setState_of ho hd hf ?_)
    dsimp only
    refine wpAny_bind (byT_ ?_)
    rw [hb, if_pos rfl]
    refine wpAny_bind (wpAny_askSetting (wpAny_pure (wpAny_pure ?_)))
    have e : ((pickOrder (w.params.setOrder a ep) es)[ord.length]?).map (fun e => (e.2, k)) = none := by
      rw [← Array.getElem?_toList, List.getElem?_eq_none]; rfl
      have := congrArg List.length ho'
      rw [List.length_map] at this
      omega
    simp only [Int.toNat_natCast]
    rw [show ((pickOrder ((model prog w).w.params.setOrder a ep) es)[ord.length]?).map (fun e => (e.2, k)) = none from e]
    exact e2 _ rfl fun _ _ _ e => e
  · dsimp only [rawInt]
    unfold setNext
    refine wpAny_bind (wpAny_bind (wpAny_setState_of ho hd hf ?_))
    dsimp only
    refine wpAny_bind (byT_ ?_)
    rw [hb, if_neg (by decide)]
    show wpAny _ _ (if (!t.plain && decide (es.size > 1)) = true then _ else _) _ _ _
    rw [hdr, if_neg (by decide)]
    refine wpAny_bind (m := ite _ _ _) (wpAny_ite ?_)
    rw [show (!t.led && !es.isEmpty) = false from by rw [ht.led, hb]; rfl]
    rw [if_neg (by decide)]
    refine wpAny_pure (wpAny_pure ?_)
    simp only [Int.toNat_natCast]
    rw [below_slotAt ht.rise _ (by omega), Array.getElem?_eq_none (by omega)]
    exact e2 _ rfl fun _ _ _ e => e
  · dsimp only
    refine wpAny_bind (wpAny_seqItems hTt rfl ?_)
    dsimp only
    have e1 : (js.map fun j => rawInt (j : Nat)).toArray[((ord.length : Nat) : Int).toNat]? = none := by
      rw [Int.toNat_natCast, List.getElem?_toArray, List.getElem?_map, List.getElem?_eq_none (by omega)]; rfl
    rw [e1]
    dsimp only
    refine wpAny_bind (wpAny_setField hI rfl (by simp) ?_)
    have g1 := Heap.get?_update_self (Obj.mapFields (·.setIfInBounds 0 (rawInt 0))) hI rfl
    refine wpAny_bind (wpAny_setField g1 rfl (by simp [Obj.mapFields]) ?_)
    exact fin _ rfl rfl rfl rfl fun b o n e => (Heap.get?_update_other _ _ (Ne.symm n)).trans ((Heap.get?_update_other _ _ (Ne.symm n)).trans e)
end

section
variable {prog : Program} {w : World} {A : Around} {E : Value → Shared → Prop} {s : Shared} {a I T : Addr} {es : Array (Int × Value)} {ep : Nat} {t : SetTable} {ord : List Value}

theorem range_items (es : Array (Int × Value)) (js : List Nat) (hp : js.Perm (List.range es.size)) :
    ∃ ord : List Value, ord.Perm (es.toList.map (·.2)) ∧ ord.length = js.length ∧ ∀ (k j : Nat), js[k]? = some j → ∃ e, es[j]? = some e ∧ ord[k]? = some e.2 := by
  refine ⟨js.map fun j => (es.toList.map (·.2)).getD j .none, ?_, by simp, fun k j hk => ?_⟩
  · refine (hp.map _).trans ?_
    have e : (List.range es.size).map (fun j => (es.toList.map (·.2)).getD j .none) = es.toList.map (·.2) := by
      apply List.ext_getElem
      · simp
      · intro i h1 h2
        simp at h1
        simp [h1]
    rw [e]
  · have hj : j < es.size := by
      have := hp.mem_iff.mp (List.mem_of_getElem? hk)
      simpa using this
    refine ⟨es[j], Array.getElem?_eq_getElem hj, ?_⟩
    rw [List.getElem?_map, hk]
    simp [hj]

theorem pyIterSet {Q : Value → Shared → Prop} (x : SetS w s.heap a es ep t) (hz : es.size < 100000)
    (h : ∀ s' it T ord, Grow s s' → s.heap.get? it = none → (T = it ∨ (s'.heap.get? T ≠ none ∧ s.heap.get? T = none)) → SetIt w a es ep t it T ord 0 s'.heap → ord.Perm (es.toList.map (·.2)) → Q (.ref it) s') : wpAny (model prog w) A (pyIter (.ref a)) Q E s := by
  obtain ⟨⟨o, ho, hex, hd⟩, hf, ht⟩ := id x
  have hT : s.TypeIs (.ref a) "set" := ⟨o, ho, hex.1⟩
  refine wpAny_pyIter_slot hT F.slot_set_iter (wpAny_call_entry F.slot_set_iter hT entry_set_iter ?_ (F.args_set_iter_1 _))
  unfold Builtin.«frozenset.__iter__»
  refine wpAny_bind (m := Builtin.Frozenset.slot0 _ _) (wpAny_pure ?_)
  refine wpAny_bind (m := Builtin.Frozenset.sizeOf a) (wpAny_bind (wpAny_bind (wpAny_setState_of ho hd hf (wpAny_pure (wpAny_pure ?_)))))
  dsimp only
  refine wpAny_bind (m := setDrawn a) ?_
  unfold setDrawn
  refine wpAny_bind (wpAny_setState_of ho hd hf ?_)
  dsimp only
  refine wpAny_bind (byT_ (wpAny_pure ?_))
  show wpAny _ _ (if (!byT w && (!t.plain && decide (es.size > 1))) = true then _ else _) _ _ _
  cases hm : (!byT w && (!t.plain && decide (es.size > 1))) with
  | true =>
    rw [if_pos rfl]
    refine wpAny_bind (draw_ es.size _ _ _ (by simp) fun js d hjs => ?_)
    obtain ⟨ord, p1, p2, p3⟩ := range_items es js hjs
    refine wpAny_bind (wpAny_newTuple ?_ (by rw [List.length_map, hjs.length_eq, List.length_range, sizeLine_eq]; omega))
    have hT1 : (s.heap.push { cls := .type "tuple", data := .seq (js.map fun (i : Nat) => rawInt i).toArray }).get? s.heap.objs.size = some { cls := .type "tuple", data := .seq (js.map fun (i : Nat) => rawInt i).toArray } := Heap.get?_push_size _ rfl
    have ho' : (s.heap.push { cls := .type "tuple", data := .seq (js.map fun (i : Nat) => rawInt i).toArray }).get? a = some o := Heap.get?_push_of_some _ ho
    refine wpAny_bind (m := setEpoch a) (wpAny_bind (wpAny_setState_of ho' hd hf (wpAny_pure ?_)))
    refine wpAny_bind (wpAny_newObj_type (wpAny_pure ⟨_, rfl, "set_iterator", _, ⟨_, Heap.get?_push_size _ rfl, rfl⟩, slot_setit_next.lookup, ?_⟩))
    refine h _ _ s.heap.objs.size ord ⟨fun b o e => Heap.get?_push_of_some _ (Heap.get?_push_of_some _ e), rfl, rfl⟩ ?_ (.inr ⟨?_, ?_⟩) ⟨⟨⟨o, Heap.get?_push_of_some _ ho', hex, hd⟩, hf, ht⟩, _, Heap.get?_push_size _ rfl, .inr (.inr ⟨js, rfl, ?_, Heap.get?_push_of_some _ hT1, p2, p3⟩)⟩ p1
    · cases q : s.heap.get? (s.heap.push { cls := .type "tuple", data := .seq (js.map fun (i : Nat) => rawInt i).toArray }).objs.size with
      | none => rfl
      | some o => have := Heap.lt_size q; rw [Heap.size_push] at this; exact absurd this (Nat.not_lt.mpr (Nat.le_succ _))
    · show ((s.heap.push _).push _).get? s.heap.objs.size ≠ none
      rw [Heap.get?_push_of_some _ hT1]; intro c; cases c
    · cases q : s.heap.get? s.heap.objs.size with
      | none => rfl
      | some o => exact absurd (Heap.lt_size q) (Nat.lt_irrefl _)
    · rw [Heap.size_push]; exact Nat.ne_of_lt (Nat.lt_succ_self _)
  | false =>
    rw [if_neg (by decide)]
    refine wpAny_bind (wpAny_pure ?_)
    refine wpAny_bind (m := setEpoch a) (wpAny_bind (wpAny_setState_of ho hd hf (wpAny_pure ?_)))
    refine wpAny_bind (wpAny_newObj_type (wpAny_pure ⟨_, rfl, "set_iterator", _, ⟨_, Heap.get?_push_size _ rfl, rfl⟩, slot_setit_next.lookup, ?_⟩))
    have nI : s.heap.get? s.heap.objs.size = none := by
      cases q : s.heap.get? s.heap.objs.size with
      | none => rfl
      | some o => exact absurd (Heap.lt_size q) (Nat.lt_irrefl _)
    cases hb : byT w with
    | true =>
      exact h _ _ s.heap.objs.size ((pickOrder (w.params.setOrder a ep) es).toList.map (·.2)) ⟨fun b o e => Heap.get?_push_of_some _ e, rfl, rfl⟩ nI (.inl rfl) ⟨⟨⟨o, Heap.get?_push_of_some _ ho, hex, hd⟩, hf, ht⟩, _, Heap.get?_push_size _ rfl, .inl ⟨hb, ⟨0, rfl⟩, rfl⟩⟩ ((pick_perm _ _).map _)
    | false =>
      rw [hb] at hm
      exact h _ _ s.heap.objs.size (es.toList.map (·.2)) ⟨fun b o e => Heap.get?_push_of_some _ e, rfl, rfl⟩ nI (.inl rfl) ⟨⟨⟨o, Heap.get?_push_of_some _ ho, hex, hd⟩, hf, ht⟩, _, Heap.get?_push_size _ rfl, .inr (.inl ⟨hb, by simpa using hm, rfl, rfl⟩)⟩ (.refl _)

theorem SetIt.keep {i : Nat} {h h' : Heap} (x : SetIt w a es ep t I T ord i h) (k : ∀ b ∈ [I, a, T], ∀ o, h.get? b = some o → h'.get? b = some o) : SetIt w a es ep t I T ord i h' := by
  obtain ⟨⟨⟨o, ho, r⟩, hf, ht⟩, first, hI, hF⟩ := x
  refine ⟨⟨⟨o, k a (by simp) _ ho, r⟩, hf, ht⟩, first, k I (by simp) _ hI, ?_⟩
  rcases hF with h | h | ⟨js, h1, h2, h3, h4⟩
  · exact .inl h
  · exact .inr (.inl h)
  · exact .inr (.inr ⟨js, h1, h2, k T (by simp) _ h3, h4⟩)

theorem walksSet (hh : A.handled = none) (hIa : I ≠ a) (hn : ord.length = es.size) : Walks prog w A I [I, a, T] [I] ord.length (fun i v => ord[i]? = some v) (fun i h => SetIt w a es ep t I T ord i h) where
  sub := fun b hb => by simp at hb; simp [hb]
  frame := fun _ _ _ st hk => st.keep hk
  item := fun i s Q E hi st hQ => by
    refine setItem st (v := ord[i]) (List.getElem?_eq_getElem hi) hIa fun h' x k => ?_
    exact hQ _ h' s.toks (List.getElem?_eq_getElem hi) x fun b o hb e => k b o (fun h => hb (by simp [h])) e
  done := fun s Q E st hQ => setEnd st hn hIa hh fun h' k => hQ h' s.toks fun b o hb e => k b o (fun h => hb (by simp [h])) e
  self := fun _ s Q E st hQ => by
    obtain ⟨_, first, hI, _⟩ := st
    have hT : s.TypeIs (.ref I) "set_iterator" := ⟨_, hI, rfl⟩
    refine wpAny_pyIter_slot hT slot_setit_iter (wpAny_call_entry slot_setit_iter hT entry_setit_iter ?_ (args_setit_iter _))
    show wpAny _ _ (ret (.ref I)) _ _ s
    exact wpAny_pure ⟨_, rfl, "set_iterator", _, hT, slot_setit_next.lookup, hQ⟩

theorem collectSet {Q : List Value → Shared → Prop} (hh : A.handled = none) (x : SetS w s.heap a es ep t) (hz : es.size < 100000)
    (hQ : ∀ s' ord, Grow s s' → ord.Perm (es.toList.map (·.2)) → Q ord s') : wpAny (model prog w) A (collect (.ref a)) Q E s := by
  obtain ⟨⟨o, ho, hex, hd⟩, hf, ht⟩ := id x
  have haS : a < s.heap.objs.size := Heap.lt_size ho
  unfold collect
  refine wpAny_bind (wpAny_runValue (codeAny_builtin F.entry_proto_collect ?_))
  rw [Around.under_plainId F.plain_proto_collect _]
  show wpAny _ A.in1 (newList [] >>= fun l => again (.builtin "list.__iadd__" ⟨[l, .ref a], []⟩)) _ _ s
  refine wpAny_bind (wpAny_newObj_type ?_)
  refine wpAny_pure ⟨plainId_quiet F.plain_list_iadd _, codeAny_builtin F.entry_list_iadd ?_⟩
  rw [Around.under_plainId F.plain_list_iadd _]
  have hS₁ : (s.heap.push { cls := .type "list", data := .seq ([] : List Value).toArray }).get? s.heap.objs.size = some { cls := .type "list", data := .seq ([] : List Value).toArray } := Heap.get?_push_size _ rfl
  have ho₁ : (s.heap.push { cls := .type "list", data := .seq ([] : List Value).toArray }).get? a = some o := Heap.get?_push_of_some _ ho
  have g₁ : Grow s { s with heap := s.heap.push { cls := .type "list", data := .seq ([] : List Value).toArray } } := ⟨fun b o e => Heap.get?_push_of_some _ e, rfl, rfl⟩
  show wpAny _ A.in1 (Builtin.List.listExtendWith (.ref s.heap.objs.size) (.ref a) (.ref s.heap.objs.size)) _ _ { s with heap := s.heap.push { cls := .type "list", data := .seq ([] : List Value).toArray } }
  generalize hs1 : ({ s with heap := s.heap.push { cls := .type "list", data := .seq ([] : List Value).toArray } } : Shared) = s1 at g₁
  have hS1 : s1.heap.get? s.heap.objs.size = some { cls := .type "list", data := .seq ([] : List Value).toArray } := by rw [← hs1]; exact hS₁
  have x1 : SetS w s1.heap a es ep t := ⟨⟨o, by rw [← hs1]; exact ho₁, hex, hd⟩, hf, ht⟩
  have hT1 : s1.TypeIs (.ref a) "set" := ⟨o, by rw [← hs1]; exact ho₁, hex.1⟩
  unfold Builtin.List.listExtendWith
  refine wpAny_bind (wpAny_typeOf hT1 ?_)
  have h1 : Builtin.List.listSameRef (.ref s.heap.objs.size) (.ref a) = false := by simp [Builtin.List.listSameRef]; exact Nat.ne_of_gt haS
  rw [if_neg (by rw [h1]; decide)]
  refine wpAny_bind (pyIterSet x1 hz fun s2 I T ord g2 nI hTI x2 hp => ?_)
  have hT2 : s2.TypeIs (.ref a) "set" := ⟨o, g2.keep _ _ (by rw [← hs1]; exact ho₁), hex.1⟩
  have hIS : I ≠ s.heap.objs.size := fun e => by rw [e, hS1] at nI; cases nI
  have hIa : I ≠ a := fun e => by rw [e] at nI; rw [← hs1] at nI; rw [ho₁] at nI; cases nI
  have hSf : s.heap.objs.size ∉ [I, a, T] := by
    simp only [List.mem_cons, List.not_mem_nil, or_false, not_or]
    refine ⟨Ne.symm hIS, Nat.ne_of_gt haS, fun e => ?_⟩
    rcases hTI with rfl | ⟨_, n⟩
    · exact hIS e.symm
    · rw [← e, hS1] at n; cases n
  refine wpAny_bind (wpAny_holding ?_)
  unfold Builtin.List.listLengthHint
  refine wpAny_bind (wpAny_specialOf hT2 set_len ?_)
  (generalize hid : ("set.__len__" : String) = id0; (fail_if_success (clear hid id0)); wp_delta; rw [show splitId id0 = some ("set", "__len__") from by subst hid; decide +kernel]; subst hid)
  refine wpAny_bind (wpAny_isInstance (b := true) hT2 sub_set_self ?_)
  show wpAny _ A.in1 (typeOf (.ref a) >>= _) _ _ _
  refine wpAny_bind (wpAny_typeOf hT2 ?_)
  refine wpAny_pure ?_
  rw [if_pos (by decide)]
  show wpAny _ A.in1 (rule "list.extend.makes-room" >>= fun _ => Builtin.List.listTouch (.ref s.heap.objs.size) >>= fun _ =>
    again (.builtin "list.extend.loop" ⟨[.ref s.heap.objs.size, .ref I, .ref s.heap.objs.size], []⟩)) _ _ _
  refine wpAny_bind (wpAny_rule ?_)
  have hS₂ := g2.keep _ _ hS1
  refine wpAny_bind ?_
  show wpAny _ A.in1 (updateSeq s.heap.objs.size (·.push .none) >>= fun _ => updateSeq s.heap.objs.size (·.pop)) _ _ _
  refine wpAny_bind (wpAny_updateSeq hS₂ rfl ?_)
  have hS₃ := Heap.get?_update_self (Obj.mapSeq (·.push Value.none)) hS₂ rfl
  refine wpAny_updateSeq hS₃ rfl ?_
  have hS₄ := Heap.get?_update_self (Obj.mapSeq (·.pop)) hS₃ rfl
  have oth : ∀ b o, b ≠ s.heap.objs.size → s2.heap.get? b = some o → ((s2.heap.update s.heap.objs.size (Obj.mapSeq (·.push Value.none))).update s.heap.objs.size (Obj.mapSeq (·.pop))).get? b = some o :=
    fun b o hb e => (Heap.get?_update_other _ _ (Ne.symm hb)).trans ((Heap.get?_update_other _ _ (Ne.symm hb)).trans e)
  have hn : ord.length = es.size := by have := hp.length_eq; simpa using this
  have hh2 : A.in1.in1.in1.handled = none := hh
  refine wpAny_pure ⟨plainId_quiet F.plain_extend_loop _, codeAny_extend_loopS ((walksSet (T := T) (prog := prog) (A := A.in1) hh hIa hn).toS) (by rw [sizeLine_eq]; omega) _ hSf _ ord.length 0 _ _ _ rfl (Nat.zero_le _)
    (x2.keep fun b hb o e => oth b o (fun h => hSf (h ▸ hb)) e) hS₄ (ItemsOf.nil _) fun s' acc' c' hm hS' hacc => ?_⟩
  show wpAny _ A (load s.heap.objs.size >>= _) _ _ s'
  refine wpAny_bind (wpAny_load hS' ?_)
  have eo : acc'.toList = ord := by
    obtain ⟨z, hv⟩ := hacc
    apply List.ext_getElem?
    intro i
    rcases Nat.lt_or_ge i acc'.size with hlt | hge
    · have := hv i acc'[i] (Array.getElem?_eq_getElem hlt)
      rw [this, Array.getElem?_toList, Array.getElem?_eq_getElem hlt]
    · rw [List.getElem?_eq_none (by simpa using hge), List.getElem?_eq_none (by omega)]
  show wpAny _ _ (pure acc'.toList) _ _ _
  rw [eo]
  refine wpAny_pure (hQ s' ord ⟨fun b ob e => ?_, ?_, ?_⟩ hp)
  · have lt := Heap.lt_size e
    have e2 := g2.keep _ _ (g₁.keep _ _ e)
    refine hm.heap b ob (fun hb => ?_) (oth b ob (Nat.ne_of_lt lt) e2)
    rcases List.mem_cons.mp hb with h | h
    · exact absurd h (Nat.ne_of_lt lt)
    · rw [List.mem_singleton.mp h] at e
      rw [g₁.keep _ _ e] at nI; cases nI
  · rw [hm.os]; show s2.os = _; rw [g2.os, g₁.os]
  · rw [show s'.gens = _ from hm.gens]; show s2.gens = _; rw [g2.gens, g₁.gens]
end

theorem all2_perm {α β : Type} {R : α → β → Prop} {xs xs' : List α} (hp : xs.Perm xs') : ∀ {ys : List β}, All2 R xs ys → ∃ ys', All2 R xs' ys' ∧ ys.Perm ys' := by
  induction hp with
  | nil => intro ys h; cases h; exact ⟨[], .nil, .refl _⟩
  | cons x _ ih =>
    intro ys h
    cases h with
    | cons r h => obtain ⟨ys', h1, h2⟩ := ih h; exact ⟨_, .cons r h1, h2.cons _⟩
  | swap x y l =>
    intro ys h
    cases h with
    | cons r h => cases h with
      | cons r' h => exact ⟨_, .cons r' (.cons r h), .swap _ _ _⟩
  | trans _ _ ih1 ih2 =>
    intro ys h
    obtain ⟨y1, h1, p1⟩ := ih1 h
    obtain ⟨y2, h2, p2⟩ := ih2 h1
    exact ⟨y2, h2, p1.trans p2⟩

section
variable {prog : Program} {w : World} {K : Type} [DecidableEq K] {knd : KeyKind prog w K} {A : Around} {E : Value → Shared → Prop} {s : Shared}

/-- a set whose keys are those of which Mem says so -/
def SetK (knd : KeyKind prog w K) (h : Heap) (S : Addr) (Mem : K → Prop) : Prop :=
  ∃ es kk, SetB (!byT w) h S es ∧ ElemsOf knd es.toList ∧ All2 (fun e k => knd.is k e.2 = true) es.toList kk ∧ kk.Nodup ∧ ∀ k, k ∈ kk ↔ Mem k

theorem SetK.keep {h h' : Heap} {S : Addr} {Mem : K → Prop} (x : SetK knd h S Mem) (k : ∀ o, h.get? S = some o → h'.get? S = some o) : SetK knd h' S Mem := by
  obtain ⟨es, kk, ⟨⟨o, ep, t, ho, r⟩, z⟩, rest⟩ := x
  exact ⟨es, kk, ⟨⟨o, ep, t, k _ ho, r⟩, z⟩, rest⟩
theorem SetK.mem {h : Heap} {S : Addr} {Mem Mem' : K → Prop} (x : SetK knd h S Mem) (e : ∀ k, Mem k ↔ Mem' k) : SetK knd h S Mem' := by
  obtain ⟨es, kk, x1, x2, x3, x4, x5⟩ := x
  exact ⟨es, kk, x1, x2, x3, x4, fun k => (x5 k).trans (e k)⟩

theorem all2_is {es : List (Int × Value)} {kk : List K} (h : All2 (fun e k => knd.is k e.2 = true) es kk) (k : K) : (∃ e ∈ es, knd.is k e.2 = true) ↔ k ∈ kk := by
  induction h with
  | nil => simp
  | @cons e k' es kk r _ ih =>
    rw [List.mem_cons, ← ih]
    constructor
    · rintro ⟨e', he, q⟩
      rcases List.mem_cons.mp he with rfl | he
      · exact .inl (knd.inj _ _ _ q r)
      · exact .inr ⟨e', he, q⟩
    · rintro (rfl | ⟨e', he, q⟩)
      · exact ⟨e, .head _, r⟩
      · exact ⟨e', .tail _ he, q⟩

theorem setK_add {S : Addr} {Mem : K → Prop} {k : K} {x : Value} {Q : Bool → Shared → Prop} (hkey : knd.is k x = true) (hsc : x.scannable = true) (B : SetK knd s.heap S Mem) (hroom : ∀ (kk : List K), kk.Nodup → (∀ k, k ∈ kk → Mem k) → kk.length + 1 < scanBound)
    (h : ∀ b s', ExL S s s' → SetK knd s'.heap S (fun k' => Mem k' ∨ k' = k) → Q b s') : wpAny (model prog w) A (setAddHashed S x (knd.hash k)) Q E s := by
  obtain ⟨es, kk, B1, hel, hall, hnd, hmem⟩ := B
  have hz : es.size + 1 < scanBound := by
    have := hroom kk hnd fun k hk => (hmem k).mp hk
    have e := hall.length
    have e2 : es.toList.length = es.size := by simp
    omega
  refine setAddB hkey hsc B1 hel hz (fun ho => ?_) fun hno s' es' hx hB hp => ?_
  · refine h _ s (ExL.refl _ _) ⟨es, kk, B1, hel, hall, hnd, fun k' => (hmem k').trans ⟨.inl, ?_⟩⟩
    rintro (m | rfl)
    · exact m
    · exact (hmem _).mp ((all2_is hall _).mp ho)
  · obtain ⟨kk', a1, a2⟩ := all2_perm hp.symm (hall.append (.cons (a := (knd.hash k, x)) (b := k) hkey .nil))
    refine h _ s' hx ⟨es', kk', hB, fun e he => ?_, a1, ?_, fun k' => ?_⟩
    · rcases List.mem_append.mp (hp.mem_iff.mp he) with h1 | h1
      · exact hel e h1
      · rw [List.mem_singleton] at h1; subst h1; exact ⟨⟨k, hkey, rfl⟩, hsc⟩
    · refine a2.nodup_iff.mp ?_
      rw [List.nodup_append]
      refine ⟨hnd, by simp, fun x hx y hy => ?_⟩
      rw [List.mem_singleton] at hy; subst hy
      rintro rfl
      exact hno ((all2_is hall _).mpr hx)
    · rw [← a2.mem_iff, List.mem_append, List.mem_singleton, hmem]

theorem nd_le : ∀ (kk l : List K), kk.Nodup → (∀ k ∈ kk, k ∈ l) → kk.length ≤ l.length
  | [], l, _, _ => Nat.zero_le _
  | k :: kk, l, hn, hs => by
    have h1 := hs k (.head _)
    rw [List.nodup_cons] at hn
    have h2 := nd_le kk (l.erase k) hn.2 fun x hx => (List.mem_erase_of_ne (fun e : x = k => hn.1 (by rw [← e]; exact hx))).mpr (hs x (.tail _ hx))
    rw [List.length_erase_of_mem h1] at h2
    have := List.length_pos_of_mem h1
    simp only [List.length_cons]
    omega
section
variable {R : Result → Shared → Prop} {it : Addr} {fp : List Addr} {ks : List K} {V : Nat → Value → Prop} {P : Nat → Heap → Prop}

theorem setLoop (D : Iter prog w it fp ks.length V P) (hh : A.handled = none) (S : Addr) (hSf : S ∉ fp) (hval : ∀ i v, V i v → ∃ k, ks[i]? = some k ∧ knd.is k v = true ∧ v.scannable = true) (hb : ks.length + 1 < scanBound) :
    ∀ (k i : Nat) (s : Shared), ks.length - i = k → i ≤ ks.length → P i s.heap → SetK knd s.heap S (fun k' => k' ∈ ks.take i) →
      (∀ s', (∀ b o, b ≠ S → b ≠ it → s.heap.get? b = some o → s'.heap.get? b = some o) → s'.os = s.os → s'.gens = s.gens → SetK knd s'.heap S (fun k' => k' ∈ ks) → R (.ok (.ret .none)) s') →
      codeAny (model prog w) A (.builtin "set.update.loop" ⟨[.ref S, .ref it], []⟩) R s := by
  have hSi : S ≠ it := fun e => hSf (e ▸ D.mem)
  intro k
  induction k with
  | zero =>
    intro i s hk hi hst hS hR
    have hin : i = ks.length := by omega
    subst hin
    rw [List.take_length] at hS
    refine codeAny_builtin F.entry_set_update_loop ?_
    rw [Around.under_plainId F.plain_set_update_loop _]
    show wpAny _ A.in1 (pyNext (.ref it) >>= _) _ _ s
    refine wpAny_bind (D.fin hh hst fun s' hm => ?_)
    show wpAny _ A.in1 (ret Value.none) _ _ s'
    exact wpAny_pure (hR s' (fun b o _ n e => hm.keep b o n e) hm.os hm.gens (hS.keep fun o e => hm.keep S _ hSi e))
  | succ k ih =>
    intro i s hk hi hst hS hR
    have hlt : i < ks.length := by omega
    refine codeAny_builtin F.entry_set_update_loop ?_
    rw [Around.under_plainId F.plain_set_update_loop _]
    show wpAny _ A.in1 (pyNext (.ref it) >>= _) _ _ s
    refine wpAny_bind (D.item hst hlt fun v s' hm hst' hV => ?_)
    obtain ⟨ky, hky, hv, hsc⟩ := hval i v hV
    have hS' := hS.keep (h' := s'.heap) fun o e => hm.keep S _ hSi e
    show wpAny _ A.in1 (holding [v] (setAdd S v) >>= _) _ _ s'
    refine wpAny_bind (wpAny_holding ?_)
    unfold setAdd
    refine wpAny_holding ?_
    refine wpAny_bind (knd.pyHash hv ?_)
    refine setK_add (s := { s' with toks := s'.toks + 1 }) hv hsc hS' (fun kk hn hmm => ?_) fun b s2 hx hS2 => ?_
    · have := nd_le kk (ks.take i) hn hmm; rw [List.length_take] at this; omega
    · refine wpAny_pure ⟨plainId_quiet F.plain_set_update_loop _, ih (i + 1) _ (by omega) hlt (D.keep hst' fun b hb o e => hx.keep b o (fun h => hSf (h ▸ hb)) e) (hS2.mem fun k' => ?_) fun s3 q1 q2 q3 hS3 => ?_⟩
      · rw [List.take_add_one, hky, List.mem_append]; simp
      · exact hR s3 (fun b o n1 n2 e => q1 b o n1 n2 (hx.keep b o n1 (hm.keep b o n2 e))) (by rw [q2, hx.os]; exact hm.os) (by rw [q3, hx.gens]; exact hm.gens) hS3
end

theorem setNew1 (v : Value) {Q₁ : Value → Shared → Prop}
    (h : Q₁ (.ref s.heap.objs.size) { s with heap := s.heap.push { cls := .type "set", dict := none, data := .set #[] 0 (.fresh 0 0 (!byT w)) } }) :
    codeAny (model prog w) A (.call (.builtin "set.__new__") ⟨[.type "set", v], []⟩) (wants Q₁ E) s := by
  refine codeAny_of_tree ?_
  show wpAny _ A.in1 (do checkBuiltinCall "set.__new__" ⟨[.type "set", v], []⟩; again (.builtin "set.__new__" ⟨[.type "set", v], []⟩)) _ _ s
  refine wpAny_bind (wpAny_of_eq (F.newCall_set_1 v) (wpAny_pure ⟨plainId_quiet F.plain_set_new _, codeAny_builtin F.entry_set_new ?_⟩))
  rw [Around.under_plainId F.plain_set_new _]
  unfold Builtin.«set.__new__» Builtin.Frozenset.newClass
  have hsub := sub_set_self
  obtain ⟨hp, g, d, tk, os⟩ := s
  dsimp only
  wp_walk
  refine wpAny_askSetting (wpAny_pure ?_)
  dsimp only
  simp only [newObj]
  refine wpAny_bind (wpAny_alloc (wpAny_pure ?_))
  exact wpAny_pure h

theorem setK_fresh {h : Heap} {a : Addr} (ha : h.get? a = some { cls := .type "set", dict := none, data := .set #[] 0 (.fresh 0 0 (!byT w)) }) : SetK knd h a (fun _ => False) := by
  refine ⟨#[], [], ⟨⟨_, 0, _, ha, ⟨rfl, rfl, rfl⟩, rfl, rfl, ⟨rfl, rise_empty⟩⟩, by decide⟩, ?_, ?_, List.nodup_nil, fun k => by simp⟩
  · intro e he; cases he
  · exact .nil

set_option maxHeartbeats 3200000 in
theorem setCall {l : Addr} {vs : List Value} {ks : List K} {m : Nat} {Q : Value → Shared → Prop} (hh : A.handled = none) (hl : s.heap.get? l = some (listOf vs.toArray m)) (ha : All2 (fun v k => knd.is k v = true ∧ v.scannable = true) vs ks) (hb : vs.length + 1 < scanBound)
    (h : ∀ s' S, Grow s s' → s.heap.get? S = none → SetK knd s'.heap S (fun k => k ∈ ks) → Q (.ref S) s') : wpAny (model prog w) A (call (.type "set") [.ref l]) Q E s := by
  obtain ⟨c, tl, hmro⟩ := F.called_set.mro
  have hmade := F.called_set.made
  have hsub := F.called_set.sub
  refine wpAny_call (codeAny_of_tree ?_)
  show wpAny _ _ (callAny (.type "set") _) _ _ _
  refine wpAny_pure ⟨Code.quiet_builtin _ (by decide +kernel), codeAny_builtin F.entry_type_call ?_⟩
  rw [Around.under_plain (weight_type_call_type "set" [.ref l] []) rfl]
  have h1 := F.called_set.notType
  have h2 := F.called_set.canCreate
  have hct := F.typeCall_set_1 (.ref l)
  repeat (any_goals (first | assumption | wp_step))
  generalize hob : ({ cls := .type "set", dict := none, data := .set #[] 0 (.fresh 0 0 (!byT w)) } : Obj) = ob
  refine codeAny_mono (setNew1 (.ref l) (E := E) (Q₁ := fun obj s₁ => obj = .ref s.heap.objs.size ∧ s₁ = { s with heap := s.heap.push ob }) ⟨rfl, by rw [hob]⟩) fun r s₁ hr => ?_
  cases r with
  | error e => exact hr
  | ok fl =>
    cases fl with
    | ret obj =>
      obtain ⟨rfl, rfl⟩ := hr
      have hS : (s.heap.push ob).get? s.heap.objs.size = some ob := Heap.get?_push_size _ (by rw [← hob]; rfl)
      have hT : Shared.TypeIs { s with heap := s.heap.push ob } (.ref s.heap.objs.size) "set" := ⟨_, hS, by rw [← hob]⟩
      have hli := F.called_set.init.lookup
      have hbi := F.called_set.init.bind (.ref s.heap.objs.size)
      repeat (any_goals (first | assumption | wp_step))
      have g1 : Grow s { s with heap := s.heap.push ob } := ⟨fun b o e => Heap.get?_push_of_some _ e, rfl, rfl⟩
      refine codeAny_mono (codeAny_call_builtin (R := wants (fun r s₂ => r = .none ∧ Grow s s₂ ∧ SetK knd s₂.heap s.heap.objs.size (fun k => k ∈ ks)) E) F.called_set.init.plain F.entry_set_init (check_set_init_1 hT ?_)) fun r₂ s₂ hr₂ => ?_
      · have hl1 : (s.heap.push ob).get? l = some (listOf vs.toArray m) := Heap.get?_push_of_some _ hl
        have hsls := F.sub_list_set
        have hslf := F.sub_list_frozenset
        have hne : (Value.type "list" == Value.type "dict") = false := by decide
        subst hob
        unfold Builtin.«set.__init__» noKeywords Builtin.Frozenset.updateFrom
        generalize hPI : pyIter = PI
        wp_walk
        subst hPI
        refine pyIterList (s := { s with heap := s.heap.push { cls := .type "set", dict := none, data := .set #[] 0 (.fresh 0 0 (!byT w)) } }) hl1 fun s2 it g2 nI hil hst => ?_
        refine wpAny_bind (wpAny_runValue ?_)
        have hS2 := g2.keep _ _ hS
        have hSf : s.heap.objs.size ∉ [it, l] := by
          simp only [List.mem_cons, List.not_mem_nil, or_false, not_or]
          refine ⟨fun e => ?_, Nat.ne_of_gt (Heap.lt_size hl)⟩
          rw [← e] at nI
          exact absurd (hS.symm.trans nI) (by simp)
        have hlen := ha.length
        have hval : ∀ (i : Nat) (v : Value), vs[i]? = some v → ∃ k, ks[i]? = some k ∧ knd.is k v = true ∧ v.scannable = true := fun i v hv => by
          have hi : i < vs.length := by
            rcases Nat.lt_or_ge i vs.length with h | h
            · exact h
            · rw [List.getElem?_eq_none h] at hv; cases hv
          have := ha.get i hi (by omega)
          rw [List.getElem?_eq_getElem hi] at hv
          cases hv
          exact ⟨_, List.getElem?_eq_getElem (by omega), this⟩
        have D := iterList (prog := prog) (w := w) (vs := vs) hil
        rw [hlen] at D
        refine setLoop (A := A.in1.in1) D hh s.heap.objs.size hSf hval (by omega) ks.length 0 s2 (by omega) (Nat.zero_le _) hst ((setK_fresh (knd := knd) hS2).mem fun k => by simp) fun s3 q1 q2 q3 hS3 => ?_
        show wpAny _ _ _ _ _ _
        refine wpAny_pure ?_
        show wpAny _ _ (ret Value.none) _ _ _
        refine wpAny_pure ⟨rfl, ⟨fun b o e => ?_, by rw [q2, g2.os], by rw [q3, g2.gens]⟩, hS3⟩
        have e1 : (s.heap.push { cls := .type "set", dict := none, data := .set #[] 0 (.fresh 0 0 (!byT w)) }).get? b = some o := g1.keep _ _ e
        refine q1 b o (Nat.ne_of_lt (Heap.lt_size e)) (fun h => ?_) (g2.keep _ _ e1)
        rw [h] at e1
        exact absurd (e1.symm.trans nI) (by simp)
      · cases r₂ with
        | error e => exact hr₂
        | ok fl₂ =>
          cases fl₂ with
          | ret r =>
            obtain ⟨rfl, g, hS'⟩ := hr₂
            repeat (any_goals (first | assumption | wp_step))
            refine h _ _ g ?_ hS'
            cases q : s.heap.get? s.heap.objs.size with
            | none => rfl
            | some o => exact absurd (Heap.lt_size q) (Nat.lt_irrefl _)
          | _ => exact hr₂.elim
    | _ => exact hr.elim
end

section
variable {prog : Program} {w : World} {A : Around} {E : Value → Shared → Prop} {s : Shared}

theorem SetK.small {K : Type} [DecidableEq K] {knd : KeyKind prog w K} {h : Heap} {S : Addr} {Mem : K → Prop} (x : SetK knd h S Mem) :
    ∃ es ep t kk, SetS w h S es ep t ∧ es.size < 100000 ∧ All2 (fun e k => knd.is k e.2 = true) es.toList kk ∧ kk.Nodup ∧ ∀ k, k ∈ kk ↔ Mem k := by
  obtain ⟨es, kk, ⟨⟨o, ep, t, ho, hex, hd, hf, ht⟩, hz⟩, hel, hall, hn, hm⟩ := x
  exact ⟨es, ep, t, kk, ⟨⟨o, ho, hex, hd⟩, hf, ht⟩, Nat.lt_trans hz (by decide), hall, hn, hm⟩

theorem all2_snd {K : Type} {R : K → Value → Prop} {es : List (Int × Value)} {kk : List K} (h : All2 (fun e k => R k e.2) es kk) : All2 (fun v k => R k v) (es.map (·.2)) kk := by
  induction h with
  | nil => exact .nil
  | cons r _ ih => exact .cons r ih

theorem sortedSetInts {S : Addr} {Mem : Int → Prop} {Q : Value → Shared → Prop} (hh : A.handled = none) (x : SetK (intKind prog w) s.heap S Mem) (hz : ∀ kk : List Int, kk.Nodup → (∀ k, k ∈ kk → Mem k) → kk.length < 64)
    (h : ∀ s' D (out : List Value) (ns : List Int) m, Grow s s' → s.heap.get? D = none → s'.heap.get? D = some (listOf out.toArray m) → All2 RepI out ns → ns.Pairwise (· < ·) → (∀ k, k ∈ ns ↔ Mem k) → Q (.ref D) s') :
    wpAny (model prog w) A (call (.builtin "sorted") [.ref S]) Q E s := by
  obtain ⟨es, ep, t, kk, x1, x2, x3, x4, x5⟩ := x.small
  have a3 : All2 RepI (es.toList.map (·.2)) kk := (all2_snd (R := fun k v => (intKind prog w).is k v = true) x3).mono fun v k _ r => by
    exact Value.isInt_shape r
  refine sortedCall (κ := oneType') (key := fun p => numOf p.1) (P := fun p => ∃ n t, p.1 = .int n t) (collectSet (A := A.in1) hh x1 x2 fun s₁ xs g₁ hp => ?_)
  obtain ⟨kk', b1, b2⟩ := all2_perm hp.symm a3
  have zl : xs.length < 64 := by
    have e1 := b1.length
    have e2 := b2.length_eq
    have := hz kk x4 fun k hk => (x5 k).mp hk
    omega
  refine ⟨g₁, zl, fun h2 A' s' _ _ => ?_, fun A' s' _ _ => ordInt, fun x hx => all2_int b1 x hx, fun s' D out m g₂ nD hD p1 p2 => ?_⟩
  · rw [kindInts b1 h2]
    exact wpAny_pure ⟨rfl, rfl⟩
  · have pm : (out.map numOf).Perm kk := by
      have := p1.map numOf
      rw [all2_nums b1] at this
      exact this.trans b2.symm
    refine h s' D out (out.map numOf) m (g₁.trans g₂) ?_ hD (all2_map fun v hv => all2_int b1 v (p1.mem_iff.mp hv)) ?_ fun k => pm.mem_iff.trans (x5 k)
    · cases q : s.heap.get? D with
      | none => rfl
      | some o => rw [g₁.keep _ _ q] at nD; cases nD
    · have nd : (out.map numOf).Nodup := pm.nodup_iff.mpr x4
      have le : (out.map numOf).Pairwise (· ≤ ·) := by rw [List.pairwise_map]; exact p2
      have both := le.and nd
      exact both.imp fun ⟨h1, h2⟩ => by omega
end

/-! a kind of items: how they lie, compare, and go through sorted(set(..)) -/
structure IK (prog : Program) (w : World) (Rep : Value → Int → Prop) : Prop where
  plain : ∀ {u x}, Rep u x → rf u = []
  eq : ∀ {A : Around} {E : Value → Shared → Prop} {s : Shared} {u v : Value} {x y : Int} {Q : Value → Shared → Prop}, Rep u x → Rep v y → Q (.bool (x == y)) s → wpAny (model prog w) A (compareOp .Eq u v) Q E s
  ne : ∀ {A : Around} {E : Value → Shared → Prop} {s : Shared} {u v : Value} {x y : Int} {Q : Value → Shared → Prop}, Rep u x → Rep v y → Q (.bool (x != y)) s → wpAny (model prog w) A (compareOp .NotEq u v) Q E s
  gt : ∀ {A : Around} {E : Value → Shared → Prop} {s : Shared} {u v : Value} {x y : Int} {Q : Value → Shared → Prop}, Rep u x → Rep v y → Q (.bool (decide (y < x))) s → wpAny (model prog w) A (compareOp .Gt u v) Q E s
  eqAt : ∀ {A : Around} {s : Shared} {u v : Value} {x y : Int}, Rep u x → Rep v y → EqAt A s u v (x == y)
  sset : ∀ {A : Around} {E : Value → Shared → Prop} {s : Shared} {l : Addr} {vs : List Value} {X : List Int} {n : Nat} {Q : Value → Shared → Prop}, A.handled = none → s.heap.get? l = some (listOf vs.toArray n) → All2 Rep vs X → X.length + 1 < scanBound →
    (∀ kk : List Int, kk.Nodup → (∀ k, k ∈ kk → k ∈ X) → kk.length < 64) →
    (∀ s' D (out : List Value) (ns : List Int) m, Grow s s' → s.heap.get? D = none → s'.heap.get? D = some (listOf out.toArray m) → All2 Rep out ns → ns.Pairwise (· < ·) → (∀ k, k ∈ ns ↔ k ∈ X) → Q (.ref D) s') →
    wpAny (model prog w) A (call (.type "set") [.ref l]) (fun v s₁ => wpAny (model prog w) A (call (.builtin "sorted") [v]) Q E s₁) E s

theorem all2_dom {α β : Type} {R : α → β → Prop} {as : List α} {bs : List β} (h : All2 R as bs) : ∀ a ∈ as, ∃ b ∈ bs, R a b := by
  induction h with
  | nil => intro a ha; cases ha
  | cons r _ ih =>
    intro a ha
    rcases List.mem_cons.mp ha with rfl | ha
    · exact ⟨_, .head _, r⟩
    · obtain ⟨b, hb, r'⟩ := ih a ha; exact ⟨b, .tail _ hb, r'⟩
theorem all2_cod {α β : Type} {R : α → β → Prop} {as : List α} {bs : List β} (h : All2 R as bs) : ∀ b ∈ bs, ∃ a ∈ as, R a b := by
  induction h with
  | nil => intro a ha; cases ha
  | cons r _ ih =>
    intro b hb
    rcases List.mem_cons.mp hb with rfl | hb
    · exact ⟨_, .head _, r⟩
    · obtain ⟨a, ha, r'⟩ := ih b hb; exact ⟨a, .tail _ ha, r'⟩
theorem all2_of {α β : Type} {R : α → β → Prop} {f : α → β} : ∀ {as : List α}, (∀ a ∈ as, R a (f a)) → All2 R as (as.map f)
  | [], _ => .nil
  | a :: as, h => .cons (h a (.head _)) (all2_of fun b hb => h b (.tail _ hb))

section
variable {prog : Program} {w : World} {A : Around} {E : Value → Shared → Prop} {s : Shared} {Rep : Value → Int → Prop}

theorem ssetOf {K : Type} [DecidableEq K] (knd : KeyKind prog w K) (κ : Int → K) (num : Value → Int)
    (h1 : ∀ {v x}, Rep v x → knd.is (κ x) v = true ∧ v.scannable = true ∧ num v = x) (h2 : ∀ {v v' x}, Rep v x → knd.is (κ x) v' = true → Rep v' x)
    (hinj : ∀ {u v x y}, Rep u x → Rep v y → κ x = κ y → x = y)
    (hlt : ∀ {A : Around} {E : Value → Shared → Prop} {s : Shared} {u v : Value} {x y : Int} {Q : Bool → Shared → Prop}, Rep u x → Rep v y → Q (decide (x < y)) s → wpAny (model prog w) A (oneLt' true u v) Q E s)
    (hkind : ∀ {vs : List Value}, 2 ≤ vs.length → (∀ v ∈ vs, ∃ x, Rep v x) → keyKind' vs.toArray = pure oneType')
    {l : Addr} {vs : List Value} {X : List Int} {n : Nat} {Q : Value → Shared → Prop} (hh : A.handled = none) (hl : s.heap.get? l = some (listOf vs.toArray n)) (ha : All2 Rep vs X) (hb : X.length + 1 < scanBound)
    (hz : ∀ kk : List Int, kk.Nodup → (∀ k, k ∈ kk → k ∈ X) → kk.length < 64)
    (h : ∀ s' D (out : List Value) (ns : List Int) m, Grow s s' → s.heap.get? D = none → s'.heap.get? D = some (listOf out.toArray m) → All2 Rep out ns → ns.Pairwise (· < ·) → (∀ k, k ∈ ns ↔ k ∈ X) → Q (.ref D) s') :
    wpAny (model prog w) A (call (.type "set") [.ref l]) (fun v s₁ => wpAny (model prog w) A (call (.builtin "sorted") [v]) Q E s₁) E s := by
  have ha' : All2 (fun v k => knd.is k v = true ∧ v.scannable = true) vs (X.map κ) := by
    clear hb hz h hl
    induction ha with
    | nil => exact .nil
    | cons r _ ih => exact .cons ⟨(h1 r).1, (h1 r).2.1⟩ ih
  refine setCall (knd := knd) hh hl ha' (by rw [ha.length]; exact hb) fun s₁ S g₁ nS hS => ?_
  obtain ⟨es, ep, t, kk, x1, x2, x3, x4, x5⟩ := hS.small
  have a3 : All2 (fun v k => knd.is k v = true) (es.toList.map (·.2)) kk := all2_snd (R := fun k v => knd.is k v = true) x3
  -- every entry is an item of X
  have a4 : ∀ v ∈ es.toList.map (·.2), Rep v (num v) ∧ num v ∈ X := fun v hv => by
    obtain ⟨k, hk, r⟩ := all2_dom a3 v hv
    obtain ⟨x, hx, rfl⟩ := List.mem_map.mp ((x5 k).mp hk)
    obtain ⟨u, _, ru⟩ := all2_cod ha x hx
    have rv := h2 ru r
    rw [(h1 rv).2.2]; exact ⟨rv, hx⟩
  have a5 : ∀ x ∈ X, ∃ v ∈ es.toList.map (·.2), num v = x := fun x hx => by
    obtain ⟨v, hv, r⟩ := all2_cod a3 (κ x) ((x5 _).mpr (List.mem_map.mpr ⟨x, hx, rfl⟩))
    obtain ⟨u, _, ru⟩ := all2_cod ha x hx
    exact ⟨v, hv, (h1 (h2 ru r)).2.2⟩
  have nd : ((es.toList.map (·.2)).map num).Nodup := by
    have e : kk = ((es.toList.map (·.2)).map num).map κ := by
      clear x4 x5 x2 x3
      revert a3 a4
      generalize es.toList.map (·.2) = us
      intro a3 a4
      clear a5
      induction a3 with
      | nil => rfl
      | @cons v k us kk r _ ih =>
        rw [List.map_cons, List.map_cons, ← ih fun v hv => a4 v (.tail _ hv)]
        congr 1
        exact knd.inj v k _ r (h1 (a4 v (.head _)).1).1
    rw [e] at x4
    exact (List.pairwise_map.mp x4).imp fun hne q => hne (by rw [q])
  refine sortedCall (κ := oneType') (key := fun p => num p.1) (P := fun p => Rep p.1 (num p.1)) (collectSet (A := A.in1) hh x1 x2 fun s₂ xs g₂ hp => ?_)
  have hx : ∀ v ∈ xs, Rep v (num v) ∧ num v ∈ X := fun v hv => a4 v (hp.mem_iff.mp hv)
  have zl : xs.length < 64 := by
    have := hz ((es.toList.map (·.2)).map num) nd fun k hk => by
      obtain ⟨v, hv, rfl⟩ := List.mem_map.mp hk
      exact (a4 v hv).2
    rw [List.length_map] at this
    rw [hp.length_eq]; exact this
  refine ⟨g₂, zl, fun h2' A' s' _ _ => ?_, fun A' s' _ _ => ⟨?_⟩, fun x hx' => (hx x hx').1, fun s' D out m g₃ nD hD p1 p2 => ?_⟩
  · rw [hkind h2' fun v hv => ⟨_, (hx v hv).1⟩]
    exact wpAny_pure ⟨rfl, rfl⟩
  · rintro E Q ⟨x, x'⟩ ⟨y, y'⟩ rx ry hq
    rw [keyLt'_oneType]
    exact hlt rx ry hq
  · have pm : (out.map num).Perm ((es.toList.map (·.2)).map num) := (p1.trans hp).map num
    refine h s' D out (out.map num) m (g₁.trans (g₂.trans g₃)) ?_ hD (all2_of fun v hv => (hx v (p1.mem_iff.mp hv)).1) ?_ fun k => ?_
    · cases q : s.heap.get? D with
      | none => rfl
      | some o => rw [(g₁.trans g₂).keep _ _ q] at nD; cases nD
    · have nd' : (out.map num).Nodup := pm.nodup_iff.mpr nd
      have le : (out.map num).Pairwise (· ≤ ·) := by rw [List.pairwise_map]; exact p2
      exact (le.and nd').imp fun ⟨h1, h2⟩ => by omega
    · rw [pm.mem_iff]
      constructor
      · intro hk
        obtain ⟨v, hv, rfl⟩ := List.mem_map.mp hk
        exact (a4 v hv).2
      · intro hk
        obtain ⟨v, hv, e⟩ := a5 k hk
        exact List.mem_map.mpr ⟨v, hv, e⟩

theorem ikInt : IK prog w RepI where
  plain := by rintro u x ⟨t, rfl⟩; rfl
  eq := by rintro A E s u v x y Q ⟨t, rfl⟩ ⟨t', rfl⟩ h; exact eq_int h
  ne := by rintro A E s u v x y Q ⟨t, rfl⟩ ⟨t', rfl⟩ h; exact ne_int h
  gt := by rintro A E s u v x y Q ⟨t, rfl⟩ ⟨t', rfl⟩ h; exact gt_int h
  eqAt := by rintro A s u v x y ⟨t, rfl⟩ ⟨t', rfl⟩; exact EqAt.int_int _ _ _ _
  sset := fun hh hl ha hb hz h => ssetOf (Rep := RepI) (intKind prog w) (fun x => x) numOf (by rintro v x ⟨t, rfl⟩; exact ⟨intKind_is _ _ _ _, rfl, rfl⟩) (fun _ h => Value.isInt_shape h) (fun _ _ h => h)
    (by rintro A E s u v x y Q ⟨t, rfl⟩ ⟨t', rfl⟩ h; exact oneLt_int h)
    (fun {vs} h2 hv => kindInts (all2_map fun v hv' => by obtain ⟨x, t, e⟩ := hv v hv'; exact ⟨x, t, e⟩) h2) hh hl ha hb hz h

/-- single letters: x stands for the letter with the number x -/
def RepC (v : Value) (x : Int) : Prop := ∃ (c : Nat) (t : Tok), x = (c : Nat) ∧ v = .str ⟨#[97 + c]⟩ t
def numC : Value → Int
  | .str x _ => (x.cps.getD 0 0 : Nat) - 97
  | _ => 0

theorem lt1 (a b : Nat) : decide ((⟨#[97 + a]⟩ : Str).cps.toList < (⟨#[97 + b]⟩ : Str).cps.toList) = decide ((a : Int) < (b : Int)) := by
  rw [Bool.eq_iff_iff]
  simp only [decide_eq_true_eq]
  show ([97 + a] < [97 + b]) ↔ _
  rw [List.cons_lt_cons_iff]
  simp
theorem eqS (a b : Nat) : ((⟨#[97 + a]⟩ : Str) == ⟨#[97 + b]⟩) = ((a : Int) == (b : Int)) := by
  rw [Bool.eq_iff_iff]
  simp
  omega

theorem strsC {vs : List Value} (h : ∀ v ∈ vs, ∃ x, RepC v x) : ∃ ss, StrsAre vs ss := by
  induction vs with
  | nil => exact ⟨[], .nil⟩
  | cons v vs ih =>
    obtain ⟨ss, hs⟩ := ih fun u hu => h u (.tail _ hu)
    obtain ⟨x, c, t, rfl, rfl⟩ := h v (.head _)
    exact ⟨_, .cons _ t hs⟩

theorem ikChr : IK prog w RepC where
  plain := by rintro u x ⟨c, t, rfl, rfl⟩; rfl
  eq := by rintro A E s u v x y Q ⟨c, t, rfl, rfl⟩ ⟨c', t', rfl, rfl⟩ h; exact eq_str (by rw [eqS]; exact h)
  ne := by rintro A E s u v x y Q ⟨c, t, rfl, rfl⟩ ⟨c', t', rfl, rfl⟩ h; exact ne_str (by show Q (.bool (!(_ == _))) _; rw [eqS]; exact h)
  gt := by rintro A E s u v x y Q ⟨c, t, rfl, rfl⟩ ⟨c', t', rfl, rfl⟩ h; exact PySem.P.gt_str (by rw [lt1]; exact h)
  eqAt := by rintro A s u v x y ⟨c, t, rfl, rfl⟩ ⟨c', t', rfl, rfl⟩; rw [← eqS]; exact EqAt.str_str _ _ _ _
  sset := fun hh hl ha hb hz h => ssetOf (Rep := RepC) (PySem.strKind prog w) (fun x => ⟨#[97 + x.toNat]⟩) numC
    (by rintro v x ⟨c, t, rfl, rfl⟩; exact ⟨by simp [PySem.strKind, Value.isStrOf], rfl, by simp [numC]; omega⟩)
    (by rintro v v' x ⟨c, t, rfl, rfl⟩ h; obtain ⟨t', e⟩ := Value.isStrOf_shape h; exact ⟨c, t', rfl, by rw [e]; simp⟩)
    (by rintro u v x y ⟨c, t, rfl, rfl⟩ ⟨c', t', rfl, rfl⟩ h; simp at h; omega)
    (by rintro A E s u v x y Q ⟨c, t, rfl, rfl⟩ ⟨c', t', rfl, rfl⟩ h; exact oneLt_str (by rw [lt1]; exact h))
    (fun {vs} h2 hv => by
      obtain ⟨ss, hs⟩ := strsC hv
      match vs, h2, hs with
      | v₁ :: v₂ :: rest, _, hs => exact keyKind_strs hs) hh hl ha hb hz h
end

/-! texts as sequences -/
section
variable {prog : Program} {w : World} {A : Around} {E : Value → Shared → Prop} {s : Shared}

theorem hdIt {it : Addr} {o : Obj} {ws : Array Value} {s' : Shared} (x : Hd A s.heap) (g : ExL it s s') (hi : s.heap.get? it = some o) (hd : o.data = .fields ws) (h2 : ws[2]? = none) : Hd A s'.heap := by
  refine x.imp id fun ⟨e, o1, vs, a, b, c, d⟩ => ⟨e, o1, vs, a, g.keep _ _ (fun q => ?_) b, c, d.imp id fun ⟨e1, o2, vs1, r1, r2, r3, r4, r5⟩ => ⟨e1, o2, vs1, r1, r2, g.keep _ _ (fun q => ?_) r3, r4, r5⟩⟩
  · rw [q, hi] at b; cases b; rw [hd] at c; cases c
    rcases d with d | ⟨_, _, _, d, _⟩
    · rw [h2] at d; cases d
    · rw [h2] at d; cases d
  · rw [q, hi] at r3; cases r3; rw [hd] at r4; cases r4
    rw [h2] at r5; cases r5

theorem strEnd {it : Addr} {x : Str} {t : Tok} {i : Nat} {Q : Option Value → Shared → Prop} (hdd : Hd A s.heap) (hit : s.heap.IsStrIter it "str_ascii_iterator" x t i) (hx : x.cps[i]? = none)
    (hQ : ∀ s', ExL it s s' → Q none s') : wpAny (model prog w) A (pyNext (.ref it)) Q E s := by
  obtain ⟨o, ho, hc, hd⟩ := id hit
  unfold pyNext
  refine wpAny_bind (wpAny_attempt (wpAny_callSpecial?_slot (name := Str.ofString "__next__") hit.typeIs F.slot_str_ascii_iterator_next
    (wpAny_call_entry F.slot_str_ascii_iterator_next hit.typeIs F.entry_str_ascii_iterator_next ?_ (F.args_str_ascii_iterator_next_1 _))))
  show wpAny _ _ (field (.ref it) 0 >>= _) _ _ s
  refine wpAny_bind (wpAny_field ho hd (x := .str x t) rfl ?_)
  show wpAny _ _ (field (.ref it) 1 >>= _) _ _ s
  refine wpAny_bind (wpAny_field ho hd (x := .int i 0) rfl ?_)
  simp only [Int.toNat_natCast, hx]
  refine wpAny_bind (wpAny_rule (wpAny_bind (wpAny_setField ho hd (by simp) (wpAny_bind (wpAny_letGo ?_)))))
  generalize hs1 : ({ s with heap := s.heap.update it (Obj.mapFields (·.setIfInBounds 0 .none)) } : Shared) = s1
  have x1 : ExL it s s1 := by rw [← hs1]; exact ⟨fun b o n e => (Heap.get?_update_other _ _ (Ne.symm n)).trans e, rfl, rfl⟩
  have hd1 : Hd A.in1 s1.heap := (hdIt hdd x1 ho hd rfl).in1
  show wpAny _ _ (newExc (.type "StopIteration") [] >>= _) _ _ s1
  refine wpAny_bind ?_
  simp only [newExc, newTuple]
  refine wpAny_bind (wpAny_newObj_type ?_ (by size_fits))
  refine wpAny_bind (m := firstArgMember _ _) (wpAny_of_eq (a := Value.none) (by first | rfl | (simp only [firstArgMember]; rfl)) ?_)
  refine wpAny_newObj_type ?_ (by size_fits)
  refine raiseNew_any (S := []) (hm := s1.heap) (cls := "StopIteration") (t := .ref s1.heap.objs.size) hd1 (fun b o hb => Heap.get?_push_of_some _ (Heap.get?_push_of_some _ hb)) ?_ (Heap.get?_push_size _ rfl) rfl ?_ fun h' c X hc => ?_
  · exact Heap.get?_none_of_le (by simp)
  · rfl
  · obtain ⟨oe, vs, he, hce, _⟩ := X.there
    refine wpAny_bind (wpAny_isInstance (T := "StopIteration") (b := true) ⟨oe, he, hce⟩ isSubtype_stop ?_)
    refine wpAny_pure (hQ _ (x1.trans ⟨fun b o n e => X.keep b o e (by simp), rfl, rfl⟩))

def RepSg (v : Value) (c : Nat) : Prop := ∃ u, v = .str ⟨#[c]⟩ u

theorem extStr {R : Result → Shared → Prop} {I D : Addr} {x : Str} {t : Tok} {res : Value} (hID : I ≠ D) (hx : x.cps.size ≤ 100000) :
    ∀ (k i : Nat) (s : Shared) (ms : List Value) (n : Nat), x.cps.size - i = k → i ≤ x.cps.size → s.heap.IsStrIter I "str_ascii_iterator" x t i → s.heap.get? D = some (listOf ms.toArray n) → Hd A s.heap → ms.length ≤ 200000 + i →
      (∀ s' vs n', (∀ b o, b ≠ D → b ≠ I → s.heap.get? b = some o → s'.heap.get? b = some o) → s'.os = s.os → s'.gens = s.gens → s'.heap.get? D = some (listOf (ms ++ vs).toArray n') → All2 RepSg vs (x.cps.toList.drop i) → R (.ok (.ret res)) s') →
      codeAny (model prog w) A (.builtin "list.extend.loop" ⟨[.ref D, .ref I, res], []⟩) R s := by
  intro k
  induction k with
  | zero =>
    intro i s ms n hk hi hit hD hd hz hR
    have hin : i = x.cps.size := by omega
    subst hin
    refine codeAny_builtin F.entry_extend_loop ?_
    rw [Around.under_plainId F.plain_extend_loop _]
    show wpAny _ A.in1 (pyNext (.ref I) >>= _) _ _ s
    refine wpAny_bind (strEnd hd.in1 hit (by simp) fun s' hm => ?_)
    refine wpAny_pure (hR s' [] n (fun b o _ n2 e => hm.keep b o n2 e) hm.os hm.gens ?_ ?_)
    · rw [List.append_nil]; exact hm.keep _ _ (Ne.symm hID) hD
    · rw [List.drop_of_length_le (by simp)]; exact .nil
  | succ k ih =>
    intro i s ms n hk hi hit hD hd hz hR
    have hlt : i < x.cps.size := by omega
    refine codeAny_builtin F.entry_extend_loop ?_
    rw [Around.under_plainId F.plain_extend_loop _]
    show wpAny _ A.in1 (pyNext (.ref I) >>= _) _ _ s
    obtain ⟨o, ho, hc, hdd⟩ := id hit
    refine wpAny_bind (wpAny_pyNext_ascii_item hit (c := x.cps[i]) (by simp [hlt]) fun h' hit' sb => ?_)
    have x1 : ExL I s { s with heap := h', toks := s.toks + 1 } := ⟨fun b o n e => (sb.2 b n).trans e, rfl, rfl⟩
    have hD' := x1.keep _ _ (Ne.symm hID) hD
    have hd' := hdIt hd x1 ho hdd rfl
    show wpAny _ A.in1 (updateSeq D (·.push (.str ⟨#[x.cps[i]]⟩ s.toks)) >>= _) _ _ _
    refine wpAny_bind (wpAny_updateSeq hD' rfl (wpAny_pure ⟨plainId_quiet F.plain_extend_loop _, ?_⟩) (by rw [List.size_toArray, sizeLine_eq]; omega) (by show (ms.toArray.push _).size ≤ sizeLine + 1; rw [Array.size_push, List.size_toArray, sizeLine_eq]; omega))
    have x2 : ExL D { s with heap := h', toks := s.toks + 1 } { s with heap := h'.update D (Obj.mapSeq (·.push (.str ⟨#[x.cps[i]]⟩ s.toks))), toks := s.toks + 1 } := ⟨fun b o n e => (Heap.get?_update_other _ _ (Ne.symm n)).trans e, rfl, rfl⟩
    have hD2 : (h'.update D (Obj.mapSeq (·.push (.str ⟨#[x.cps[i]]⟩ s.toks)))).get? D = some (listOf (ms ++ [Value.str ⟨#[x.cps[i]]⟩ s.toks]).toArray (n + 1)) := by
      rw [Heap.get?_update_self _ hD' rfl]
      simp [Obj.mapSeq]
    refine ih (i + 1) _ _ (n + 1) (by omega) hlt ?_ hD2 (hdOff hd' x2 ⟨_, hD', fun vs q => by cases q⟩) (by simp; omega) fun s' vs n' q1 q2 q3 q4 q5 => ?_
    · obtain ⟨o', ho', r'⟩ := hit'
      exact ⟨o', x2.keep _ _ hID ho', r'⟩
    · refine hR s' (.str ⟨#[x.cps[i]]⟩ s.toks :: vs) n' (fun b o n1 n2 e => q1 b o n1 n2 (x2.keep _ _ n1 (x1.keep _ _ n2 e))) q2 q3 ?_ ?_
      · rw [q4]; simp
      · have : x.cps.toList.drop i = x.cps[i] :: x.cps.toList.drop (i + 1) := by
          rw [List.drop_eq_getElem_cons (by simpa using hlt)]; simp
        rw [this]
        exact .cons ⟨_, rfl⟩ q5

theorem extendStr {D : Addr} {ms : List Value} {n : Nat} {x : Str} {t : Tok} {Q : Value → Shared → Prop} (hd : Hd A s.heap) (hD : s.heap.get? D = some (listOf ms.toArray n)) (hz : ms.length ≤ 200000) (hx : x.cps.size ≤ 100000) (hasc : x.cps.all (· < 128) = true)
    (h : ∀ s' vs n', ExL D s s' → s'.heap.get? D = some (listOf (ms ++ vs).toArray n') → All2 RepSg vs x.cps.toList → Q .none s') : wpAny (model prog w) A (call (.builtin "list.extend") [.ref D, .str x t]) Q E s := by
  refine wpAny_call (codeAny_call_builtin PySem.F.slot_list_extend.plain PySem.F.entry_list_extend (PySem.F.slot_list_extend.check _ _ _ _ _ _ _ _ ⟨_, hD, rfl⟩ (PySem.F.args_list_extend_2 _ _) ?_))
  show wpAny _ A.in1 (Builtin.List.listExtendWith (.ref D) (.str x t) .none) _ _ s
  unfold Builtin.List.listExtendWith
  refine wpAny_bind (wpAny_typeOf (T := "str") (v := .str x t) rfl ?_)
  have h1 : Builtin.List.listSameRef (.ref D) (.str x t) = false := rfl
  have h2 : (Value.type "str" == Value.type "list") = false := by decide
  have h3 : (Value.type "str" == Value.type "tuple") = false := by decide
  simp only [h1, h2, h3, Bool.or_false, Bool.false_eq_true, if_false]
  refine wpAny_bind (wpAny_pyIter_ascii hasc ?_)
  refine wpAny_bind (wpAny_holding ?_)
  unfold Builtin.List.listLengthHint
  refine wpAny_bind (wpAny_specialOf (T := "str") (v := .str x t) rfl F.str_len ?_)
  wp_delta
  refine wpAny_bind (wpAny_isInstance (T := "str") (v := .str x t) (b := true) rfl (by rw [isSubtype_type]; kernel_rfl) ?_)
  show wpAny _ A.in1 (typeOf (Value.str x t) >>= _) _ _ _
  refine wpAny_bind (wpAny_typeOf (T := "str") (v := .str x t) rfl ?_)
  refine wpAny_pure ?_
  rw [if_neg (by decide)]
  have g1 : Grow s { s with heap := s.heap.push { cls := .type "str_ascii_iterator", data := .fields #[.str x t, .int 0 0] } } := ⟨fun b o e => Heap.get?_push_of_some _ e, rfl, rfl⟩
  have hne : s.heap.objs.size ≠ D := Nat.ne_of_gt (Heap.lt_size hD)
  refine wpAny_pure ⟨plainId_quiet F.plain_extend_loop _, extStr hne hx (x.cps.size - 0) 0 _ ms n rfl (Nat.zero_le _) ⟨_, Heap.get?_push_size _ rfl, rfl, rfl⟩ (g1.keep _ _ hD) (hd.keep g1.keep) (by omega) fun s' vs n' q1 q2 q3 q4 q5 => ?_⟩
  refine h s' vs n' ⟨fun b o nb e => q1 b o nb (Nat.ne_of_lt (Heap.lt_size e)) (g1.keep _ _ e), q2, q3⟩ q4 ?_
  rw [List.drop_zero] at q5; exact q5
end

def lettersOf (C : List Nat) : Str := ⟨(C.map (97 + ·)).toArray⟩
abbrev numsC (C : List Nat) : List Int := List.map (fun (c : Nat) => (c : Int)) C

section
variable {prog : Program} {w : World} {A : Around} {E : Value → Shared → Prop} {s : Shared} {S : List Addr}

theorem getItem_str_out {x : Str} {k : Nat} {t u : Tok} {Q : Value → Shared → Prop} (hd : Hd A s.heap) (hout : x.cps.size ≤ k) (hhi : k < 200000)
    (hE : ∀ h' tk e c, Fly s.heap.get? S e "IndexError" false c h' → c = A.handled.getD .none → E (.ref e) { s with heap := h', toks := tk }) :
    wpAny (model prog w) A (getItem (.str x t) (.int (k : Nat) u)) Q E s := by
  have hT := typeIs_str s x t
  unfold getItem
  try with_reducible refine wpAny_holding ?_
  refine wpAny_bind (wpAny_sequenceKey hT (by decide) ?_)
  refine wpAny_bind (wpAny_callSpecial?_slot (name := Str.ofString "__getitem__") hT F.slot_str_getitem
    (wpAny_call_entry F.slot_str_getitem hT F.entry_str_getitem ?_ (F.args_str_getitem_2 _ _)))
  have hn : (seqIndex? ((k : Nat) : Int) x.length).bind (x.cps[·]?) = none := by
    unfold seqIndex?
    have n0 : ¬ ((k : Nat) : Int) < 0 := by omega
    simp only [if_neg n0]
    rw [if_neg]
    · rfl
    · have : x.length = x.cps.size := rfl
      simp [this]; omega
  have hr : (decide (((k : Nat) : Int) < -(2 ^ 63 : Int)) || decide (((k : Nat) : Int) ≥ 2 ^ 63)) = false := by
    rw [decide_eq_false (by omega), decide_eq_false (by omega)]; rfl
  show wpAny _ _ (if (decide (((k : Nat) : Int) < -(2 ^ 63 : Int)) || decide (((k : Nat) : Int) ≥ 2 ^ 63)) = true then _ else
          match (seqIndex? ((k : Nat) : Int) x.length).bind (x.cps[·]?) with
          | some c => retStr ⟨#[c]⟩
          | none => _) _ _ s
  rw [hr, hn, if_neg (by decide)]
  first
    | exact wpAny_bind (wpAny_rule (raiseWords_any plainExc_IndexError hd hE))
    | exact wpAny_bind (wpAny_rule (wpAny_bind (raiseWords_any plainExc_IndexError hd hE)))
    | exact wpAny_bind (wpAny_bind (wpAny_rule (raiseWords_any plainExc_IndexError hd hE)))
    | exact wpAny_rule (raiseWords_any plainExc_IndexError hd hE)

theorem all2_sg {vs : List Value} {C : List Nat} (h : All2 RepSg vs (C.map (97 + ·))) : All2 RepC vs (numsC C) := by
  induction C generalizing vs with
  | nil => cases h; exact .nil
  | cons c C ih =>
    cases h with
    | cons r h => obtain ⟨u, rfl⟩ := r; exact .cons ⟨c, u, rfl, rfl⟩ (ih h)

theorem sqStr {h₀ : Heap} {t : Tok} {C : List Nat} (hC : ∀ c ∈ C, c < 31) (hz : C.length < 1000) : Sq prog w S h₀ RepC (.str (lettersOf C) t) (numsC C) where
  len := by rw [List.length_map]; omega
  get := by
    intro A E s Q value x p i t' kp hi h
    rw [List.length_map] at hi
    have hc : (seqIndex? ((i : Nat) : Int) (lettersOf C).length).bind ((lettersOf C).cps[·]?) = some (97 + C[i]) := StrLaws.at_nonneg (by omega) (by simp [lettersOf, hi])
    refine tail_any (typeIs_str s _ t) F.slot_str_getitem.lookup (PySem.P.getItem_str (by rw [decide_eq_false (by omega), decide_eq_false (by omega)]; rfl) hc (h _ _ (Grow.toks _ _) ?_)) rfl
    rw [List.getElem_map]
    exact ⟨C[i], _, rfl, rfl⟩
  out := by
    intro A E s S' Q value x p i t' kp hd hi hb h
    rw [List.length_map] at hi
    exact tail_any (typeIs_str s _ t) F.slot_str_getitem.lookup (getItem_str_out hd (by simp [lettersOf]; omega) hb h) rfl
  cut := by
    intro A E s Q value lo p i t' sl aM ms k kp hu hd hsl hi hM hms nM h
    rw [List.length_map] at hi
    have hs : s.heap.IsSlice sl (some ((i : Int), t')) none none := hsl
    have hsz : (lettersOf C).length ≤ sizeLine := by
      have : (lettersOf C).length = C.length := by simp [lettersOf, Str.length]
      rw [this, sizeLine_eq]; omega
    have e : StrLaws.sliceText (lettersOf C) (some (i : Int)) none = lettersOf (C.drop i) := by
      rw [StrLaws.sliceText_from ⟨by omega, by simp [lettersOf]; omega⟩]
      simp only [lettersOf, Int.toNat_natCast, List.map_drop]
      congr 2
      rw [List.take_of_length_le]
      simp
    have hcut : ∀ (v : Value) (s₁ : Shared), (∃ t2, v = .str (lettersOf (C.drop i)) t2) → Grow s s₁ → wpAny (model prog w) A (call (.builtin "list.extend") [.ref aM, v]) Q E s₁ := by
      rintro v s₁ ⟨t2, rfl⟩ g
      refine extendStr (hd.keep g.keep) (g.keep _ _ hM) (by omega) (by simp [lettersOf]; omega) ?_ fun s' vs n' x hD' ha => ?_
      · rw [Array.all_eq_true']
        intro c hc
        simp only [lettersOf, List.mem_toArray, List.mem_map] at hc
        obtain ⟨d, hd', rfl⟩ := hc
        have := hC d (List.mem_of_mem_drop hd')
        simp; omega
      · refine h s' vs n' (g.exL.trans x) hD' ?_
        have : All2 RepC vs (numsC (C.drop i)) := all2_sg (by simpa [lettersOf] using ha)
        rw [← List.map_drop]; exact this
    refine tail_any (typeIs_str s _ t) F.slot_str_getitem.lookup (wpAny_getItem_str_slice hs rfl ?_) rfl
    unfold sliceMade
    have hpk : slicePicked (lettersOf C) (some ((i : Int), t')) none none = Builtin.Str.strSliceIndices (some (i : Int)) none 1 (lettersOf C).length := rfl
    rw [hpk]
    unfold StrLaws.sliceText at e
    split
    · rename_i hq
      have hq' : ((1 : Int) == 1 && (Builtin.Str.strSliceIndices (some (i : Int)) none 1 (lettersOf C).length).length == (lettersOf C).length) = true := hq
      rw [if_pos hq'] at e
      exact hcut _ _ ⟨t, by rw [e]⟩ (.refl _)
    · rename_i hq
      have hq' : ¬ ((1 : Int) == 1 && (Builtin.Str.strSliceIndices (some (i : Int)) none 1 (lettersOf C).length).length == (lettersOf C).length) = true := hq
      rw [if_neg hq'] at e
      refine ⟨?_, ?_⟩
      · rw [e]
        have : (lettersOf (C.drop i)).length = C.length - i := by simp [lettersOf, Str.length]
        rw [this, sizeLine_eq]; omega
      · refine hcut _ _ ⟨s.toks, by rw [e]⟩ (Grow.toks _ _)
end

theorem eqCk {prog : Program} {w : World} {S : List Addr} {h₀ : Heap} : EqOk prog w S h₀ RepC (fun x y => x == y) := fun _ _ r1 r2 h => ikChr.eq r1 r2 (h _ (.refl _))
theorem ltCk {prog : Program} {w : World} {S : List Addr} {h₀ : Heap} : LtOk prog w S h₀ RepC (fun x y => some (decide (x < y))) := by
  intro A E s Q v u x y _ _ _ r1 r2 h _
  obtain ⟨c, t, rfl, rfl⟩ := r1
  obtain ⟨c', t', rfl, rfl⟩ := r2
  refine (PyProof.Rows.lt_str ?_ : wpAny (model prog w) A (compareOp .Lt _ _) Q E s)
  have := h _ rfl s (.refl _)
  rw [lt1]
  exact this
theorem gtCk {prog : Program} {w : World} {S : List Addr} {h₀ : Heap} : GtOk prog w S h₀ RepC (fun x y => some (decide (x < y))) (fun x y => decide (x > y)) := fun _ _ _ r1 r2 _ h => ikChr.gt r1 r2 (h _ (.refl _))

/-! what each answer holds, for lists in order -/
def incl (p : Option Int) (a : Int) (B : List Int) : Bool := !(B.contains a) && (p != some a || B.all fun b => decide (b < a))
def due {α : Type} (key : α → Int) (B : List Int) : Option Int → List α → List α
  | _, [] => []
  | p, a :: A => if incl p (key a) B then a :: due key B (some (key a)) A else due key B (some (key a)) A
def lastK {α : Type} (key : α → Int) (p : Option Int) (A : List α) : Option Int := match A.getLast? with
  | some b => some (key b)
  | none => p

section
variable {α : Type} {key : α → Int} {B B' : List Int} {x : Int}

theorem due_snoc (a : α) : ∀ (A : List α) (p : Option Int), due key B p (A ++ [a]) = due key B p A ++ if incl (lastK key p A) (key a) B then [a] else []
  | [], p => by show (if incl p (key a) B = true then [a] else []) = [] ++ _; rw [List.nil_append]; rfl
  | b :: A, p => by
    have e : lastK key (some (key b)) A = lastK key p (b :: A) := by
      unfold lastK
      cases A with
      | nil => rfl
      | cons c A => rw [List.getLast?_cons_cons]; rfl
    rw [List.cons_append, due, due, due_snoc a A, e]
    split <;> simp

theorem due_skip (h : incl (some x) x B = false) : ∀ A : List α, due key B (some x) A = due key B (some x) (A.dropWhile fun z => key z == x)
  | [] => rfl
  | a :: A => by
    rw [List.dropWhile_cons]
    by_cases e : key a = x
    · rw [if_pos (by simpa using e), due, e, h, if_neg (by decide)]
      exact due_skip h A
    · rw [if_neg (by simpa using e)]
theorem due_prev (A : List α) (h : ∀ a ∈ A, x < key a) : due key B (some x) A = due key B none A := by
  cases A with
  | nil => rfl
  | cons a A =>
    have hx := h a (.head _)
    have e : incl (some x) (key a) B = incl none (key a) B := by
      unfold incl
      have : (some x != some (key a)) = true := by simp; omega
      rw [this]; rfl
    rw [due, due, e]
theorem due_congr : ∀ (A : List α) (p : Option Int), (∀ a ∈ A, ∀ p, incl p (key a) B = incl p (key a) B') → due key B p A = due key B' p A
  | [], _, _ => rfl
  | a :: A, p, h => by rw [due, due, h a (.head _) p, due_congr A _ fun b hb => h b (.tail _ hb)]
theorem incl_congr {a : Int} (h1 : B.contains a = B'.contains a) (h2 : (B.all fun b => decide (b < a)) = B'.all fun b => decide (b < a)) (p : Option Int) : incl p a B = incl p a B' := by
  unfold incl; rw [h1, h2]

abbrev Srt (key : α → Int) (l : List α) : Prop := l.Pairwise fun x y => key x ≤ key y

theorem rest_gt {x : α} {xs : List α} (h : Srt key (x :: xs)) : ∀ a ∈ xs.dropWhile (fun z => key z == key x), key x < key a := by
  have h' := List.pairwise_cons.mp h
  intro a ha
  have hle := h'.1 a ((List.dropWhile_sublist _).subset ha)
  have sd : Srt key (xs.dropWhile fun z => key z == key x) := h'.2.sublist (List.dropWhile_sublist _)
  cases hd : xs.dropWhile (fun z => key z == key x) with
  | nil => rw [hd] at ha; cases ha
  | cons b bs =>
    have hb : ¬ (key b == key x) = true := by
      have := List.head?_dropWhile_not (fun z => key z == key x) xs
      rw [hd] at this
      simpa using this
    have hb' : key b ≠ key x := by simpa using hb
    have hbx := h'.1 b ((List.dropWhile_sublist _).subset (by rw [hd]; exact .head _))
    rw [hd] at ha sd
    rcases List.mem_cons.mp ha with rfl | ha
    · omega
    · have := (List.pairwise_cons.mp sd).1 a ha
      omega
theorem split_run {x : α} (xs : List α) : ∃ n, (xs.map key) = List.replicate n (key x) ++ (xs.dropWhile fun z => key z == key x).map key := by
  induction xs with
  | nil => exact ⟨0, rfl⟩
  | cons a xs ih =>
    rw [List.dropWhile_cons]
    by_cases e : key a = key x
    · obtain ⟨n, hn⟩ := ih
      rw [if_pos (by simpa using e)]
      exact ⟨n + 1, by rw [List.map_cons, e, hn]; rfl⟩
    · rw [if_neg (by simpa using e)]
      exact ⟨0, rfl⟩
theorem run_contains {x : α} {xs : List α} {b : Int} (hb : b ≠ key x) : ((x :: xs).map key).contains b = ((xs.dropWhile fun z => key z == key x).map key).contains b := by
  obtain ⟨n, hn⟩ := split_run (key := key) (x := x) xs
  rw [List.map_cons, hn, List.contains_cons]
  have e1 : (b == key x) = false := by simpa using hb
  rw [e1, Bool.false_or]
  rw [Bool.eq_iff_iff]
  simp only [List.contains_iff_mem, List.mem_append, List.mem_replicate]
  constructor
  · rintro (h | h)
    · exact absurd h.2 hb
    · exact h
  · exact .inr
theorem run_all {x : α} {xs : List α} {b : Int} (hb : key x < b) : (((x :: xs).map key).all fun c => decide (c < b)) = ((xs.dropWhile fun z => key z == key x).map key).all fun c => decide (c < b) := by
  obtain ⟨n, hn⟩ := split_run (key := key) (x := x) xs
  rw [List.map_cons, hn, List.all_cons, List.all_append, decide_eq_true hb, Bool.true_and]
  have : ((List.replicate n (key x)).all fun c => decide (c < b)) = true := by
    rw [List.all_eq_true]
    intro c hc
    rw [(List.mem_replicate.mp hc).2]
    simpa using hb
  rw [this, Bool.true_and]
theorem run_incl {x : α} {xs : List α} {b : Int} (hb : key x < b) (p : Option Int) : incl p b ((x :: xs).map key) = incl p b ((xs.dropWhile fun z => key z == key x).map key) :=
  incl_congr (run_contains (by omega)) (run_all hb) p

theorem plainDue : ∀ (N : Nat) (X Y : List α), X.length + Y.length ≤ N → Srt key X → Srt key Y →
    sld (fun a b => some (decide (key a < key b))) (fun a b => decide (key a > key b)) (fun a b => key a == key b) X Y = some (due key (Y.map key) none X, due key (X.map key) none Y) := by
  have dueNil : ∀ (l : List α) (p : Option Int), due key [] p l = l := by
    intro l
    induction l with
    | nil => intro p; rfl
    | cons a l ih => intro p; rw [due, if_pos (by simp [incl]), ih]
  intro N
  induction N with
  | zero =>
    intro X Y h _ _
    cases X with
    | nil => cases Y with
      | nil => rw [sld_nil]; rfl
      | cons _ _ => simp at h
    | cons _ _ => simp at h
  | succ N ih =>
    intro X Y h sX sY
    cases X with
    | nil => rw [sld_nil, List.map_nil, dueNil]; rfl
    | cons x xs => cases Y with
      | nil => rw [sld_nil', List.map_nil, dueNil]; rfl
      | cons y ys =>
        rw [sld_cons]
        have l1 := dropWhile_len (fun z => key z == key x) xs
        have l2 := dropWhile_len (fun z => key z == key y) ys
        have sX' := List.pairwise_cons.mp sX
        have sY' := List.pairwise_cons.mp sY
        have r1 : Srt key (xs.dropWhile fun z => key z == key x) := sX'.2.sublist (List.dropWhile_sublist _)
        have r2 : Srt key (ys.dropWhile fun z => key z == key y) := sY'.2.sublist (List.dropWhile_sublist _)
        have g1 := rest_gt sX
        have g2 := rest_gt sY
        simp only [List.length_cons] at h
        have mY : ∀ b ∈ (y :: ys).map key, key y ≤ b := by
          intro b hb
          obtain ⟨c, hc, rfl⟩ := List.mem_map.mp hb
          rcases List.mem_cons.mp hc with rfl | hc
          · exact Int.le_refl _
          · exact sY'.1 c hc
        have mX : ∀ b ∈ (x :: xs).map key, key x ≤ b := by
          intro b hb
          obtain ⟨c, hc, rfl⟩ := List.mem_map.mp hb
          rcases List.mem_cons.mp hc with rfl | hc
          · exact Int.le_refl _
          · exact sX'.1 c hc
        have below : ∀ {p : Option Int} {z : α} {zs : List α} {c : Int}, c < key z → (∀ b ∈ (z :: zs).map key, key z ≤ b) → incl p c ((z :: zs).map key) = (p != some c) := by
          intro p z zs c hc hm
          unfold incl
          have e1 : ((z :: zs).map key).contains c = false := by
            rw [Bool.eq_false_iff]
            intro q
            have := hm c (List.contains_iff_mem.mp q)
            omega
          have e2 : (((z :: zs).map key).all fun b => decide (b < c)) = false := by
            rw [List.map_cons, List.all_cons, decide_eq_false (by omega), Bool.false_and]
          rw [e1, e2]; simp
        have same : ∀ {p : Option Int} {z : α} {zs : List α} {c : Int}, c = key z → incl p c ((z :: zs).map key) = false := by
          intro p z zs c hc
          unfold incl
          rw [List.map_cons, List.contains_cons, hc]; simp
        by_cases hlt : key x < key y
        · rw [decide_eq_true hlt]
          dsimp only
          rw [ih _ _ (by simp only [List.length_cons]; omega) r1 sY]
          have e1 : due key ((y :: ys).map key) none (x :: xs) = x :: due key ((y :: ys).map key) none (xs.dropWhile fun z => key z == key x) := by
            rw [due, below hlt mY, if_pos (by simp), due_skip (by rw [below hlt mY]; simp), due_prev _ g1]
          have e2 : due key ((x :: xs).map key) none (y :: ys) = due key ((xs.dropWhile fun z => key z == key x).map key) none (y :: ys) :=
            due_congr _ _ fun b hb p => run_incl (by have := mY (key b) (List.mem_map.mpr ⟨b, hb, rfl⟩); omega) p
          rw [e1, e2]; rfl
        · rw [decide_eq_false hlt]
          dsimp only
          by_cases hgt : key x > key y
          · rw [decide_eq_true hgt, if_pos rfl, ih _ _ (by simp only [List.length_cons]; omega) sX r2]
            have e1 : due key ((x :: xs).map key) none (y :: ys) = y :: due key ((x :: xs).map key) none (ys.dropWhile fun z => key z == key y) := by
              rw [due, below hgt mX, if_pos (by simp), due_skip (by rw [below hgt mX]; simp), due_prev _ g2]
            have e2 : due key ((y :: ys).map key) none (x :: xs) = due key ((ys.dropWhile fun z => key z == key y).map key) none (x :: xs) :=
              due_congr _ _ fun b hb p => run_incl (by have := mX (key b) (List.mem_map.mpr ⟨b, hb, rfl⟩); omega) p
            rw [e1, e2]; rfl
          · have heq : key x = key y := by omega
            rw [decide_eq_false hgt, if_neg (by decide), ih _ _ (by omega) r1 r2]
            have e1 : due key ((y :: ys).map key) none (x :: xs) = due key ((ys.dropWhile fun z => key z == key y).map key) none (xs.dropWhile fun z => key z == key x) := by
              rw [due, same heq, if_neg (by decide), due_skip (same heq), due_prev _ g1]
              exact due_congr _ _ fun b hb p => run_incl (by have := g1 b hb; omega) p
            have e2 : due key ((x :: xs).map key) none (y :: ys) = due key ((xs.dropWhile fun z => key z == key x).map key) none (ys.dropWhile fun z => key z == key y) := by
              rw [due, same heq.symm, if_neg (by decide), due_skip (same heq.symm), due_prev _ g2]
              exact due_congr _ _ fun b hb p => run_incl (by have := g2 b hb; omega) p
            rw [e1, e2]
end

/-! law 04: the plain law -/
theorem snocInd {α : Type} {P : List α → Prop} (h0 : P []) (h1 : ∀ l a, P l → P (l ++ [a])) (l : List α) : P l := by
  have : ∀ l : List α, P l.reverse := fun l => by
    induction l with
    | nil => exact h0
    | cons a l ih => rw [List.reverse_cons]; exact h1 _ _ ih
  have := this l.reverse
  rwa [List.reverse_reverse] at this

def srt (l : List Int) : List Int := l.mergeSort fun a b => decide (a ≤ b)
abbrev Le (l : List Int) : Prop := l.Pairwise (· ≤ ·)
theorem srt_perm (l : List Int) : (srt l).Perm l := List.mergeSort_perm _ _
theorem srt_le (l : List Int) : Le (srt l) := by
  have := List.pairwise_mergeSort (le := fun a b : Int => decide (a ≤ b)) (fun a b c h1 h2 => by simp at *; omega) (fun a b => by simp; omega) l
  exact this.imp fun h => by simpa using h
theorem le_uniq {a b : List Int} (ha : Le a) (hb : Le b) (hp : a.Perm b) : a = b := List.Perm.eq_of_pairwise (le := (· ≤ ·)) (fun a b _ _ h1 h2 => by omega) ha hb hp
theorem srt_uniq {a l : List Int} (ha : Le a) (hp : a.Perm l) : a = srt l := le_uniq ha (srt_le l) (hp.trans (srt_perm l).symm)
theorem count_uniq {a b : List Int} (ha : Le a) (hb : Le b) (h : ∀ n, a.count n = b.count n) : a = b := le_uniq ha hb (List.perm_iff_count.mpr h)

theorem due_sub {B : List Int} : ∀ (A : List Int) (p : Option Int), (due (fun x => x) B p A).Sublist A
  | [], _ => .slnil
  | a :: A, p => by
    rw [due]
    split
    · exact (due_sub A _).cons_cons a
    · exact (due_sub A _).cons a
theorem due_count {B : List Int} (n : Int) : ∀ (A : List Int) (p : Option Int), Le A → (∀ q, p = some q → ∀ a ∈ A, q ≤ a) →
    (due (fun x => x) B p A).count n = if B.contains n then 0 else if B.all fun b => decide (b < n) then A.count n else if n ∈ A ∧ p ≠ some n then 1 else 0
  | [], p, _, _ => by simp [due]
  | a :: A, p, hs, hp => by
    have hs' := List.pairwise_cons.mp hs
    have ih := due_count (B := B) n A (some a) hs'.2 fun q e b hb => by cases e; exact hs'.1 b hb
    have e0 : (due (fun x => x) B p (a :: A)).count n = (if incl p a B = true ∧ a = n then 1 else 0) + (due (fun x => x) B (some a) A).count n := by
      rw [due]
      cases hi : incl p a B with
      | true =>
        rw [if_pos rfl, List.count_cons]
        by_cases h : a = n
        · rw [if_pos (by simpa using h), if_pos ⟨rfl, h⟩]; omega
        · rw [if_neg (by simpa using h), if_neg (fun q => h q.2)]; omega
      | false => simp
    rw [e0, ih]
    by_cases h : a = n
    · subst h
      unfold incl
      by_cases c1 : B.contains a = true
      · have : a ∈ B := by simpa using c1
        simp [this]
      · by_cases c2 : (B.all fun b => decide (b < a)) = true
        · rw [if_neg c1, if_neg c1, if_pos c2, if_pos c2, List.count_cons]
          simp only [Bool.not_eq_true] at c1
          simp only [c1, c2]
          simp
          omega
        · rw [if_neg c1, if_neg c1, if_neg c2, if_neg c2]
          simp only [Bool.not_eq_true] at c1 c2
          simp only [c1, c2]
          simp
    · have hn : n ∈ a :: A ↔ n ∈ A := by
        rw [List.mem_cons]
        exact ⟨fun q => q.resolve_left fun q => h q.symm, .inr⟩
      have e1 : (a :: A).count n = A.count n := List.count_cons_of_ne (by simpa using h)
      have e2 : (n ∈ A ∧ some a ≠ some n) ↔ (n ∈ a :: A ∧ p ≠ some n) := by
        rw [hn]
        refine and_congr_right fun hA => ⟨fun _ q => ?_, fun _ q => h (by injection q)⟩
        have h1 := hp n q a (.head _)
        have h2 := hs'.1 n hA
        omega
      rw [if_neg (fun q => h q.2), e1]
      simp only [e2]
      omega

/-- the two answers -/
def ansM (S r : List Int) : List Int := due (fun x => x) r none S
def stepS (S r : List Int) : List Int := srt (ansM S r ++ ansM r S)
theorem ansM_le {S r : List Int} (h : Le S) : Le (ansM S r) := List.Pairwise.sublist (due_sub S none) h
theorem ansM_count {S r : List Int} (h : Le S) (n : Int) : (ansM S r).count n = if r.contains n then 0 else if r.all fun b => decide (b < n) then S.count n else if n ∈ S then 1 else 0 := by
  have := due_count (B := r) n S none h (fun q e => by cases e)
  unfold ansM
  rw [this]
  simp
theorem ansM_mem {S r : List Int} (h : Le S) (n : Int) : n ∈ ansM S r ↔ n ∈ S ∧ n ∉ r := by
  rw [← List.count_pos_iff, ansM_count h]
  by_cases c : r.contains n = true
  · rw [if_pos c]
    have : n ∈ r := by simpa using c
    simp [this]
  · rw [if_neg c]
    have : n ∉ r := by simpa using c
    by_cases c2 : (r.all fun b => decide (b < n)) = true
    · rw [if_pos c2, List.count_pos_iff]; simp [this]
    · rw [if_neg c2]
      by_cases c3 : n ∈ S
      · simp [c3, this]
      · simp [c3]
theorem stepS_count {S r : List Int} (h : Le S) (hr : Le r) (n : Int) : (stepS S r).count n =
    if n ∈ r then (if n ∈ S then 0 else if ∀ b ∈ S, b < n then r.count n else 1) else (if ∀ b ∈ r, b < n then S.count n else if n ∈ S then 1 else 0) := by
  unfold stepS
  rw [(srt_perm _).count_eq, List.count_append, ansM_count h, ansM_count hr]
  have a1 : ∀ (l : List Int), (l.all fun b => decide (b < n)) = decide (∀ b ∈ l, b < n) := fun l => by
    rw [Bool.eq_iff_iff]; simp
  have c1 : ∀ l : List Int, l.contains n = decide (n ∈ l) := fun l => by rw [Bool.eq_iff_iff]; simp
  simp only [a1, c1, decide_eq_true_eq]
  by_cases hr' : n ∈ r
  · rw [if_pos hr', if_pos hr']
    simp only [hr', if_true]
    omega
  · rw [if_neg hr', if_neg hr']
    have z : r.count n = 0 := List.count_eq_zero.mpr hr'
    by_cases hS : n ∈ S
    · simp [hS, hr']
    · simp [hS, z, hr']

def oddL (rows : List (List Int)) : List Int := rows.foldl stepS []
theorem oddL_snoc (rows : List (List Int)) (r : List Int) : oddL (rows ++ [r]) = stepS (oddL rows) r := by unfold oddL; rw [List.foldl_append]; rfl
theorem oddL_le (rows : List (List Int)) : Le (oddL rows) := by
  refine snocInd (P := fun rows => Le (oddL rows)) List.Pairwise.nil (fun l a _ => ?_) rows
  rw [oddL_snoc]; exact srt_le _

theorem getD_left {α : Type} {a b : List α} {k : Nat} {d : α} (h : k < a.length) : (a ++ b).getD k d = a.getD k d := by
  rw [List.getD_eq_getElem?_getD, List.getD_eq_getElem?_getD, List.getElem?_append_left h]

/-! where a number lies -/
def placesOf (rows : List (List Int)) (n : Int) : List Nat := (List.range rows.length).filter fun k => (rows.getD k []).contains n
def lastP (rows : List (List Int)) (n : Int) : Nat := (placesOf rows n).getLast?.getD 0
theorem places_snoc (rows : List (List Int)) (r : List Int) (n : Int) : placesOf (rows ++ [r]) n = placesOf rows n ++ if r.contains n then [rows.length] else [] := by
  unfold placesOf
  rw [List.length_append, List.length_singleton, List.range_succ, List.filter_append]
  congr 1
  · refine List.filter_congr fun k hk => ?_
    rw [List.mem_range] at hk
    rw [getD_left hk]
  · have e : (rows ++ [r]).getD rows.length [] = r := by simp [List.getD_eq_getElem?_getD]
    rw [List.filter_cons, e]
    rfl
theorem places_lt {rows : List (List Int)} {n : Int} {k : Nat} (h : k ∈ placesOf rows n) : k < rows.length := by
  have := (List.mem_filter.mp h).1
  simpa using this
theorem places_nil {rows : List (List Int)} {n : Int} : placesOf rows n = [] ↔ n ∉ rows.flatten := by
  unfold placesOf
  rw [List.filter_eq_nil_iff]
  constructor
  · intro h hm
    obtain ⟨r, hr, hn⟩ := List.mem_flatten.mp hm
    obtain ⟨k, hk, rfl⟩ := List.mem_iff_getElem.mp hr
    refine h k (by simpa using hk) ?_
    rw [List.getD_eq_getElem?_getD, List.getElem?_eq_getElem hk]
    simpa using hn
  · intro h k hk hc
    have hk' : k < rows.length := by simpa using hk
    rw [List.getD_eq_getElem?_getD, List.getElem?_eq_getElem hk'] at hc
    exact h (List.mem_flatten.mpr ⟨_, List.getElem_mem hk', by simpa using hc⟩)
theorem lastP_mem {rows : List (List Int)} {n : Int} (h : n ∈ rows.flatten) : lastP rows n ∈ placesOf rows n := by
  unfold lastP
  have : placesOf rows n ≠ [] := fun q => places_nil.mp q h
  rw [List.getLast?_eq_some_getLast this]
  exact List.getLast_mem this

/-- nothing above n lies behind its last place, nor in an odd number of rows before it -/
def Cond (rows : List (List Int)) (n : Int) : Prop := ∀ m ∈ rows.flatten, n < m → ¬ lastP rows n < lastP rows m ∧ ¬ ((placesOf rows m).filter fun k => decide (k < lastP rows n)).length % 2 = 1

theorem mod2_cases (n : Nat) : n % 2 = 0 ∨ n % 2 = 1 := by omega

theorem filter_all_lt {l : List Nat} {N : Nat} (h : ∀ k ∈ l, k < N) : l.filter (fun k => decide (k < N)) = l := List.filter_eq_self.mpr fun k hk => by simpa using h k hk

theorem odd_count (rows : List (List Int)) (hs : ∀ r ∈ rows, Le r) (n : Int) :
    ((placesOf rows n).length % 2 = 0 → (oddL rows).count n = 0) ∧
    ((placesOf rows n).length % 2 = 1 → Cond rows n → (oddL rows).count n = (rows.getD (lastP rows n) []).count n) ∧
    ((placesOf rows n).length % 2 = 1 → ¬ Cond rows n → (oddL rows).count n = 1) := by
  revert hs n
  refine snocInd (P := fun rows => (∀ r ∈ rows, Le r) → ∀ n, ((placesOf rows n).length % 2 = 0 → (oddL rows).count n = 0) ∧
    ((placesOf rows n).length % 2 = 1 → Cond rows n → (oddL rows).count n = (rows.getD (lastP rows n) []).count n) ∧
    ((placesOf rows n).length % 2 = 1 → ¬ Cond rows n → (oddL rows).count n = 1)) ?_ ?_ rows
  · intro _ n
    refine ⟨fun _ => rfl, fun h => ?_, fun h => ?_⟩ <;> cases h
  · intro rows r ih hs n
    have hsr : Le r := hs r (by simp)
    have hso := oddL_le rows
    have ih' := ih fun r' h' => hs r' (List.mem_append.mpr (.inl h'))
    -- a number is in the list if and only if it lies in an odd number of rows
    have mem : ∀ m, m ∈ oddL rows ↔ (placesOf rows m).length % 2 = 1 := by
      intro m
      obtain ⟨i1, i2, i3⟩ := ih' m
      rw [← List.count_pos_iff]
      constructor
      · intro h
        rcases mod2_cases (placesOf rows m).length with q | q
        · rw [i1 q] at h; omega
        · exact q
      · intro q
        have hm : m ∈ rows.flatten := Classical.byContradiction fun c => by rw [places_nil.mpr c] at q; cases q
        by_cases c : Cond rows m
        · rw [i2 q c, List.count_pos_iff]
          have := (List.mem_filter.mp (lastP_mem hm)).2
          simpa using this
        · rw [i3 q c]; omega
    have cnt := stepS_count hso hsr n
    rw [← oddL_snoc] at cnt
    have pl := places_snoc rows r
    by_cases hn : n ∈ r
    · have hc : r.contains n = true := by simpa using hn
      have ep : placesOf (rows ++ [r]) n = placesOf rows n ++ [rows.length] := by rw [pl, if_pos hc]
      have el : lastP (rows ++ [r]) n = rows.length := by unfold lastP; rw [ep]; simp
      have er : (rows ++ [r]).getD rows.length [] = r := by simp [List.getD_eq_getElem?_getD]
      rw [if_pos hn] at cnt
      rw [ep, el, er, List.length_append, List.length_singleton]
      have ec : (placesOf rows n).length % 2 = 0 → (Cond (rows ++ [r]) n ↔ ∀ b ∈ oddL rows, b < n) := by
          intro q
          unfold Cond
          rw [el]
          constructor
          · intro h b hb
            rcases Int.lt_trichotomy b n with c | c | c
            · exact c
            · subst c; rw [mem] at hb; omega
            · have ob := (mem b).mp hb
              have hbm : b ∈ (rows ++ [r]).flatten := by
                rw [List.flatten_append]
                refine List.mem_append.mpr (.inl (Classical.byContradiction fun c' => ?_))
                rw [places_nil.mpr c'] at ob; cases ob
              refine absurd ?_ (h b hbm c).2
              rw [pl, List.filter_append, filter_all_lt fun k hk => places_lt hk]
              have e0 : (List.filter (fun k => decide (k < rows.length)) (if r.contains b then [rows.length] else [])) = [] := by
                split <;> simp
              rw [e0, List.append_nil]; exact ob
          · intro h m hm hnm
            refine ⟨?_, fun hodd => ?_⟩
            · unfold lastP
              have : ∀ k ∈ placesOf (rows ++ [r]) m, k < rows.length + 1 := fun k hk => by have := places_lt hk; simpa using this
              cases hl : (placesOf (rows ++ [r]) m).getLast? with
              | none => simp
              | some k =>
                have := this k (List.mem_of_getLast? hl)
                simp; omega
            · rw [pl, List.filter_append, filter_all_lt fun k hk => places_lt hk] at hodd
              have e0 : (List.filter (fun k => decide (k < rows.length)) (if r.contains m then [rows.length] else [])) = [] := by
                split <;> simp
              rw [e0, List.append_nil] at hodd
              have := h m ((mem m).mpr hodd)
              omega
      refine ⟨fun q => ?_, fun q c => ?_, fun q c => ?_⟩
      · rw [cnt, if_pos ((mem n).mpr (by omega))]
      · have q0 : (placesOf rows n).length % 2 = 0 := by omega
        rw [cnt, if_neg (fun h => by rw [mem] at h; omega), if_pos ((ec q0).mp c)]
      · have q0 : (placesOf rows n).length % 2 = 0 := by omega
        rw [cnt, if_neg (fun h => by rw [mem] at h; omega), if_neg fun h => c ((ec q0).mpr h)]
    · have hc : r.contains n = false := by simpa using hn
      have ep : placesOf (rows ++ [r]) n = placesOf rows n := by rw [pl, hc]; simp
      have el : lastP (rows ++ [r]) n = lastP rows n := by unfold lastP; rw [ep]
      rw [if_neg hn] at cnt
      rw [ep, el]
      obtain ⟨i1, i2, i3⟩ := ih' n
      refine ⟨fun q => ?_, ?_⟩
      · rw [cnt]
        have : n ∉ oddL rows := fun h => by rw [mem] at h; omega
        rw [if_neg this, i1 q]; simp
      · suffices hh : (placesOf rows n).length % 2 = 1 → (Cond (rows ++ [r]) n ↔ Cond rows n ∧ ∀ b ∈ r, b < n) by
          have key : (placesOf rows n).length % 2 = 1 → ((rows ++ [r]).getD (lastP rows n) []) = rows.getD (lastP rows n) [] := by
            intro q
            have hm : n ∈ rows.flatten := Classical.byContradiction fun c => by rw [places_nil.mpr c] at q; cases q
            rw [getD_left (places_lt (lastP_mem hm))]
          refine ⟨fun q c => ?_, fun q c => ?_⟩
          · obtain ⟨c1, c2⟩ := (hh q).mp c
            rw [cnt, if_pos c2, i2 q c1, key q]
          · rw [cnt]
            by_cases c2 : ∀ b ∈ r, b < n
            · rw [if_pos c2]
              exact i3 q fun c1 => c ((hh q).mpr ⟨c1, c2⟩)
            · rw [if_neg c2, if_pos ((mem n).mpr q)]
        intro q
        have hm : n ∈ rows.flatten := Classical.byContradiction fun c => by rw [places_nil.mpr c] at q; cases q
        have hlt := places_lt (lastP_mem hm)
        have fil : ∀ m, ((placesOf (rows ++ [r]) m).filter fun k => decide (k < lastP rows n)) = (placesOf rows m).filter fun k => decide (k < lastP rows n) := by
          intro m
          rw [pl, List.filter_append]
          have e0 : (List.filter (fun k => decide (k < lastP rows n)) (if r.contains m then [rows.length] else [])) = [] := by
            split
            · simp; omega
            · rfl
          rw [e0, List.append_nil]
        unfold Cond
        rw [el]
        simp only [fil]
        constructor
        · intro h
          refine ⟨fun m hm' hnm => ?_, fun b hb => ?_⟩
          · have h1 := h m (by rw [List.flatten_append]; exact List.mem_append.mpr (.inl hm')) hnm
            refine ⟨fun hl => ?_, h1.2⟩
            by_cases hmr : m ∈ r
            · have hcm : r.contains m = true := by simpa using hmr
              have : lastP (rows ++ [r]) m = rows.length := by unfold lastP; rw [pl, if_pos hcm]; simp
              rw [this] at h1
              exact h1.1 hlt
            · have hcm : r.contains m = false := by simpa using hmr
              have : lastP (rows ++ [r]) m = lastP rows m := by unfold lastP; rw [pl, hcm]; simp
              rw [this] at h1
              exact h1.1 hl
          · rcases Int.lt_trichotomy b n with c | c | c
            · exact c
            · subst c; exact absurd hb hn
            · have h1 := h b (by rw [List.flatten_append]; exact List.mem_append.mpr (.inr (by simpa using hb))) c
              have hcm : r.contains b = true := by simpa using hb
              have : lastP (rows ++ [r]) b = rows.length := by unfold lastP; rw [pl, if_pos hcm]; simp
              rw [this] at h1
              exact absurd hlt h1.1
        · rintro ⟨h1, h2⟩ m hm' hnm
          have hmr : m ∉ r := fun c => by have := h2 m c; omega
          have hcm : r.contains m = false := by simpa using hmr
          have e1 : lastP (rows ++ [r]) m = lastP rows m := by unfold lastP; rw [pl, hcm]; simp
          rw [e1]
          refine h1 m ?_ hnm
          rw [List.flatten_append] at hm'
          rcases List.mem_append.mp hm' with h | h
          · exact h
          · exact absurd (by simpa using h) hmr

/-! law 02: the plain law -/
abbrev Two := List Int × List Int
def add2 (a b : Two) : Two := (a.1 ++ b.1, a.2 ++ b.2)
theorem add2_assoc (a b c : Two) : add2 (add2 a b) c = add2 a (add2 b c) := by simp [add2, List.append_assoc]
theorem nil_add2 (a : Two) : add2 ([], []) a = a := by simp [add2]
def sum2 : List Two → Two
  | [] => ([], [])
  | a :: l => add2 a (sum2 l)
theorem sum2_append (a b : List Two) : sum2 (a ++ b) = add2 (sum2 a) (sum2 b) := by
  induction a with
  | nil => rw [List.nil_append]; exact (nil_add2 _).symm
  | cons x a ih => rw [List.cons_append]; show add2 x (sum2 (a ++ b)) = add2 (add2 x (sum2 a)) (sum2 b); rw [ih, add2_assoc]

abbrev sldZ (X Y : List Int) : Option Two := sld (fun a b : Int => some (decide (a < b))) (fun a b => decide (a > b)) (fun a b => a == b) X Y
theorem sldZ_nil (Y : List Int) : sldZ [] Y = some ([], Y) := sld_nil Y
theorem sldZ_nil' (X : List Int) : sldZ X [] = some (X, []) := sld_nil' X
theorem sldZ_lt {x y : Int} {xs ys : List Int} (h : x < y) : sldZ (x :: xs) (y :: ys) = (sldZ (xs.dropWhile fun z => z == x) (y :: ys)).map (add2 ([x], [])) := by
  unfold sldZ
  rw [sld_cons]
  simp only [decide_eq_true h]
  rfl
theorem sldZ_gt {x y : Int} {xs ys : List Int} (h : y < x) : sldZ (x :: xs) (y :: ys) = (sldZ (x :: xs) (ys.dropWhile fun z => z == y)).map (add2 ([], [y])) := by
  unfold sldZ
  rw [sld_cons]
  simp only [decide_eq_false (show ¬ x < y by omega), decide_eq_true (show x > y from h), if_true]
  rfl
theorem sldZ_eq {x : Int} {xs ys : List Int} : sldZ (x :: xs) (x :: ys) = sldZ (xs.dropWhile fun z => z == x) (ys.dropWhile fun z => z == x) := by
  unfold sldZ
  rw [sld_cons]
  simp only [decide_eq_false (show ¬ x < x by omega), decide_eq_false (show ¬ x > x by omega)]
  rfl

/-! doubles once -/
def onceFrom : Option Int → List Int → List Int
  | _, [] => []
  | p, x :: xs => (if p = some x then [] else [x]) ++ onceFrom (some x) xs
def once (l : List Int) : List Int := onceFrom none l
def lastO (p : Option Int) (l : List Int) : Option Int := match l.getLast? with
  | some b => some b
  | none => p
theorem onceFrom_snoc (x : Int) : ∀ (l : List Int) (p : Option Int), onceFrom p (l ++ [x]) = onceFrom p l ++ if lastO p l = some x then [] else [x]
  | [], p => by simp only [onceFrom, List.nil_append, List.append_nil]; rfl
  | y :: l, p => by
    have e : lastO (some y) l = lastO p (y :: l) := by
      unfold lastO
      cases l with
      | nil => rfl
      | cons z l =>
        rw [List.getLast?_cons_cons]
        cases q : (z :: l).getLast? with
        | none => simp at q
        | some b => rfl
    rw [List.cons_append, onceFrom, onceFrom_snoc x l (some y), onceFrom, e, List.append_assoc]
theorem onceFrom_drop (b : Int) : ∀ l : List Int, onceFrom (some b) l = once (l.dropWhile fun z => z == b)
  | [] => rfl
  | y :: l => by
    by_cases h : y = b
    · subst h
      rw [List.dropWhile_cons_of_pos (by simp), onceFrom, if_pos rfl, List.nil_append]
      exact onceFrom_drop y l
    · rw [List.dropWhile_cons_of_neg (by simpa using h)]
      unfold once
      rw [onceFrom, onceFrom, if_neg (fun q => h (by injection q with q; exact q.symm)), if_neg (by simp)]
theorem once_cons (b : Int) (l : List Int) : once (b :: l) = b :: once (l.dropWhile fun z => z == b) := by
  unfold once
  rw [onceFrom, if_neg (by simp), onceFrom_drop]
  rfl
theorem drop_app {b : Int} {rest : List Int} (h : ∀ r rs, rest = r :: rs → r ≠ b) : ∀ B : List Int, (B ++ rest).dropWhile (fun z => z == b) = B.dropWhile (fun z => z == b) ++ rest
  | [] => by
    cases rest with
    | nil => rfl
    | cons r rs => rw [List.nil_append, List.dropWhile_cons_of_neg (by simpa using h r rs rfl)]; rfl
  | y :: B => by
    by_cases q : y = b
    · rw [List.cons_append, List.dropWhile_cons_of_pos (by simpa using q), List.dropWhile_cons_of_pos (by simpa using q)]
      exact drop_app h B
    · rw [List.cons_append, List.dropWhile_cons_of_neg (by simpa using q), List.dropWhile_cons_of_neg (by simpa using q)]
      rfl
theorem onceL : ∀ (N : Nat) (B rest : List Int) (z : Int) (zs : List Int), B.length ≤ N → (∀ b ∈ B, b < z) → (∀ r rs, rest = r :: rs → ∀ b ∈ B, r ≠ b) → sldZ (B ++ rest) (z :: zs) = (sldZ rest (z :: zs)).map (add2 (once B, []))
  | _, [], rest, z, zs, _, _, _ => by
    rw [List.nil_append]
    cases sldZ rest (z :: zs) with
    | none => rfl
    | some r => show some r = some (add2 ([], []) r); rw [nil_add2]
  | N + 1, b :: B, rest, z, zs, hN, h1, h2 => by
    rw [List.cons_append, sldZ_lt (h1 b (.head _)), drop_app (fun r rs e => h2 r rs e b (.head _)), once_cons]
    have hsub : ∀ c ∈ B.dropWhile (fun z => z == b), c ∈ B := fun c hc => (List.dropWhile_suffix _).subset hc
    rw [onceL N _ rest z zs (Nat.le_trans (dropWhile_len _ B) (by simp at hN; omega)) (fun c hc => h1 c (.tail _ (hsub c hc))) fun r rs e c hc => h2 r rs e c (.tail _ (hsub c hc))]
    rw [Option.map_map]
    congr 1
theorem onceR : ∀ (N : Nat) (B rest : List Int) (z : Int) (zs : List Int), B.length ≤ N → (∀ b ∈ B, b < z) → (∀ r rs, rest = r :: rs → ∀ b ∈ B, r ≠ b) → sldZ (z :: zs) (B ++ rest) = (sldZ (z :: zs) rest).map (add2 ([], once B))
  | _, [], rest, z, zs, _, _, _ => by
    rw [List.nil_append]
    cases sldZ (z :: zs) rest with
    | none => rfl
    | some r => show some r = some (add2 ([], []) r); rw [nil_add2]
  | N + 1, b :: B, rest, z, zs, hN, h1, h2 => by
    rw [List.cons_append, sldZ_gt (h1 b (.head _)), drop_app (fun r rs e => h2 r rs e b (.head _)), once_cons]
    have hsub : ∀ c ∈ B.dropWhile (fun z => z == b), c ∈ B := fun c hc => (List.dropWhile_suffix _).subset hc
    rw [onceR N _ rest z zs (Nat.le_trans (dropWhile_len _ B) (by simp at hN; omega)) (fun c hc => h1 c (.tail _ (hsub c hc))) fun r rs e c hc => h2 r rs e c (.tail _ (hsub c hc))]
    rw [Option.map_map]
    congr 1

/-! blocks -/
def hd0 (B : List Int) : Int := B.headD 0
structure Blk (bs : List (List Int)) : Prop where
  ne : ∀ B ∈ bs, B ≠ []
  le : ∀ B ∈ bs, ∀ b ∈ B, b ≤ hd0 B
  up : bs.Pairwise fun B C => hd0 B < hd0 C
theorem Blk.tail {B : List Int} {bs : List (List Int)} (h : Blk (B :: bs)) : Blk bs := ⟨fun C hC => h.ne C (.tail _ hC), fun C hC => h.le C (.tail _ hC), (List.pairwise_cons.mp h.up).2⟩
theorem Blk.gt {B : List Int} {bs : List (List Int)} (h : Blk (B :: bs)) : ∀ C ∈ bs, hd0 B < hd0 C := (List.pairwise_cons.mp h.up).1
theorem Blk.first {bs : List (List Int)} (h : Blk bs) {X' r : List Int} {z : Int} (e : bs.flatten ++ X' = z :: r) : (∃ C cs, bs = C :: cs ∧ z = hd0 C) ∨ (bs = [] ∧ ∃ r', X' = z :: r') := by
  cases bs with
  | nil => exact .inr ⟨rfl, r, e⟩
  | cons C cs =>
    refine .inl ⟨C, cs, rfl, ?_⟩
    have := h.ne C (.head _)
    cases C with
    | nil => exact absurd rfl this
    | cons c C => rw [List.flatten_cons, List.cons_append, List.cons_append] at e; injection e with e1; exact e1.symm

def blkStep (bs : List (List Int)) (x : Int) : List (List Int) := match bs.getLast? with
  | none => [[x]]
  | some B => if hd0 B < x then bs ++ [[x]] else bs.dropLast ++ [B ++ [x]]
def blocksOf (X : List Int) : List (List Int) := X.foldl blkStep []
theorem blocks_snoc (X : List Int) (x : Int) : blocksOf (X ++ [x]) = blkStep (blocksOf X) x := by unfold blocksOf; rw [List.foldl_append]; rfl
theorem blkStep_snoc (bs : List (List Int)) (B : List Int) (x : Int) : blkStep (bs ++ [B]) x = if hd0 B < x then (bs ++ [B]) ++ [[x]] else bs ++ [B ++ [x]] := by
  unfold blkStep
  rw [List.getLast?_concat]
  simp
theorem hd0_app {B : List Int} (h : B ≠ []) (x : Int) : hd0 (B ++ [x]) = hd0 B := by
  cases B with
  | nil => exact absurd rfl h
  | cons b B => rfl
theorem blocks_ok (X : List Int) : Blk (blocksOf X) ∧ (blocksOf X).flatten = X := by
  refine snocInd (P := fun X => Blk (blocksOf X) ∧ (blocksOf X).flatten = X) ⟨⟨(fun B h => by cases h), (fun B h => by cases h), List.Pairwise.nil⟩, rfl⟩ (fun X x ih => ?_) X
  obtain ⟨hb, hf⟩ := ih
  rw [blocks_snoc]
  generalize blocksOf X = bs at *
  rcases List.eq_nil_or_concat bs with rfl | ⟨cs, B, rfl⟩
  · refine ⟨⟨fun B h => ?_, fun B h b hb' => ?_, ?_⟩, ?_⟩
    · have : B = [x] := by simpa [blkStep] using h
      subst this; simp
    · have : B = [x] := by simpa [blkStep] using h
      subst this
      have : b = x := by simpa using hb'
      subst this; exact Int.le_refl _
    · show List.Pairwise _ [[x]]; simp
    · show [[x]].flatten = X ++ [x]
      rw [← hf]; rfl
  · rw [List.concat_eq_append] at hb hf ⊢
    rw [blkStep_snoc]
    have hB := hb.ne B (by simp)
    split
    · rename_i hlt
      refine ⟨⟨fun C h => ?_, fun C h c hc => ?_, ?_⟩, ?_⟩
      · rcases List.mem_append.mp h with h | h
        · exact hb.ne C h
        · rw [List.mem_singleton] at h; subst h; simp
      · rcases List.mem_append.mp h with h | h
        · exact hb.le C h c hc
        · rw [List.mem_singleton] at h; subst h
          have : c = x := by simpa using hc
          subst this; exact Int.le_refl _
      · refine List.pairwise_append.mpr ⟨hb.up, by simp, fun C hC D hD => ?_⟩
        rw [List.mem_singleton] at hD; subst hD
        show hd0 C < x
        rcases List.mem_append.mp hC with h | h
        · have := (List.pairwise_append.mp hb.up).2.2 C h B (by simp)
          omega
        · rw [List.mem_singleton] at h; subst h; exact hlt
      · rw [List.flatten_append, hf]; rfl
    · rename_i hge
      refine ⟨⟨fun C h => ?_, fun C h c hc => ?_, ?_⟩, ?_⟩
      · rcases List.mem_append.mp h with h | h
        · exact hb.ne C (by simp [h])
        · rw [List.mem_singleton] at h; subst h; simp
      · rcases List.mem_append.mp h with h | h
        · exact hb.le C (by simp [h]) c hc
        · rw [List.mem_singleton] at h; subst h
          rw [hd0_app hB]
          rcases List.mem_append.mp hc with hc | hc
          · exact hb.le B (by simp) c hc
          · have : c = x := by simpa using hc
            omega
      · have := List.pairwise_append.mp hb.up
        refine List.pairwise_append.mpr ⟨this.1, by simp, fun C hC D hD => ?_⟩
        rw [List.mem_singleton] at hD; subst hD
        rw [hd0_app hB]
        exact this.2.2 C hC B (by simp)
      · rw [List.flatten_append] at hf ⊢
        rw [← hf]; simp

/-! a rising list of numbers -/
def insU (x : Int) : List Int → List Int
  | [] => [x]
  | y :: l => if x < y then x :: y :: l else if x = y then y :: l else y :: insU x l
theorem insU_mem (x k : Int) : ∀ l, k ∈ insU x l ↔ k = x ∨ k ∈ l
  | [] => by simp [insU]
  | y :: l => by
    unfold insU
    split
    · simp
    · split
      · rename_i h; subst h; simp
      · rw [List.mem_cons, insU_mem x k l, List.mem_cons]
        constructor
        · rintro (h | h | h)
          · exact .inr (.inl h)
          · exact .inl h
          · exact .inr (.inr h)
        · rintro (h | h | h)
          · exact .inr (.inl h)
          · exact .inl h
          · exact .inr (.inr h)
theorem insU_up (x : Int) : ∀ l : List Int, l.Pairwise (· < ·) → (insU x l).Pairwise (· < ·)
  | [], _ => by simp [insU]
  | y :: l, h => by
    have h' := List.pairwise_cons.mp h
    unfold insU
    split
    · rename_i hlt
      refine List.pairwise_cons.mpr ⟨fun k hk => ?_, h⟩
      rcases List.mem_cons.mp hk with rfl | hk
      · exact hlt
      · have := h'.1 k hk; omega
    · split
      · exact h
      · refine List.pairwise_cons.mpr ⟨fun k hk => ?_, insU_up x l h'.2⟩
        rcases (insU_mem x k l).mp hk with rfl | hk
        · omega
        · exact h'.1 k hk
def sortU (l : List Int) : List Int := l.foldr insU []
theorem sortU_mem (k : Int) : ∀ l, k ∈ sortU l ↔ k ∈ l
  | [] => by simp [sortU]
  | x :: l => by
    show k ∈ insU x (sortU l) ↔ _
    rw [insU_mem, sortU_mem k l, List.mem_cons]
theorem sortU_up : ∀ l : List Int, (sortU l).Pairwise (· < ·)
  | [] => List.Pairwise.nil
  | x :: l => insU_up x _ (sortU_up l)
theorem up_uniq {a b : List Int} (ha : a.Pairwise (· < ·)) (hb : b.Pairwise (· < ·)) (h : ∀ k, k ∈ a ↔ k ∈ b) : a = b := by
  refine count_uniq (ha.imp fun h => by omega) (hb.imp fun h => by omega) fun n => ?_
  have na : a.Nodup := ha.imp fun h => by omega
  have nb : b.Nodup := hb.imp fun h => by omega
  rw [na.count, nb.count]
  simp only [h n]

/-! the law's own reckoning -/
def heads (ones twos : List (List Int)) : List Int := sortU ((ones ++ twos).map hd0)
def ofHead (bs : List (List Int)) (h : Int) : List Int := (bs.filter fun B => hd0 B == h).flatten
def behind (B : List Int) : List Int := B.tail.dropWhile fun z => z == hd0 B
def more (m : Bool) (bs : List (List Int)) (h : Int) : Bool := m || (match bs.getLast? with | none => false | some B => decide (hd0 B > h))
def innerP (f : List Int → List Int → Bool → Bool → Two) (ones twos : List (List Int)) (m1 m2 : Bool) (h : Int) : Two :=
  if ofHead ones h ≠ [] ∧ ofHead twos h ≠ [] then f (behind (ofHead ones h)) (behind (ofHead twos h)) (more m1 ones h) (more m2 twos h)
  else (if more m2 twos h then once (ofHead ones h) else ofHead ones h, if more m1 ones h then once (ofHead twos h) else ofHead twos h)
def leftP : Nat → List Int → List Int → Bool → Bool → Two
  | 0, _, _, _, _ => ([], [])
  | N + 1, one, two, m1, m2 => sum2 ((heads (blocksOf one) (blocksOf two)).map (innerP (leftP N) (blocksOf one) (blocksOf two) m1 m2))

def Abv (X Y X' : List Int) : Prop := ∀ x' xs', X' = x' :: xs' → (∀ a ∈ X, a < x') ∧ (∀ a ∈ Y, a < x')
def neB (l : List Int) : Bool := !l.isEmpty

theorem heads_mem (ones twos : List (List Int)) (k : Int) : k ∈ heads ones twos ↔ (∃ B ∈ ones, hd0 B = k) ∨ ∃ B ∈ twos, hd0 B = k := by
  unfold heads
  rw [sortU_mem, List.map_append, List.mem_append, List.mem_map, List.mem_map]
theorem heads_up (ones twos : List (List Int)) : (heads ones twos).Pairwise (· < ·) := sortU_up _
theorem heads_lt {B : List Int} {ones twos : List (List Int)} (h1 : Blk (B :: ones)) (h2 : ∀ C ∈ twos, hd0 B < hd0 C) : heads (B :: ones) twos = hd0 B :: heads ones twos := by
  refine up_uniq (heads_up _ _) (List.pairwise_cons.mpr ⟨fun k hk => ?_, heads_up _ _⟩) fun k => ?_
  · rcases (heads_mem _ _ _).mp hk with ⟨C, hC, rfl⟩ | ⟨C, hC, rfl⟩
    · exact h1.gt C hC
    · exact h2 C hC
  · rw [heads_mem, List.mem_cons, heads_mem]
    constructor
    · rintro (⟨C, hC, rfl⟩ | h)
      · rcases List.mem_cons.mp hC with rfl | hC
        · exact .inl rfl
        · exact .inr (.inl ⟨C, hC, rfl⟩)
      · exact .inr (.inr h)
    · rintro (rfl | ⟨C, hC, rfl⟩ | h)
      · exact .inl ⟨B, .head _, rfl⟩
      · exact .inl ⟨C, .tail _ hC, rfl⟩
      · exact .inr h
theorem heads_gt {B : List Int} {ones twos : List (List Int)} (h1 : Blk (B :: twos)) (h2 : ∀ C ∈ ones, hd0 B < hd0 C) : heads ones (B :: twos) = hd0 B :: heads ones twos := by
  refine up_uniq (heads_up _ _) (List.pairwise_cons.mpr ⟨fun k hk => ?_, heads_up _ _⟩) fun k => ?_
  · rcases (heads_mem _ _ _).mp hk with ⟨C, hC, rfl⟩ | ⟨C, hC, rfl⟩
    · exact h2 C hC
    · exact h1.gt C hC
  · rw [heads_mem, List.mem_cons, heads_mem]
    constructor
    · rintro (h | ⟨C, hC, rfl⟩)
      · exact .inr (.inl h)
      · rcases List.mem_cons.mp hC with rfl | hC
        · exact .inl rfl
        · exact .inr (.inr ⟨C, hC, rfl⟩)
    · rintro (rfl | h | ⟨C, hC, rfl⟩)
      · exact .inr ⟨B, .head _, rfl⟩
      · exact .inl h
      · exact .inr ⟨C, .tail _ hC, rfl⟩
theorem heads_eq {B C : List Int} {ones twos : List (List Int)} (h1 : Blk (B :: ones)) (h2 : Blk (C :: twos)) (e : hd0 B = hd0 C) : heads (B :: ones) (C :: twos) = hd0 B :: heads ones twos := by
  refine up_uniq (heads_up _ _) (List.pairwise_cons.mpr ⟨fun k hk => ?_, heads_up _ _⟩) fun k => ?_
  · rcases (heads_mem _ _ _).mp hk with ⟨D, hD, rfl⟩ | ⟨D, hD, rfl⟩
    · exact h1.gt D hD
    · rw [e]; exact h2.gt D hD
  · rw [heads_mem, List.mem_cons, heads_mem]
    constructor
    · rintro (⟨D, hD, rfl⟩ | ⟨D, hD, rfl⟩)
      · rcases List.mem_cons.mp hD with rfl | hD
        · exact .inl rfl
        · exact .inr (.inl ⟨D, hD, rfl⟩)
      · rcases List.mem_cons.mp hD with rfl | hD
        · exact .inl e.symm
        · exact .inr (.inr ⟨D, hD, rfl⟩)
    · rintro (rfl | ⟨D, hD, rfl⟩ | ⟨D, hD, rfl⟩)
      · exact .inl ⟨B, .head _, rfl⟩
      · exact .inl ⟨D, .tail _ hD, rfl⟩
      · exact .inr ⟨D, .tail _ hD, rfl⟩

theorem ofHead_none {bs : List (List Int)} {h : Int} (hb : ∀ C ∈ bs, h < hd0 C) : ofHead bs h = [] := by
  unfold ofHead
  rw [List.filter_eq_nil_iff.mpr fun C hC q => by have := hb C hC; have : hd0 C = h := by simpa using q
                                                  omega]
  rfl
theorem ofHead_skip {B : List Int} {bs : List (List Int)} {h : Int} (hb : hd0 B < h) : ofHead (B :: bs) h = ofHead bs h := by
  unfold ofHead
  rw [List.filter_cons_of_neg (by simp; omega)]
theorem ofHead_self {B : List Int} {bs : List (List Int)} (hb : Blk (B :: bs)) : ofHead (B :: bs) (hd0 B) = B := by
  have := ofHead_none hb.gt
  unfold ofHead at this ⊢
  rw [List.filter_cons_of_pos (by simp), List.flatten_cons, this, List.append_nil]
theorem more_skip {m : Bool} {B : List Int} {bs : List (List Int)} {h : Int} (hb : hd0 B < h) : more m (B :: bs) h = more m bs h := by
  unfold more
  cases bs with
  | nil => simp; omega
  | cons C bs => rw [List.getLast?_cons_cons]
theorem more_true {m : Bool} {bs : List (List Int)} {h : Int} (hb : ∀ C ∈ bs, h < hd0 C) (hn : bs ≠ []) : more m bs h = true := by
  unfold more
  rw [List.getLast?_eq_some_getLast hn]
  have := hb _ (List.getLast_mem hn)
  simp; omega
theorem flat_ne {bs : List (List Int)} (hb : Blk bs) (hn : bs ≠ []) : bs.flatten ≠ [] := by
  cases bs with
  | nil => exact absurd rfl hn
  | cons B bs =>
    have := hb.ne B (.head _)
    rw [List.flatten_cons]
    intro q
    exact this (List.append_eq_nil_iff.mp q).1
theorem more_first {B : List Int} {bs : List (List Int)} {X' : List Int} (hb : Blk (B :: bs)) : more (neB X') (B :: bs) (hd0 B) = neB (bs.flatten ++ X') := by
  cases bs with
  | nil => unfold more; simp
  | cons C bs =>
    have hn := flat_ne hb.tail (by simp)
    have e1 : more (neB X') (B :: C :: bs) (hd0 B) = true := by
      unfold more
      rw [List.getLast?_cons_cons, List.getLast?_eq_some_getLast (by simp)]
      have := hb.gt _ (List.getLast_mem (l := C :: bs) (by simp))
      simp; omega
    rw [e1]
    unfold neB
    cases q : (C :: bs).flatten with
    | nil => exact absurd q hn
    | cons a l => rfl

theorem innerP_skip1 {f : List Int → List Int → Bool → Bool → Two} {B : List Int} {ones twos : List (List Int)} {m1 m2 : Bool} {h : Int} (hb : hd0 B < h) : innerP f (B :: ones) twos m1 m2 h = innerP f ones twos m1 m2 h := by
  unfold innerP; rw [ofHead_skip hb, more_skip hb]
theorem innerP_skip2 {f : List Int → List Int → Bool → Bool → Two} {B : List Int} {ones twos : List (List Int)} {m1 m2 : Bool} {h : Int} (hb : hd0 B < h) : innerP f ones (B :: twos) m1 m2 h = innerP f ones twos m1 m2 h := by
  unfold innerP; rw [ofHead_skip hb, more_skip hb]

theorem neB_cons (a : Int) (l : List Int) : neB (a :: l) = true := rfl
theorem once_nil : once [] = [] := rfl

/-- the blocks, one by one -/
theorem blocksLaw (f : List Int → List Int → Bool → Bool → Two) (N : Nat) (hf : ∀ X Y X' Y' : List Int, X.length + Y.length ≤ N → Abv X Y X' → Abv X Y Y' → sldZ (X ++ X') (Y ++ Y') = (sldZ X' Y').map (add2 (f X Y (neB X') (neB Y')))) :
    ∀ (k : Nat) (ones twos : List (List Int)) (X' Y' : List Int), ones.length + twos.length ≤ k → Blk ones → Blk twos → ones.flatten.length + twos.flatten.length ≤ N + 1 → Abv ones.flatten twos.flatten X' → Abv ones.flatten twos.flatten Y' →
      sldZ (ones.flatten ++ X') (twos.flatten ++ Y') = (sldZ X' Y').map (add2 (sum2 ((heads ones twos).map (innerP f ones twos (neB X') (neB Y'))))) := by
  intro k
  induction k with
  | zero =>
    intro ones twos X' Y' hk _ _ _ _ _
    have h1 : ones = [] := List.length_eq_zero_iff.mp (by omega)
    have h2 : twos = [] := List.length_eq_zero_iff.mp (by omega)
    subst h1; subst h2
    show sldZ X' Y' = (sldZ X' Y').map (add2 ([], []))
    cases sldZ X' Y' with
    | none => rfl
    | some r => show some r = some (add2 ([], []) r); rw [nil_add2]
  | succ k ih =>
    intro ones twos X' Y' hk b1 b2 hN a1 a2
    -- the first block of the first list comes first
    have caseL : ∀ (B : List Int) (ones' : List (List Int)), ones = B :: ones' → (∀ C ∈ twos, hd0 B < hd0 C) → sldZ (ones.flatten ++ X') (twos.flatten ++ Y') = (sldZ X' Y').map (add2 (sum2 ((heads ones twos).map (innerP f ones twos (neB X') (neB Y'))))) := by
      intro B ones' e hlt
      subst e
      have a1' : Abv ones'.flatten twos.flatten X' := fun x' xs' e => ⟨fun a ha => (a1 x' xs' e).1 a (by rw [List.flatten_cons]; exact List.mem_append.mpr (.inr ha)), (a1 x' xs' e).2⟩
      have a2' : Abv ones'.flatten twos.flatten Y' := fun x' xs' e => ⟨fun a ha => (a2 x' xs' e).1 a (by rw [List.flatten_cons]; exact List.mem_append.mpr (.inr ha)), (a2 x' xs' e).2⟩
      have IH := ih ones' twos X' Y' (by simp at hk; omega) b1.tail b2 (by rw [List.flatten_cons, List.length_append] at hN; omega) a1' a2'
      have hrest : (heads ones' twos).map (innerP f (B :: ones') twos (neB X') (neB Y')) = (heads ones' twos).map (innerP f ones' twos (neB X') (neB Y')) := List.map_congr_left fun h hh => by
        refine innerP_skip1 ?_
        rcases (heads_mem _ _ _).mp hh with ⟨C, hC, rfl⟩ | ⟨C, hC, rfl⟩
        · exact b1.gt C hC
        · exact hlt C hC
      have hin : innerP f (B :: ones') twos (neB X') (neB Y') (hd0 B) = (if more (neB Y') twos (hd0 B) then once B else B, []) := by
        unfold innerP
        rw [ofHead_none hlt, ofHead_self b1, if_neg (fun q => q.2 rfl), once_nil]
        simp
      rw [heads_lt b1 hlt, List.map_cons, hrest, hin, List.flatten_cons, List.append_assoc]
      show _ = (sldZ X' Y').map (add2 (add2 (if more (neB Y') twos (hd0 B) then once B else B, []) (sum2 ((heads ones' twos).map (innerP f ones' twos (neB X') (neB Y'))))))
      have inB : ∀ b ∈ B, b ∈ (B :: ones').flatten := fun b hb => by rw [List.flatten_cons]; exact List.mem_append.mpr (.inl hb)
      cases hO : twos.flatten ++ Y' with
      | nil =>
        have e1 : twos = [] := by
          cases twos with
          | nil => rfl
          | cons C cs => exact absurd (List.append_eq_nil_iff.mp hO).1 (flat_ne b2 (by simp))
        have e2 : Y' = [] := (List.append_eq_nil_iff.mp hO).2
        subst e1; subst e2
        rw [hO, sldZ_nil', sldZ_nil'] at IH
        rw [sldZ_nil', sldZ_nil']
        have hm : more (neB []) [] (hd0 B) = false := rfl
        rw [hm, if_neg (by decide)]
        simp only [Option.map_some, Option.some.injEq] at IH ⊢
        rw [add2_assoc, ← IH]
        simp [add2]
      | cons z zs =>
        rw [hO] at IH
        have hz : ∀ b ∈ B, b < z := fun b hb => by
          rcases b2.first hO with ⟨C, cs, rfl, rfl⟩ | ⟨rfl, r', e⟩
          · have := hlt C (.head _)
            have := b1.le B (.head _) b hb
            omega
          · exact (a2 z r' e).1 b (inB b hb)
        have hr : ∀ r rs, ones'.flatten ++ X' = r :: rs → ∀ b ∈ B, r ≠ b := fun r rs e b hb => by
          rcases b1.tail.first e with ⟨C, cs, rfl, rfl⟩ | ⟨rfl, r', e⟩
          · have := b1.gt C (.head _)
            have := b1.le B (.head _) b hb
            omega
          · have := (a1 r r' e).1 b (inB b hb)
            omega
        have hm : more (neB Y') twos (hd0 B) = true := by
          cases twos with
          | nil =>
            have : Y' = z :: zs := hO
            subst this; rfl
          | cons C cs => exact more_true hlt (by simp)
        rw [hm, if_pos rfl, onceL B.length B _ z zs (Nat.le_refl _) hz hr, IH, Option.map_map]
        congr 1
        funext r
        exact (add2_assoc _ _ _).symm
    have caseR : ∀ (B : List Int) (twos' : List (List Int)), twos = B :: twos' → (∀ C ∈ ones, hd0 B < hd0 C) → sldZ (ones.flatten ++ X') (twos.flatten ++ Y') = (sldZ X' Y').map (add2 (sum2 ((heads ones twos).map (innerP f ones twos (neB X') (neB Y'))))) := by
      intro B twos' e hlt
      subst e
      have a1' : Abv ones.flatten twos'.flatten X' := fun x' xs' e => ⟨(a1 x' xs' e).1, fun a ha => (a1 x' xs' e).2 a (by rw [List.flatten_cons]; exact List.mem_append.mpr (.inr ha))⟩
      have a2' : Abv ones.flatten twos'.flatten Y' := fun x' xs' e => ⟨(a2 x' xs' e).1, fun a ha => (a2 x' xs' e).2 a (by rw [List.flatten_cons]; exact List.mem_append.mpr (.inr ha))⟩
      have IH := ih ones twos' X' Y' (by simp at hk; omega) b1 b2.tail (by rw [List.flatten_cons, List.length_append] at hN; omega) a1' a2'
      have hrest : (heads ones twos').map (innerP f ones (B :: twos') (neB X') (neB Y')) = (heads ones twos').map (innerP f ones twos' (neB X') (neB Y')) := List.map_congr_left fun h hh => by
        refine innerP_skip2 ?_
        rcases (heads_mem _ _ _).mp hh with ⟨C, hC, rfl⟩ | ⟨C, hC, rfl⟩
        · exact hlt C hC
        · exact b2.gt C hC
      have hin : innerP f ones (B :: twos') (neB X') (neB Y') (hd0 B) = ([], if more (neB X') ones (hd0 B) then once B else B) := by
        unfold innerP
        rw [ofHead_none hlt, ofHead_self b2, if_neg (fun q => q.1 rfl), once_nil]
        simp
      rw [heads_gt b2 hlt, List.map_cons, hrest, hin, List.flatten_cons, List.append_assoc]
      show _ = (sldZ X' Y').map (add2 (add2 ([], if more (neB X') ones (hd0 B) then once B else B) (sum2 ((heads ones twos').map (innerP f ones twos' (neB X') (neB Y'))))))
      have inB : ∀ b ∈ B, b ∈ (B :: twos').flatten := fun b hb => by rw [List.flatten_cons]; exact List.mem_append.mpr (.inl hb)
      cases hO : ones.flatten ++ X' with
      | nil =>
        have e1 : ones = [] := by
          cases ones with
          | nil => rfl
          | cons C cs => exact absurd (List.append_eq_nil_iff.mp hO).1 (flat_ne b1 (by simp))
        have e2 : X' = [] := (List.append_eq_nil_iff.mp hO).2
        subst e1; subst e2
        rw [hO, sldZ_nil, sldZ_nil] at IH
        rw [sldZ_nil, sldZ_nil]
        have hm : more (neB []) [] (hd0 B) = false := rfl
        rw [hm, if_neg (by decide)]
        simp only [Option.map_some, Option.some.injEq] at IH ⊢
        rw [add2_assoc, ← IH]
        simp [add2]
      | cons z zs =>
        rw [hO] at IH
        have hz : ∀ b ∈ B, b < z := fun b hb => by
          rcases b1.first hO with ⟨C, cs, rfl, rfl⟩ | ⟨rfl, r', e⟩
          · have := hlt C (.head _)
            have := b2.le B (.head _) b hb
            omega
          · exact (a1 z r' e).2 b (inB b hb)
        have hr : ∀ r rs, twos'.flatten ++ Y' = r :: rs → ∀ b ∈ B, r ≠ b := fun r rs e b hb => by
          rcases b2.tail.first e with ⟨C, cs, rfl, rfl⟩ | ⟨rfl, r', e⟩
          · have := b2.gt C (.head _)
            have := b2.le B (.head _) b hb
            omega
          · have := (a2 r r' e).2 b (inB b hb)
            omega
        have hm : more (neB X') ones (hd0 B) = true := by
          cases ones with
          | nil =>
            have : X' = z :: zs := hO
            subst this; rfl
          | cons C cs => exact more_true hlt (by simp)
        rw [hm, if_pos rfl, onceR B.length B _ z zs (Nat.le_refl _) hz hr, IH, Option.map_map]
        congr 1
        funext r
        exact (add2_assoc _ _ _).symm
    match ones, twos, b1, b2, hk, hN, a1, a2, caseL, caseR with
    | [], [], _, _, _, _, _, _, _, _ =>
      show sldZ X' Y' = (sldZ X' Y').map (add2 ([], []))
      cases sldZ X' Y' with
      | none => rfl
      | some r => show some r = some (add2 ([], []) r); rw [nil_add2]
    | B :: ones', [], _, _, _, _, _, _, caseL, _ => exact caseL B ones' rfl fun C hC => by cases hC
    | [], C :: twos', _, _, _, _, _, _, _, caseR => exact caseR C twos' rfl fun C hC => by cases hC
    | B :: ones', C :: twos', b1, b2, hk, hN, a1, a2, caseL, caseR =>
      rcases Int.lt_trichotomy (hd0 B) (hd0 C) with h | h | h
      · refine caseL B ones' rfl fun D hD => ?_
        rcases List.mem_cons.mp hD with rfl | hD
        · exact h
        · have := b2.gt D hD; omega
      · clear caseL caseR
        have nB := b1.ne B (.head _)
        have nC := b2.ne C (.head _)
        have a1' : Abv ones'.flatten twos'.flatten X' := fun x' xs' e => ⟨fun a ha => (a1 x' xs' e).1 a (by rw [List.flatten_cons]; exact List.mem_append.mpr (.inr ha)), fun a ha => (a1 x' xs' e).2 a (by rw [List.flatten_cons]; exact List.mem_append.mpr (.inr ha))⟩
        have a2' : Abv ones'.flatten twos'.flatten Y' := fun x' xs' e => ⟨fun a ha => (a2 x' xs' e).1 a (by rw [List.flatten_cons]; exact List.mem_append.mpr (.inr ha)), fun a ha => (a2 x' xs' e).2 a (by rw [List.flatten_cons]; exact List.mem_append.mpr (.inr ha))⟩
        have IH := ih ones' twos' X' Y' (by simp at hk; omega) b1.tail b2.tail (by rw [List.flatten_cons, List.flatten_cons, List.length_append, List.length_append] at hN; omega) a1' a2'
        have hrest : (heads ones' twos').map (innerP f (B :: ones') (C :: twos') (neB X') (neB Y')) = (heads ones' twos').map (innerP f ones' twos' (neB X') (neB Y')) := List.map_congr_left fun k hh => by
          have : hd0 B < k := by
            rcases (heads_mem _ _ _).mp hh with ⟨D, hD, rfl⟩ | ⟨D, hD, rfl⟩
            · exact b1.gt D hD
            · rw [h]; exact b2.gt D hD
          rw [innerP_skip1 this, innerP_skip2 (by omega)]
        have hin : innerP f (B :: ones') (C :: twos') (neB X') (neB Y') (hd0 B) = f (behind B) (behind C) (neB (ones'.flatten ++ X')) (neB (twos'.flatten ++ Y')) := by
          have e1 := ofHead_self b1
          have e2 := ofHead_self b2
          have e3 := more_first (X' := Y') b2
          rw [← h] at e2 e3
          unfold innerP
          rw [e1, e2, if_pos ⟨nB, nC⟩, more_first b1, e3]
        rw [heads_eq b1 b2 h, List.map_cons, hrest, hin, List.flatten_cons, List.flatten_cons, List.append_assoc, List.append_assoc]
        have r1 : ∀ r rs, ones'.flatten ++ X' = r :: rs → hd0 B < r := fun r rs e => by
          rcases b1.tail.first e with ⟨D, cs, rfl, rfl⟩ | ⟨rfl, r', e⟩
          · exact b1.gt D (.head _)
          · refine (a1 r r' e).1 _ ?_
            cases B with
            | nil => exact absurd rfl nB
            | cons b B => rw [List.flatten_cons]; exact .head _
        have r2 : ∀ r rs, twos'.flatten ++ Y' = r :: rs → hd0 B < r := fun r rs e => by
          rcases b2.tail.first e with ⟨D, cs, rfl, rfl⟩ | ⟨rfl, r', e⟩
          · rw [h]; exact b2.gt D (.head _)
          · rw [h]
            refine (a2 r r' e).2 _ ?_
            cases C with
            | nil => exact absurd rfl nC
            | cons b C => rw [List.flatten_cons]; exact .head _
        have leB := b1.le B (.head _)
        have leC := b2.le C (.head _)
        cases B with
        | nil => exact absurd rfl nB
        | cons b B =>
          cases C with
          | nil => exact absurd rfl nC
          | cons c C =>
            have e0 : b = c := h
            subst e0
            show sldZ (b :: (B ++ (ones'.flatten ++ X'))) (b :: (C ++ (twos'.flatten ++ Y'))) = _
            rw [sldZ_eq, drop_app (fun r rs e => by have : b < r := r1 r rs e; omega), drop_app (fun r rs e => by have : b < r := r2 r rs e; omega)]
            have s1 : ∀ a ∈ B.dropWhile (fun z => z == b), a ≤ b := fun a ha => leB a (.tail _ ((List.dropWhile_suffix _).subset ha))
            have s2 : ∀ a ∈ C.dropWhile (fun z => z == b), a ≤ b := fun a ha => leC a (.tail _ ((List.dropWhile_suffix _).subset ha))
            have l1 := dropWhile_len (fun z => z == b) B
            have l2 := dropWhile_len (fun z => z == b) C
            rw [hf _ _ (ones'.flatten ++ X') (twos'.flatten ++ Y') (by simp only [List.flatten_cons, List.length_append, List.length_cons] at hN; omega)
              (fun r rs e => ⟨fun a ha => by have := s1 a ha; have : b < r := r1 r rs e; omega, fun a ha => by have := s2 a ha; have : b < r := r1 r rs e; omega⟩)
              (fun r rs e => ⟨fun a ha => by have := s1 a ha; have : b < r := r2 r rs e; omega, fun a ha => by have := s2 a ha; have : b < r := r2 r rs e; omega⟩), IH, Option.map_map]
            congr 1
            funext r
            exact (add2_assoc _ _ _).symm
      · refine caseR C twos' rfl fun D hD => ?_
        rcases List.mem_cons.mp hD with rfl | hD
        · exact h
        · have := b1.gt D hD; omega

theorem leftLaw : ∀ (N : Nat) (X Y X' Y' : List Int), X.length + Y.length ≤ N → Abv X Y X' → Abv X Y Y' → sldZ (X ++ X') (Y ++ Y') = (sldZ X' Y').map (add2 (leftP N X Y (neB X') (neB Y')))
  | 0, X, Y, X', Y', hN, _, _ => by
    have h1 : X = [] := List.length_eq_zero_iff.mp (by omega)
    have h2 : Y = [] := List.length_eq_zero_iff.mp (by omega)
    subst h1; subst h2
    show sldZ X' Y' = (sldZ X' Y').map (add2 ([], []))
    cases sldZ X' Y' with
    | none => rfl
    | some r => show some r = some (add2 ([], []) r); rw [nil_add2]
  | N + 1, X, Y, X', Y', hN, a1, a2 => by
    obtain ⟨b1, f1⟩ := blocks_ok X
    obtain ⟨b2, f2⟩ := blocks_ok Y
    have := blocksLaw (leftP N) N (leftLaw N) _ (blocksOf X) (blocksOf Y) X' Y' (Nat.le_refl _) b1 b2 (by rw [f1, f2]; exact hN) (by rw [f1, f2]; exact a1) (by rw [f1, f2]; exact a2)
    rw [f1, f2] at this
    exact this

theorem plain2 (N : Nat) (X Y : List Int) (hN : X.length + Y.length ≤ N) : sldZ X Y = some (leftP N X Y false false) := by
  have := leftLaw N X Y [] [] hN (fun _ _ e => by cases e) (fun _ _ e => by cases e)
  rw [List.append_nil, List.append_nil, sldZ_nil] at this
  rw [this]
  show some (add2 _ ([], [])) = _
  simp [add2]
  rfl

abbrev pg2 : Program := PySem.Challenge.pw_dn0234_02

/-- a list of lists at aB, its last one apart -/
def RowsR (Rep : Value → Int → Prop) (h : Heap) (aR : Addr) (N : Addr → Prop) (I : List (List Int)) (l : List Int) : Prop :=
  ∃ us cl vl j jl, h.get? aR = some (listOf (us ++ [.ref cl]).toArray j) ∧ All2 (fun v r => ∃ c vs n, v = .ref c ∧ N c ∧ c ≠ cl ∧ c ≠ aR ∧ h.get? c = some (listOf vs.toArray n) ∧ All2 Rep vs r) us I ∧
    N cl ∧ cl ≠ aR ∧ h.get? cl = some (listOf vl.toArray jl) ∧ All2 Rep vl l
theorem RowsR.keep {Rep : Value → Int → Prop} {h h' : Heap} {aR : Addr} {N N' : Addr → Prop} {I : List (List Int)} {l : List Int} (x : RowsR Rep h aR N I l) (k : ∀ b o, (b = aR ∨ N b) → h.get? b = some o → h'.get? b = some o) (hN : ∀ b, N b → N' b) : RowsR Rep h' aR N' I l := by
  obtain ⟨us, cl, vl, j, jl, h1, h2, h3, h4, h5, h6⟩ := x
  refine ⟨us, cl, vl, j, jl, k _ _ (.inl rfl) h1, h2.mono ?_, hN _ h3, h4, k _ _ (.inr h3) h5, h6⟩
  rintro v r _ ⟨c, vs, n, e, n1, n2, n3, n4, n5⟩
  exact ⟨c, vs, n, e, hN _ n1, n2, n3, k _ _ (.inr n1) n4, n5⟩
def BlksAt (Rep : Value → Int → Prop) (h : Heap) (aR : Addr) (N : Addr → Prop) (bs : List (List Int)) : Prop :=
  (bs = [] ∧ ∃ j, h.get? aR = some (listOf [].toArray j)) ∨ ∃ I l, bs = I ++ [l] ∧ RowsR Rep h aR N I l
theorem BlksAt.keep {Rep : Value → Int → Prop} {h h' : Heap} {aR : Addr} {N N' : Addr → Prop} {bs : List (List Int)} (x : BlksAt Rep h aR N bs) (k : ∀ b o, (b = aR ∨ N b) → h.get? b = some o → h'.get? b = some o) (hN : ∀ b, N b → N' b) : BlksAt Rep h' aR N' bs := by
  rcases x with ⟨e, j, hj⟩ | ⟨I, l, e, r⟩
  · exact .inl ⟨e, j, k _ _ (.inl rfl) hj⟩
  · exact .inr ⟨I, l, e, r.keep k hN⟩
theorem BlksAt.out {Rep : Value → Int → Prop} {h : Heap} {aR : Addr} {N : Addr → Prop} {bs : List (List Int)} (x : BlksAt Rep h aR N bs) : ∃ us j, h.get? aR = some (listOf us.toArray j) ∧ All2 (fun v r => ∃ c vs n, v = .ref c ∧ N c ∧ h.get? c = some (listOf vs.toArray n) ∧ All2 Rep vs r) us bs := by
  rcases x with ⟨rfl, j, hj⟩ | ⟨I, l, rfl, us, cl, vl, j, jl, q1, q2, q3, q4, q5, q6⟩
  · exact ⟨[], j, hj, .nil⟩
  · refine ⟨_, j, q1, (q2.mono ?_).append (.cons ⟨cl, vl, jl, rfl, q3, q5, q6⟩ .nil)⟩
    rintro v r _ ⟨c, ws, n, e, n1, n2, n3, n4, n5⟩
    exact ⟨c, ws, n, e, n1, n4, n5⟩

theorem blocks_len (X : List Int) : (blocksOf X).length ≤ X.length ∧ ∀ B ∈ blocksOf X, B.length ≤ X.length := by
  obtain ⟨hb, hf⟩ := blocks_ok X
  have h1 : ∀ bs : List (List Int), (∀ B ∈ bs, B ≠ []) → bs.length ≤ bs.flatten.length := fun bs h => by
    induction bs with
    | nil => simp
    | cons B bs ih =>
      have := ih fun C hC => h C (.tail _ hC)
      have hB := List.length_pos_iff.mpr (h B (.head _))
      rw [List.flatten_cons, List.length_append, List.length_cons]; omega
  have h2 : ∀ bs : List (List Int), ∀ B ∈ bs, B.length ≤ bs.flatten.length := fun bs => by
    induction bs with
    | nil => intro B h; cases h
    | cons C bs ih =>
      intro B h
      rw [List.flatten_cons, List.length_append]
      rcases List.mem_cons.mp h with rfl | h
      · omega
      · have := ih B h; omega
  refine ⟨?_, fun B hB => ?_⟩
  · have := h1 _ hb.ne; rwa [hf] at this
  · have := h2 _ B hB; rwa [hf] at this

section
variable {prog : Program} {w : World} {A : Around} {s : Shared} {f l : Addr} {cd : Value} {vs : List Value} {X : List Int} {Rep : Value → Int → Prop} {n0 : Nat}

set_option maxHeartbeats 4000000 in
theorem blocks_call {R : Result → Shared → Prop} (K : IK prog w Rep) (fn : Fn s.heap f "_law_blocks" (stmtAt pg2 3) cd) (lim : s.heap.NoLimit) (hr : A.depth < recursionLimit) (hh : A.handled = none) (hu : A.units < 8000)
    (hl : s.heap.get? l = some (listOf vs.toArray n0)) (ha : All2 Rep vs X) (hz : X.length < 1000)
    (hR : ∀ s' D us j, Grow s s' → s.heap.get? D = none → s'.heap.get? D = some (listOf us.toArray j) → All2 (fun v r => ∃ c ws n, v = .ref c ∧ s.heap.get? c = none ∧ s'.heap.get? c = some (listOf ws.toArray n) ∧ All2 Rep ws r) us (blocksOf X) → R (.ok (.ret (.ref D))) s') :
    codeAny (model prog w) A (.call (.ref f) ⟨[.ref l], []⟩) R s := by
  refine callFn (binds := [("items", .ref l)]) fn lim hr (fun _ _ _ _ => rfl) (locs rfl) (fun s₁ F g => ?_) (by decide)
  refine wpAny_mono (E := No) ?_ (fun _ _ q => q) fun _ _ q => q.elim
  generalize hL : s.heap.objs.size = L at F ⊢
  have nL : s.heap.get? L = none := hL ▸ Heap.get?_none_of_le (Nat.le_refl _)
  have ul : (A.deeper (envOf "_law_blocks" (scopeOf (stmtAt pg2 3)) L f cd)).units < cLine := Nat.lt_of_lt_of_le (show A.units + 3 < 9000 by omega) (by decide)
  refine wpAny_execs_cons (wpAny_Assign_Name (List_ (spliced_none (newList_ fun s₃ aR g₃ hR₃ nR => st_ (frGrow F g₃) fun s₄ F₄ x₄ => ?_))))
  have lL : s₁.heap.get? L ≠ none := fun q => by
    obtain ⟨o, _, _, e, _⟩ := F.ns
    rw [e] at q; cases q
  have aRL : aR ≠ L := fun q => lL (q ▸ nR)
  have nRs : s.heap.get? aR = none := by
    cases q : s.heap.get? aR with
    | none => rfl
    | some o => rw [g.keep _ _ q] at nR; cases nR
  have lLl : l ≠ L := fun q => by rw [q, nL] at hl; cases hl
  have lR : l ≠ aR := fun q => by rw [q, nRs] at hl; cases hl
  have hl4 := F₄.keep _ _ hl
  have hR4 := x₄.keep _ _ aRL hR₃
  refine wpAny_execs_cons (forS (RA := Rep) (X := X) (fps := fun it => [it, l]) F₄ hh (ld F₄ (upd_ne (by decide) rfl) (srcListF (.refl _) hl4 ha)) ?_
    (fun it k s' m' => m' "blocks" = some (.ref aR) ∧ s'.os = s.os ∧ s'.gens = s.gens ∧ BlksAt Rep s'.heap aR (fun c => c ≠ L ∧ c ≠ it ∧ s.heap.get? c = none) (blocksOf (X.take k))) ?_ ?_ ?_ ?_)
  · intro it ni q
    rcases List.mem_cons.mp q with q | q
    · obtain ⟨o, _, _, e, _⟩ := F₄.ns
      rw [q, ni] at e; cases e
    · exact lLl (List.mem_singleton.mp q).symm
  · rintro it k s₅ s₆ m' ni ⟨e1, os, gens, inv⟩ x
    have iR : aR ≠ it := fun q => by rw [← q, hR4] at ni; cases ni
    refine ⟨e1, x.os.trans os, x.gens.trans gens, inv.keep (fun b o hb e => ?_) fun _ h => h⟩
    rcases hb with rfl | hb
    · exact x.keep _ _ iR aRL e
    · exact x.keep _ _ hb.2.1 hb.1 e
  · intro it s₅ ni g₅
    exact ⟨upd_same, g₅.os.trans (x₄.os.trans (g₃.os.trans g.os)), g₅.gens.trans (x₄.gens.trans (g₃.gens.trans g.gens)), .inl ⟨rfl, 0, g₅.keep _ _ hR4⟩⟩
  · rintro it k v s₅ m₁ hk ni iL iz hfp rv F₅ ⟨e1, os, gens, inv⟩
    have iR : aR ≠ it := fun q => by rw [← q, hR4] at ni; cases ni
    have mx : upd m₁ "item" v "item" = some v := upd_same
    have e1' : upd m₁ "item" v "blocks" = some (.ref aR) := upd_ne (by decide) e1
    generalize upd m₁ "item" v = m₅ at *
    have tk := List.take_succ_eq_append_getElem hk
    have bs := blocks_snoc (X.take k) X[k]
    rw [← tk] at bs
    have lx : (X.take k).length < 1000 := by rw [List.length_take]; omega
    obtain ⟨bl, bl2⟩ := blocks_len (X.take k)
    have bok := (blocks_ok (X.take k)).1
    have hr1 : ∀ b ∈ [it, l], b ≠ L ∧ b ≠ aR ∧ (b = it ∨ s.heap.get? b ≠ none) := fun b hb => by
      rcases List.mem_cons.mp hb with rfl | hb
      · exact ⟨iL, Ne.symm iR, .inl rfl⟩
      · rw [List.mem_singleton.mp hb]; exact ⟨lLl, lR, .inr (by rw [hl]; simp)⟩
    -- append a new block
    have newB : ∀ (s₆ : Shared) (ms : List Value) (j : Nat), Grow s₅ s₆ → s₅.heap.get? aR = some (listOf ms.toArray j) → ms.length < 10000 →
        All2 (fun v r => ∃ c vs n, v = .ref c ∧ (c ≠ L ∧ c ≠ it ∧ s.heap.get? c = none) ∧ c ≠ aR ∧ s₅.heap.get? c = some (listOf vs.toArray n) ∧ All2 Rep vs r) ms (blocksOf (X.take k)) → blkStep (blocksOf (X.take k)) X[k] = blocksOf (X.take k) ++ [[X[k]]] →
        wpAny (model prog w) (A.deeper (envOf "_law_blocks" (scopeOf (stmtAt pg2 3)) L f cd)) (execs [nth (bodyOf (nth (bodyOf (stmtAt pg2 3)) 1)) 0 |> fun st => match st with | .If _ b _ _ => nth b 0 | _ => .Pass ⟨0, 0, 0, 0⟩] (envOf "_law_blocks" (scopeOf (stmtAt pg2 3)) L f cd))
          (fun f s₃ => f = .next ∧ Stay [it, l] s₅.heap s₃.heap ∧ ∃ m₃, Fr s.heap L s₃.heap m₃ ∧ m₃ "blocks" = some (.ref aR) ∧ s₃.os = s.os ∧ s₃.gens = s.gens ∧ BlksAt Rep s₃.heap aR (fun c => c ≠ L ∧ c ≠ it ∧ s.heap.get? c = none) (blocksOf (X.take (k + 1)))) No s₆ := by
      intro s₆ ms j g₆ hM zM aM hstep
      have F₆ := frGrow F₅ g₆
      refine wpAny_execs_cons (append_ F₆ e1' (g₆.keep _ _ hM) (by omega) (List_ (spliced_more (ld F₆ mx (spliced_none (newList_ fun sb aN gb hN nN => ⟨gb, fun sc xc hc => ?_⟩))))))
      refine wpAny_execs_nil ?_
      have NR : aN ≠ aR := fun q => by rw [q, g₆.keep _ _ hM] at nN; cases nN
      have NL : aN ≠ L := fun q => by
        obtain ⟨o, _, _, e, _⟩ := F₆.ns
        rw [q, e] at nN; cases nN
      have Nit : aN ≠ it := fun q => by
        cases hi : s₅.heap.get? it with
        | none => exact iz hi
        | some o => rw [q, g₆.keep _ _ hi] at nN; cases nN
      have Ns : s.heap.get? aN = none := by
        cases q : s.heap.get? aN with
        | none => rfl
        | some o => rw [F₆.keep _ _ q] at nN; cases nN
      have g5b := g₆.trans gb
      refine ⟨rfl, fun b hb o e => xc.keep _ _ (hr1 b hb).2.1 (g5b.keep _ _ e), m₅, frExL (frGrow F₅ g5b) xc (Ne.symm aRL) nRs, e1', xc.os.trans (g5b.os.trans os), xc.gens.trans (g5b.gens.trans gens), ?_⟩
      rw [bs, hstep]
      refine .inr ⟨_, _, rfl, ms, aN, [v], _, _, hc, aM.mono ?_, ⟨NL, Nit, Ns⟩, NR, xc.keep _ _ NR hN, .cons rv .nil⟩
      rintro v' r _ ⟨c, ws, n, e, n1, n3, n4, n5⟩
      refine ⟨c, ws, n, e, n1, fun q => ?_, n3, xc.keep _ _ n3 (g5b.keep _ _ n4), n5⟩
      rw [q] at n4; rw [g₆.keep _ _ n4] at nN; cases nN
    refine wpAny_execs_cons (wpAny_If ?_)
    rcases inv with ⟨eB, j, hB⟩ | ⟨I, lst, eB, us, cl, vl, j, jl, q1, q2, q3, q4, q5, q6⟩
    · refine isTrue_or (wpAny_isTrue_Compare1 (ld F₅ e1' (List_ (spliced_none (newList_ fun s₆ aE g₆ hE nE => cmp_ofEq (rcEmpty (g₆.keep _ _ hB) hE ul _ _ _ _ (wpAny_truthy_bool ?_)))))))
      rw [show ([] : List Value).isEmpty = true from rfl, if_pos rfl, if_pos rfl]
      refine wpAny_mono (newB s₆ [] j g₆ hB (by simp) (by rw [eB]; exact .nil) (by rw [eB]; rfl)) (fun f s' ⟨e, q⟩ => ?_) fun _ _ q => q
      subst e
      exact wpAny_execs_nil (.inl ⟨rfl, q⟩)
    · have zu : us.length < 1000 := by
        have h1 := q2.length
        rw [eB, List.length_append] at bl
        simp only [List.length_singleton] at bl
        omega
      have zl : vl.length < 1000 := by
        have h1 := q6.length
        have h2 := bl2 lst (by rw [eB]; simp)
        omega
      refine isTrue_or (wpAny_isTrue_Compare1 (ld F₅ e1' (List_ (spliced_none (newList_ fun s₆ aE g₆ hE nE => cmp_ofEq (rcEmpty (g₆.keep _ _ q1) hE ul _ _ _ _ (wpAny_truthy_bool ?_)))))))
      rw [show (us ++ [Value.ref cl]).isEmpty = false by simp, if_neg (by decide)]
      have F₆ := frGrow F₅ g₆
      have nel : lst ≠ [] := bok.ne lst (by rw [eB]; simp)
      have hstep := blkStep_snoc I lst X[k]
      rw [← eB] at hstep
      cases q6 with
      | nil => exact absurd rfl nel
      | @cons v0 h0 vl' tl' r0 q6' =>
        refine isTrue_or (wpAny_isTrue_Compare1 (ld F₆ mx ((EvV.head (EvV.last (EvV.name F₆.ns e1') (g₆.keep _ _ q1) (by omega)) (g₆.keep _ _ q5)).use fun s₇ g₇ => K.gt rv r0 (wpAny_truthy_bool ?_))))
        have g57 := g₆.trans g₇
        have hh0 : hd0 (h0 :: tl') = h0 := rfl
        by_cases hlt : h0 < X[k]
        · rw [decide_eq_true hlt, if_pos rfl, if_pos rfl]
          rw [hh0, if_pos hlt] at hstep
          refine wpAny_mono (newB s₇ (us ++ [.ref cl]) j g57 q1 (by simp; omega) ?_ hstep) (fun f s' ⟨e, q⟩ => ?_) fun _ _ q => q
          · rw [eB]
            refine (q2.mono ?_).append (.cons ⟨cl, _, jl, rfl, q3, q4, q5, .cons r0 q6'⟩ .nil)
            rintro v' r _ ⟨c, ws, n, e, n1, n2, n3, n4, n5⟩
            exact ⟨c, ws, n, e, n1, n3, n4, n5⟩
          · subst e
            exact wpAny_execs_nil (.inl ⟨rfl, q⟩)
        · rw [decide_eq_false hlt, if_neg (by decide)]
          refine isTrue_or_nil ?_
          rw [if_neg (by decide)]
          rw [hh0, if_neg hlt] at hstep
          have F₇ := frGrow F₅ g57
          refine wpAny_execs_cons (appendAny (EvV.last (EvV.name F₇.ns e1') (g57.keep _ _ q1) (by omega)) (g57.keep _ _ q5) (by omega) fun s₈ g₈ => ld (frGrow F₇ g₈) mx ⟨.refl _, fun s₉ x₉ h₉ => ?_⟩)
          refine wpAny_execs_nil (wpAny_execs_nil (.inl ⟨rfl, fun b hb o e => ?_, m₅, frExL (frGrow F₇ g₈) x₉ (Ne.symm q3.1) q3.2.2, e1', x₉.os.trans (g₈.os.trans (g57.os.trans os)), x₉.gens.trans (g₈.gens.trans (g57.gens.trans gens)), ?_⟩))
          · have hb' := hr1 b hb
            have : b ≠ cl := fun q => by
              rcases hb'.2.2 with h | h
              · exact q3.2.1 (q ▸ h)
              · exact h (q ▸ q3.2.2)
            exact x₉.keep _ _ this (g₈.keep _ _ (g57.keep _ _ e))
          · rw [bs, hstep]
            have g58 := g57.trans g₈
            refine .inr ⟨_, _, rfl, us, cl, _, j, _, x₉.keep _ _ (Ne.symm q4) (g58.keep _ _ q1), q2.mono ?_, q3, q4, h₉, (All2.cons r0 q6').append (.cons rv .nil)⟩
            rintro v' r _ ⟨c, ws, n, e, n1, n2, n3, n4, n5⟩
            exact ⟨c, ws, n, e, n1, n2, n3, x₉.keep _ _ n2 (g58.keep _ _ n4), n5⟩
  · rintro it s₅ m' ni F' ⟨e1, os, gens, inv⟩
    rw [List.take_length] at inv
    obtain ⟨us, j, h1, h2⟩ := inv.out
    refine wpAny_execs_cons (wpAny_Return_some (ld F' e1 ?_))
    refine hR s₅ aR us j ⟨F'.keep, os, gens⟩ nRs h1 (h2.mono ?_)
    rintro v r _ ⟨c, ws, n, e, n1, n4, n5⟩
    exact ⟨c, ws, n, e, n1.2.2, n4, n5⟩
end

def RepN2 (v : Value) (k : Nat) : Prop := ∃ t, v = .int (k : Nat) t

def onceI (X : List Int) : List Int := ((List.range X.length).filter fun k => decide (k = 0) || (X.getD k 0 != X.getD (k - 1) 0)).map fun k => X.getD k 0
theorem onceI_eq (X : List Int) : onceI X = once X := by
  refine snocInd (P := fun X => onceI X = once X) rfl (fun X x ih => ?_) X
  have h1 : once (X ++ [x]) = once X ++ if lastO none X = some x then [] else [x] := onceFrom_snoc x X none
  rw [h1, ← ih]
  unfold onceI
  rw [List.length_append, List.length_singleton, List.range_succ, List.filter_append, List.map_append]
  congr 1
  · have e : (List.range X.length).filter (fun k => decide (k = 0) || ((X ++ [x]).getD k 0 != (X ++ [x]).getD (k - 1) 0)) = (List.range X.length).filter fun k => decide (k = 0) || (X.getD k 0 != X.getD (k - 1) 0) := List.filter_congr fun k hk => by
      rw [List.mem_range] at hk
      rw [getD_left hk, getD_left (by omega)]
    rw [e]
    refine List.map_congr_left fun k hk => ?_
    have := List.mem_range.mp (List.mem_filter.mp hk).1
    rw [getD_left this]
  · have e : (X ++ [x]).getD X.length 0 = x := by simp [List.getD_eq_getElem?_getD]
    rcases List.eq_nil_or_concat X with rfl | ⟨Y, y, rfl⟩
    · simp [lastO]
    · rw [List.concat_eq_append] at e ⊢
      have e2 : ((Y ++ [y]) ++ [x]).getD ((Y ++ [y]).length - 1) 0 = y := by
        rw [List.length_append, List.length_singleton, Nat.add_sub_cancel, getD_left (by simp)]
        simp [List.getD_eq_getElem?_getD]
      have e3 : lastO none (Y ++ [y]) = some y := by unfold lastO; rw [List.getLast?_concat]
      rw [e3, List.filter_cons]
      simp only [e, e2, List.filter_nil]
      have n0 : ¬ (Y ++ [y]).length = 0 := by simp
      simp only [n0, decide_false, Bool.false_or]
      by_cases q : y = x
      · subst q; simp
      · have q' : x ≠ y := fun h => q h.symm
        simp [q, q', e]

theorem getAt {Rep : Value → Int → Prop} {vs : List Value} {X : List Int} (ha : All2 Rep vs X) {k : Nat} (hk : k < X.length) : ∃ v, vs[k]? = some v ∧ Rep v (X.getD k 0) := by
  have hl := ha.length
  have hk' : k < vs.length := by omega
  refine ⟨vs[k], List.getElem?_eq_getElem hk', ?_⟩
  rw [List.getD_eq_getElem?_getD, List.getElem?_eq_getElem hk]
  exact ha.get k hk' hk

section
variable {prog : Program} {w : World} {A : Around} {s : Shared} {f l : Addr} {cd : Value} {vs : List Value} {X : List Int} {Rep : Value → Int → Prop} {n0 : Nat}

set_option maxHeartbeats 4000000 in
theorem once_call {R : Result → Shared → Prop} (K : IK prog w Rep) (fn : Fn s.heap f "_law_once" (stmtAt pg2 4) cd) (lim : s.heap.NoLimit) (hr : A.depth < recursionLimit) (hh : A.handled = none) (b3 : Bn s.heap "range" (.type "range")) (b4 : Bn s.heap "len" (.builtin "len"))
    (hl : s.heap.get? l = some (listOf vs.toArray n0)) (ha : All2 Rep vs X) (hz : X.length < 1000)
    (hR : ∀ s' D us j, Grow s s' → s.heap.get? D = none → s'.heap.get? D = some (listOf us.toArray j) → All2 Rep us (once X) → R (.ok (.ret (.ref D))) s') :
    codeAny (model prog w) A (.call (.ref f) ⟨[.ref l], []⟩) R s := by
  refine callFnC (binds := [("items", .ref l)]) fn lim hr (fun _ _ _ _ => rfl) (fun x hx => by
    have : x = (("items" : Str), Value.ref l) := by simpa using hx
    subst this
    exact .inr ⟨rfl, rfl⟩) (fun s₁ F g => ?_)
  refine wpAny_mono (E := No) ?_ (fun _ _ q => q) fun _ _ q => q.elim
  generalize hL : s.heap.objs.size = L at F ⊢
  have m2 : bindC (envOfC "_law_once" (scopeOf (stmtAt pg2 4)) L f cd).kindOf [("items", .ref l)] (fun _ => none) "items" = some (.ref l) := rfl
  generalize bindL (envOfC "_law_once" (scopeOf (stmtAt pg2 4)) L f cd).kindOf [("items", .ref l)] (fun _ => none) = m at *
  generalize bindC (envOfC "_law_once" (scopeOf (stmtAt pg2 4)) L f cd).kindOf [("items", .ref l)] (fun _ => none) = cm at *
  have lr : (envOfC "_law_once" (scopeOf (stmtAt pg2 4)) L f cd).cells.lookup ("items" : Str) = some (L + 1) := rfl
  have cellR := F.cellIs lr m2
  have vlen := ha.length
  have hl1 := F.fr.keep _ _ hl
  refine wpAny_execs_cons (wpAny_Return_some ?_)
  refine listComp1 (RA := fun v i => RepN2 v i ∧ i < X.length) (RO := fun v x _ => Rep v x) (X := List.range X.length) (p := fun k => decide (k = 0) || (X.getD k 0 != X.getD (k - 1) 0)) (f := fun k => X.getD k 0) (cl := [(("items" : Str), L + 1)]) hh (fun _ _ _ _ r _ => r)
      (wpAny_mono (rangeLen (vs := vs) (nameBE F.fr.keep b3 ⟨rfl, rfl⟩) (fun s' g' => nameBE (fcGrow F g').fr.keep b4 ⟨rfl, rfl⟩) (fun s' g' => EvV.cell (fcGrow F g') lr m2) hl1 (by omega)) (fun v s' q => by
        obtain ⟨r, t1, u1, w1, rfl, g', hr'⟩ := q
        rw [vlen] at hr'
        refine wpAny_mono (srcRange g' hr' (by omega)) (fun itv s₂ ⟨it, fp, V, P, e, S⟩ => ⟨it, fp, V, P, e, S.D, S.p0, S.g, S.ni, S.ii, S.fp, fun k v hk hv => ⟨S.ra k v hk hv, by simpa using hk⟩⟩) fun _ _ q => q) fun _ _ q => q) (by rw [List.length_range]; omega) ?_ ?_ ?_
  · rintro v i s₆ Lc m' g₆ ⟨⟨t6, rfl⟩, hi⟩ hn hv
    refine conds_one (isTrue_or (wpAny_isTrue_Compare1 (ldE hn hv (EvI.const.use fun s₇ t7 g₇ => eq_int (wpAny_truthy_bool ?_))) (by with_unfolding_all rfl)))
    by_cases h0 : i = 0
    · subst h0
      rw [show ((((0 : Nat) : Int)) == 0) = true from rfl, if_pos rfl]
      exact ⟨g₇, rfl⟩
    · have e0 : (((i : Nat) : Int) == 0) = false := by simp; omega
      rw [e0, if_neg (by decide)]
      obtain ⟨u1, p1, r1⟩ := getAt ha hi
      obtain ⟨u2, p2, r2⟩ := getAt ha (show i - 1 < X.length by omega)
      have e1 : ((i : Int) - 1) = ((i - 1 : Nat) : Int) := by omega
      refine isTrue_or (wpAny_isTrue_Compare1 ((EvV.item (i := i) (EvV.cap rfl (cellR.keep (g₆.trans g₇).keep)) ((g₆.trans g₇).keep _ _ hl1) p1 (by omega) fun s' g' => EvI.name (hn.keeps (g₇.trans g').keep) hv).use fun s₈ g₈ => (EvV.item (i := i - 1) (EvV.cap rfl (cellR.keep (g₆.trans (g₇.trans g₈)).keep)) ((g₆.trans (g₇.trans g₈)).keep _ _ hl1) p2 (by omega) fun s' g' => by
        rw [← e1]; exact EvI.sub (EvI.name (hn.keeps (g₇.trans (g₈.trans g')).keep) hv) fun _ _ => EvI.const).use fun s₉ g₉ => K.ne r1 r2 (wpAny_truthy_bool ?_)) (by with_unfolding_all rfl))
      have gg := g₇.trans (g₈.trans g₉)
      cases hb : (X.getD i 0 != X.getD (i - 1) 0) with
      | true => rw [if_pos rfl]; exact ⟨gg, by simp [h0]⟩
      | false =>
        rw [if_neg (by decide)]
        exact isTrue_or_nil ⟨gg, by simp [h0]⟩
  · rintro v i s₆ Lc m' g₆ ⟨⟨t6, rfl⟩, hi⟩ _ hn hv
    obtain ⟨u1, p1, r1⟩ := getAt ha hi
    refine (EvV.item (i := i) (EvV.cap rfl (cellR.keep g₆.keep)) (g₆.keep _ _ hl1) p1 (by omega) fun s' g' => EvI.name (hn.keeps g'.keep) hv).use fun s₇ g₇ => ⟨g₇, r1, fun c hc => ?_⟩
    rw [K.plain r1] at hc; cases hc
  · intro s₆ D us j g₆ nD hD aD _ _
    have e : ((List.range X.length).filter fun k => decide (k = 0) || (X.getD k 0 != X.getD (k - 1) 0)).map (fun k => X.getD k 0) = once X := onceI_eq X
    rw [e] at aD
    refine hR s₆ D us j (g.trans g₆) ?_ hD aD
    cases q : s.heap.get? D with
    | none => rfl
    | some o => rw [g.keep _ _ q] at nD; cases nD

set_option maxHeartbeats 4000000 in
theorem behind_call {R : Result → Shared → Prop} (K : IK prog w Rep) (fn : Fn s.heap f "_law_behind_head" (stmtAt pg2 5) cd) (lim : s.heap.NoLimit) (hr : A.depth < recursionLimit) (hh : A.handled = none) (b4 : Bn s.heap "len" (.builtin "len"))
    (hl : s.heap.get? l = some (listOf vs.toArray n0)) (ha : All2 Rep vs X) (hz : X.length < 1000) (hne : X ≠ [])
    (hR : ∀ s' D us j, Grow s s' → s.heap.get? D = none → s'.heap.get? D = some (listOf us.toArray j) → All2 Rep us (behind X) → R (.ok (.ret (.ref D))) s') :
    codeAny (model prog w) A (.call (.ref f) ⟨[.ref l], []⟩) R s := by
  refine callFn (binds := [("block", .ref l)]) fn lim hr (fun _ _ _ _ => rfl) (locs rfl) (fun s₁ F g => ?_) (by decide)
  refine wpAny_mono (E := No) ?_ (fun _ _ q => q) fun _ _ q => q.elim
  generalize hL : s.heap.objs.size = L at F ⊢
  have vlen := ha.length
  have xpos : 0 < X.length := List.length_pos_iff.mpr hne
  obtain ⟨v0, p0, r0⟩ := getAt ha xpos
  refine wpAny_execs_cons (wpAny_Assign_Name (EvI.const.use fun s₂ t2 g₂ => st_ (frGrow F g₂) fun s₃ F₃ x₃ => ?_))
  have m1 : upd (fun x => List.lookup x [(("block" : Str), Value.ref l)].reverse) "k" (.int 1 t2) "block" = some (.ref l) := upd_ne (by decide) rfl
  have m2 : upd (fun x => List.lookup x [(("block" : Str), Value.ref l)].reverse) "k" (.int 1 t2) "k" = some (.int ((1 : Nat) : Int) t2) := upd_same
  generalize upd (fun x => List.lookup x [(("block" : Str), Value.ref l)].reverse) "k" (.int 1 t2) = m3 at *
  refine wpAny_execs_cons (wpAny_While (codeAny_whileLoop (fun n s₁ => ∃ m₁ i₁ t₁, Fr s.heap L s₁.heap m₁ ∧ ExL L s₃ s₁ ∧ m₁ "block" = some (.ref l) ∧ m₁ "k" = some (.int (i₁ : Nat) t₁) ∧ 1 ≤ i₁ ∧ i₁ ≤ X.length ∧
      (X.drop i₁).dropWhile (fun x => x == X.getD 0 0) = (X.drop 1).dropWhile (fun x => x == X.getD 0 0) ∧ n = X.length - i₁) ?_ (X.length - 1) ⟨m3, 1, t2, F₃, .refl _ _, m1, m2, Nat.le_refl _, by omega, rfl, rfl⟩))
  rintro n s₄ ⟨m₁, i₁, t₁, F₄, x₄, e1, e2, l1, l2, dw, rfl⟩
  have hl4 := F₄.keep _ _ hl
  -- the end
  have fin : ∀ (s₅ : Shared), Grow s₄ s₅ → X.drop i₁ = (X.drop 1).dropWhile (fun x => x == X.getD 0 0) →
      wpAny (model prog w) (A.deeper (envOf "_law_behind_head" (scopeOf (stmtAt pg2 5)) L f cd)) (execs [nth (bodyOf (stmtAt pg2 5)) 2] (envOf "_law_behind_head" (scopeOf (stmtAt pg2 5)) L f cd)) (fun fl s' => R (.ok (.ret (match fl with | .ret v => v | _ => .none))) s') No s₅ := by
    intro s₅ g₅ hd
    have F₅ := frGrow F₄ g₅
    refine wpAny_execs_cons (wpAny_Return_some (sliceFrom (k := i₁) (EvV.name F₅.ns e1) (g₅.keep _ _ hl4) (by omega) (fun s' g' => EvI.name (frGrow F₅ g').ns e2) fun s₆ B g₆ nB hB => ?_))
    refine hR s₆ B _ 0 ⟨(frGrow F₅ g₆).keep, ?_, ?_⟩ ?_ hB ?_
    · exact g₆.os.trans (g₅.os.trans (x₄.os.trans (x₃.os.trans (g₂.os.trans g.os))))
    · exact g₆.gens.trans (g₅.gens.trans (x₄.gens.trans (x₃.gens.trans (g₂.gens.trans g.gens))))
    · cases q : s.heap.get? B with
      | none => rfl
      | some o => rw [F₅.keep _ _ q] at nB; cases nB
    · have := ha.drop i₁
      rw [hd] at this
      have eb : behind X = (X.drop 1).dropWhile (fun x => x == X.getD 0 0) := by
        unfold behind hd0
        cases X with
        | nil => exact absurd rfl hne
        | cons x X => rfl
      rw [eb]; exact this
  refine isTrue_and (wpAny_isTrue_Compare1 (ld F₄ e2 ((EvI.len (nameB F₄ b4 ⟨rfl, rfl⟩) (EvV.name F₄.ns e1) hl4 (by omega)).use fun s₅ t5 g₅ => lt_int (wpAny_truthy_bool ?_))))
  by_cases hlt : i₁ < X.length
  · rw [decide_eq_true (show ((i₁ : Nat) : Int) < (vs.length : Nat) by omega), if_pos rfl]
    have F₅ := frGrow F₄ g₅
    obtain ⟨u1, p1, r1⟩ := getAt ha hlt
    refine isTrue_and (wpAny_isTrue_Compare1 ((EvV.item (i := i₁) (EvV.name F₅.ns e1) (g₅.keep _ _ hl4) p1 (by omega) fun s' g' => EvI.name (frGrow F₅ g').ns e2).use fun s₆ g₆ => (EvV.item (i := 0) (EvV.name (frGrow F₅ g₆).ns e1) ((g₅.trans g₆).keep _ _ hl4) p0 (by omega) fun s' g' => EvI.const).use fun s₇ g₇ => K.eq r1 r0 (wpAny_truthy_bool ?_)))
    have g47 := g₅.trans (g₆.trans g₇)
    have dc : X.drop i₁ = X.getD i₁ 0 :: X.drop (i₁ + 1) := by
      rw [List.drop_eq_getElem_cons hlt, List.getD_eq_getElem?_getD, List.getElem?_eq_getElem hlt]; rfl
    cases hb : (X.getD i₁ 0 == X.getD 0 0) with
    | false =>
      rw [if_neg (by decide), if_neg (by decide)]
      refine wpAny_execs_nil (fin s₇ g47 ?_)
      rw [← dw, dc, List.dropWhile_cons_of_neg (by rw [hb]; decide)]
    | true =>
      rw [if_pos rfl]
      refine isTrue_and_nil ?_
      rw [if_pos rfl]
      have F₇ := frGrow F₄ g47
      refine wpAny_execs_cons (wpAny_AugAssign_Name (ldn F₇ e2 (wpAny_Constant_int (AutoIntOps.iadd_0 ?_))))
      refine st_ (s := _) (frGrow (frGrow F₇ (Grow.toks _ _)) (Grow.toks _ _)) (fun s₈ F₈ g₈ => ?_)
      refine wpAny_execs_nil ⟨X.length - (i₁ + 1), by omega, _, i₁ + 1, _, F₈, ?_, upd_ne (by decide) e1, upd_same, by omega, by omega, ?_, rfl⟩
      · exact x₄.trans (g47.exL.trans ⟨fun b o n e => g₈.keep b o n e, g₈.os, g₈.gens⟩)
      · rw [← dw, dc, List.dropWhile_cons_of_pos (p := fun x => x == X.getD 0 0) hb]
  · rw [decide_eq_false (show ¬ ((i₁ : Nat) : Int) < (vs.length : Nat) by omega), if_neg (by decide), if_neg (by decide)]
    refine wpAny_execs_nil (fin s₅ g₅ ?_)
    rw [← dw]
    have : X.drop i₁ = [] := List.drop_eq_nil_of_le (by omega)
    rw [this]; rfl
end

theorem Gn.keepG {h h' : Heap} {x : Str} {v : Value} (b : Gn h x v) (k : ∀ b o, h.get? b = some o → h'.get? b = some o) : Gn h' x v := let ⟨mg, g, e⟩ := b; ⟨mg, g.keeps k, e⟩
theorem Bn.keepC {h h' : Heap} {x : Str} {v : Value} (b : Bn h x v) (k : ∀ b o, h.get? b = some o → h'.get? b = some o) : Bn h' x v :=
  let ⟨mg, mb, g, n, b', e⟩ := b; ⟨mg, mb, g.keeps k, n, b'.keeps k, e⟩

/-- what the law's own functions need of the heap -/
structure Env2 (h : Heap) (f3 f4 f5 f6 : Addr) (c3 c4 c5 c6 : Value) : Prop where
  G3 : Gn h "_law_blocks" (.ref f3)
  fn3 : Fn h f3 "_law_blocks" (stmtAt pg2 3) c3
  G4 : Gn h "_law_once" (.ref f4)
  fn4 : Fn h f4 "_law_once" (stmtAt pg2 4) c4
  G5 : Gn h "_law_behind_head" (.ref f5)
  fn5 : Fn h f5 "_law_behind_head" (stmtAt pg2 5) c5
  G6 : Gn h "_law_left" (.ref f6)
  fn6 : Fn h f6 "_law_left" (stmtAt pg2 6) c6
  so : Bn h "sorted" (.builtin "sorted")
  se : Bn h "set" (.type "set")
  rg : Bn h "range" (.type "range")
  ln : Bn h "len" (.builtin "len")
  lim : h.NoLimit
theorem Env2.keep {h h' : Heap} {f3 f4 f5 f6 : Addr} {c3 c4 c5 c6 : Value} (x : Env2 h f3 f4 f5 f6 c3 c4 c5 c6) (k : ∀ b o, h.get? b = some o → h'.get? b = some o) : Env2 h' f3 f4 f5 f6 c3 c4 c5 c6 :=
  ⟨x.G3.keepG k, x.fn3.keep k, x.G4.keepG k, x.fn4.keep k, x.G5.keepG k, x.fn5.keep k, x.G6.keepG k, x.fn6.keep k, x.so.keepC k, x.se.keepC k, x.rg.keepC k, x.ln.keepC k, x.lim.keeps k⟩

abbrev lEnv (L f : Addr) (cd : Value) : Env := envOfC "_law_left" (scopeOf (stmtAt pg2 6)) L f cd

section
variable {prog : Program} {w : World} {A : Around} {E : Value → Shared → Prop} {s : Shared} {base : Heap} {L f : Addr} {cd : Value} {m cm : Str → Option Value} {Rep : Value → Int → Prop} {us : List Value} {bs : List (List Int)}

theorem ofHead_len (bs : List (List Int)) (h : Int) : (ofHead bs h).length ≤ bs.flatten.length := flat_sub List.filter_sublist

/-- «more or (bs != [] and bs[-1][0] > head)» -/
theorem evMore {mo on : Str} {p1 p2 p3 p4 p5 p6 p7 p8 p9 p10 p11 p12 p13 p14 : Pos} {k1 k2 : Nat} {D : Addr} {j : Nat} {mb : Bool} {h : Int} {hv : Value} {Q : Value → Shared → Prop} (K : IK prog w Rep) (F : Fc base (lEnv L f cd) s.heap m cm) (ch : cm "head" = some hv) (rh : Rep hv h)
    (mm : m mo = some (.bool mb)) (mon : m on = some (.ref D)) (hD : s.heap.get? D = some (listOf us.toArray j)) (ha : All2 (RL Rep s.heap) us bs) (hb : ∀ B ∈ bs, B ≠ []) (zl : bs.length < 1000) (ul : A.units < cLine)
    (hQ : ∀ s', Grow s s' → Q (.bool (more mb bs h)) s')
    (q1 : (lEnv L f cd).kindOf mo = some .local := by rfl) (q2 : (lEnv L f cd).kindOf on = some .local := by rfl) (d1 : (mo == ("__debug__" : Str)) = false := by decide) (d2 : (on == ("__debug__" : Str)) = false := by decide) :
    wpAny (model prog w) A (eval (.BoolOp .Or [.Name mo p1, .BoolOp .And [.Compare (.Name on p2) [.NotEq] [.List [] p3] p4, .Compare (.Subscript (.Subscript (.Name on p5) (.UnaryOp .USub (.Constant (.int 1) k1 p6) p7) p8) (.Constant (.int 0) k2 p9) p10) [.Gt] [.Name "head" p11] p12] p13] p14) (lEnv L f cd)) Q E s := by
  refine BoolOp_or (ldE F.fr.ns mm (wpAny_truthy_bool ?_) rfl q1 d1)
  cases mb with
  | true => rw [if_pos rfl]; exact hQ s (.refl _)
  | false =>
    rw [if_neg (by decide)]
    refine BoolOp_one (BoolOp_and (wpAny_Compare1 (ldE F.fr.ns mon (List_ (spliced_none (newList_ fun s₁ aE g₁ hE nE => cmp_ofNotEq (neEmpty (g₁.keep _ _ hD) hE ul _ _ _ _ (wpAny_truthy_bool ?_))))) rfl q2 d2)))
    have F₁ := fcGrow F g₁
    rcases List.eq_nil_or_concat bs with e | ⟨I, l, e⟩
    · subst e
      cases ha
      rw [if_neg (by decide)]
      exact hQ s₁ g₁
    · rw [List.concat_eq_append] at e
      subst e
      obtain ⟨us0, v, rfl, _, ⟨c, ws, n, rfl, hc, aW⟩⟩ := ha.snoc
      have hle := ha.length
      rw [List.length_append, List.length_append] at hle
      rw [List.length_append] at zl
      simp only [List.length_singleton] at hle zl
      rw [show (!(us0 ++ [Value.ref c]).isEmpty) = true by simp, if_pos rfl]
      have ne := hb l (by simp)
      cases aW with
      | nil => exact absurd rfl ne
      | @cons v0 h0 ws' l' r0 _ =>
        refine BoolOp_one (wpAny_Compare1 ((EvV.head (EvV.last (EvV.name F₁.fr.ns mon rfl q2 d2) (g₁.keep _ _ hD) (by omega)) (g₁.keep _ _ hc)).use fun s₂ g₂ => (EvV.cell (fcGrow F₁ g₂) rfl ch).use fun s₃ g₃ => K.gt r0 rh ?_))
        have em : more false (I ++ [h0 :: l']) h = decide (h < h0) := by
          unfold more
          rw [List.getLast?_concat]
          rfl
        have := hQ s₃ (g₁.trans (g₂.trans g₃))
        rw [em] at this
        exact this
end

theorem sldZ_len : ∀ (N : Nat) (X Y : List Int) (r : Two), X.length + Y.length ≤ N → sldZ X Y = some r → r.1.length ≤ X.length ∧ r.2.length ≤ Y.length
  | _, [], Y, r, _, h => by rw [sldZ_nil] at h; cases h; exact ⟨Nat.le_refl _, Nat.le_refl _⟩
  | _, x :: xs, [], r, _, h => by rw [sldZ_nil'] at h; cases h; exact ⟨Nat.le_refl _, Nat.le_refl _⟩
  | 0, x :: xs, y :: ys, r, hN, h => by simp at hN
  | N + 1, x :: xs, y :: ys, r, hN, h => by
    have l1 := dropWhile_len (fun z => z == x) xs
    have l2 := dropWhile_len (fun z => z == y) ys
    simp only [List.length_cons] at hN
    rcases Int.lt_trichotomy x y with c | c | c
    · rw [sldZ_lt c] at h
      cases q : sldZ (xs.dropWhile fun z => z == x) (y :: ys) with
      | none => rw [q] at h; cases h
      | some r' =>
        rw [q] at h
        cases h
        have := sldZ_len N _ _ r' (by simp only [List.length_cons]; omega) q
        simp only [add2, List.length_append, List.length_cons, List.length_nil] at this ⊢
        omega
    · subst c
      rw [sldZ_eq] at h
      have := sldZ_len N _ _ r (by omega) h
      simp only [List.length_cons]
      omega
    · rw [sldZ_gt c] at h
      cases q : sldZ (x :: xs) (ys.dropWhile fun z => z == y) with
      | none => rw [q] at h; cases h
      | some r' =>
        rw [q] at h
        cases h
        have := sldZ_len N _ _ r' (by simp only [List.length_cons]; omega) q
        simp only [add2, List.length_append, List.length_cons, List.length_nil] at this ⊢
        omega
theorem big (X : List Int) : ∃ z : Int, ∀ a ∈ X, a < z := by
  induction X with
  | nil => exact ⟨0, fun a h => by cases h⟩
  | cons x X ih =>
    obtain ⟨z, hz⟩ := ih
    refine ⟨(if x < z then z else x + 1), fun a ha => ?_⟩
    rcases List.mem_cons.mp ha with rfl | ha
    · split <;> omega
    · have := hz a ha
      split <;> omega
theorem leftP_len (N : Nat) (X Y : List Int) (m1 m2 : Bool) (hN : X.length + Y.length ≤ N) : (leftP N X Y m1 m2).1.length ≤ X.length + 1 ∧ (leftP N X Y m1 m2).2.length ≤ Y.length + 1 := by
  obtain ⟨z, hz⟩ := big (X ++ Y)
  have mk : ∀ b : Bool, ∃ Z : List Int, neB Z = b ∧ Z.length ≤ 1 ∧ Abv X Y Z := fun b => by
    cases b with
    | false => exact ⟨[], rfl, by simp, fun _ _ e => by cases e⟩
    | true =>
      refine ⟨[z], rfl, by simp, fun x' xs' e => ?_⟩
      cases e
      exact ⟨fun a ha => hz a (List.mem_append.mpr (.inl ha)), fun a ha => hz a (List.mem_append.mpr (.inr ha))⟩
  obtain ⟨X', e1, l1, a1⟩ := mk m1
  obtain ⟨Y', e2, l2, a2⟩ := mk m2
  have h := leftLaw N X Y X' Y' hN a1 a2
  rw [e1, e2] at h
  cases q : sldZ X' Y' with
  | none =>
    rw [q] at h
    have : sldZ (X ++ X') (Y ++ Y') = some (leftP _ (X ++ X') (Y ++ Y') false false) := plain2 _ _ _ (Nat.le_refl _)
    rw [this] at h; cases h
  | some r =>
    rw [q] at h
    have := sldZ_len _ _ _ _ (Nat.le_refl _) h
    simp only [add2, List.length_append] at this
    omega
theorem sum2_le (a b : List Two) : (sum2 a).1.length ≤ (sum2 (a ++ b)).1.length ∧ (sum2 a).2.length ≤ (sum2 (a ++ b)).2.length := by
  rw [sum2_append]; simp [add2]

def BL (Rep : Value → Int → Prop) (h : Heap) (Ok : Addr → Prop) (us : List Value) (bs : List (List Int)) : Prop := All2 (fun v r => ∃ c ws n, v = .ref c ∧ Ok c ∧ h.get? c = some (listOf ws.toArray n) ∧ All2 Rep ws r) us bs
theorem BL.keep {Rep : Value → Int → Prop} {h h' : Heap} {Ok Ok' : Addr → Prop} {us : List Value} {bs : List (List Int)} (x : BL Rep h Ok us bs) (k : ∀ b o, Ok b → h.get? b = some o → h'.get? b = some o) (hO : ∀ b, Ok b → Ok' b) : BL Rep h' Ok' us bs :=
  All2.mono x (by rintro v r _ ⟨c, ws, n, e, o, h1, h2⟩; exact ⟨c, ws, n, e, hO _ o, k _ _ o h1, h2⟩)
theorem all2_memR2 {α β : Type} {R : α → β → Prop} {as : List α} {bs : List β} (h : All2 R as bs) : All2 (fun a b => R a b ∧ b ∈ bs) as bs := by
  induction h with
  | nil => exact .nil
  | cons r _ ih => exact .cons ⟨r, .head _⟩ (ih.mono fun a b _ ⟨r, h⟩ => ⟨r, .tail _ h⟩)
theorem BL.rl {Rep : Value → Int → Prop} {h : Heap} {Ok : Addr → Prop} {us : List Value} {bs : List (List Int)} (x : BL Rep h Ok us bs) : All2 (RL Rep h) us bs :=
  All2.mono x (by rintro v r _ ⟨c, ws, n, e, o, h1, h2⟩; exact ⟨c, ws, n, e, h1, h2⟩)

theorem all2_empty {α β : Type} {R : α → β → Prop} {as : List α} {bs : List β} (h : All2 R as bs) : as.isEmpty = bs.isEmpty := by cases h <;> rfl
def orelseOf : Stmt → List Stmt
  | .If _ _ o _ => o
  | _ => []
def thenOf : Stmt → List Stmt
  | .If _ b _ _ => b
  | _ => []
theorem behind_len {B : List Int} (h : B ≠ []) : (behind B).length + 1 ≤ B.length := by
  cases B with
  | nil => exact absurd rfl h
  | cons b B =>
    have := dropWhile_len (fun z => z == hd0 (b :: B)) B
    show (B.dropWhile fun z => z == hd0 (b :: B)).length + 1 ≤ B.length + 1
    omega
theorem behind_sub {B : List Int} {k : Int} (h : k ∈ behind B) : k ∈ B := by
  cases B with
  | nil => cases h
  | cons b B => exact .tail _ ((List.dropWhile_suffix _).subset h)
theorem ofHead_sub {bs : List (List Int)} {h k : Int} (hk : k ∈ ofHead bs h) : k ∈ bs.flatten := by
  obtain ⟨B, hB, hm⟩ := List.mem_flatten.mp hk
  exact List.mem_flatten.mpr ⟨B, (List.mem_filter.mp hB).1, hm⟩

section
variable {prog : Program} {w : World} {A : Around} {E : Value → Shared → Prop} {s : Shared} {base : Heap} {L f : Addr} {cd : Value} {m cm : Str → Option Value} {Rep : Value → Int → Prop} {f3 f4 f5 f6 : Addr} {c3 c4 c5 c6 : Value}

/-- «_law_once(x) if y else x» -/
theorem evOnce {x y : Str} {p1 p2 p3 p4 p5 p6 : Pos} {D : Addr} {us : List Value} {Z : List Int} {j : Nat} {b : Bool} {Q : Value → Shared → Prop} (K : IK prog w Rep) (EV : Env2 base f3 f4 f5 f6 c3 c4 c5 c6) (F : Fc base (lEnv L f cd) s.heap m cm)
    (my : m y = some (.bool b)) (mx : m x = some (.ref D)) (hD : s.heap.get? D = some (listOf us.toArray j)) (ha : All2 Rep us Z) (zl : Z.length < 1000) (hr : A.depth < recursionLimit) (hh : A.handled = none)
    (hQ : ∀ s' B us' j', Grow s s' → (B = D ∨ s.heap.get? B = none) → s'.heap.get? B = some (listOf us'.toArray j') → All2 Rep us' (if b = true then once Z else Z) → Q (.ref B) s')
    (q1 : (lEnv L f cd).kindOf x = some .local := by rfl) (q2 : (lEnv L f cd).kindOf y = some .local := by rfl) (d1 : (x == ("__debug__" : Str)) = false := by decide) (d2 : (y == ("__debug__" : Str)) = false := by decide) :
    wpAny (model prog w) A (eval (.IfExp (.Name y p1) (.Call (.Name "_law_once" p2) [.Name x p3] [] p4) (.Name x p5) p6) (lEnv L f cd)) Q E s := by
  refine IfExp_ (wpAny_isTrue_value (ldE F.fr.ns my (wpAny_truthy_bool ?_) rfl q2 d2))
  cases b with
  | true =>
    rw [if_pos rfl]
    refine callNameE F.fr.keep EV.G4 EV.fn4 (spliced_more (ldE F.fr.ns mx (spliced_none ⟨F.fr.keep, ?_⟩) rfl q1 d1))
    exact once_call K (EV.fn4.keep F.fr.keep) (EV.lim.keeps F.fr.keep) hr hh (EV.rg.keepC F.fr.keep) (EV.ln.keepC F.fr.keep) hD ha zl fun s' B us' j' g nB hB aB => hQ s' B us' j' g (.inr nB) hB aB
  | false =>
    rw [if_neg (by decide)]
    exact ldE F.fr.ns mx (hQ s D us j (.refl _) (.inl rfl) hD ha) rfl q1 d1
end

def LeftC (prog : Program) (w : World) (Rep : Value → Int → Prop) (f3 f4 f5 f6 : Addr) (c3 c4 c5 c6 : Value) (P N D U : Nat) : Prop :=
  ∀ (A : Around) (s : Shared) (R : Result → Shared → Prop) (l1 l2 : Addr) (vs ws : List Value) (X Y : List Int) (n1 n2 : Nat) (m1 m2 : Bool), Env2 s.heap f3 f4 f5 f6 c3 c4 c5 c6 → A.depth + D < recursionLimit → A.handled = none → A.units + U < 7500 →
    s.heap.get? l1 = some (listOf vs.toArray n1) → All2 Rep vs X → s.heap.get? l2 = some (listOf ws.toArray n2) → All2 Rep ws Y → X.length + Y.length ≤ P → (∀ kk : List Int, kk.Nodup → (∀ k, k ∈ kk → k ∈ X ∨ k ∈ Y) → kk.length < 64) →
    (∀ s' t a0 a1 u0 u1 j0 j1, Grow s s' → s.heap.get? t = none → s'.heap.get? t = some (tupOf [.ref a0, .ref a1]) → s.heap.get? a0 = none → s.heap.get? a1 = none → a0 ≠ a1 → s'.heap.get? a0 = some (listOf u0.toArray j0) → s'.heap.get? a1 = some (listOf u1.toArray j1) →
      All2 Rep u0 (leftP N X Y m1 m2).1 → All2 Rep u1 (leftP N X Y m1 m2).2 → R (.ok (.ret (.ref t))) s') →
    codeAny (model prog w) A (.call (.ref f6) ⟨[.ref l1, .ref l2, .bool m1, .bool m2], []⟩) R s

section
variable {prog : Program} {w : World} {Rep : Value → Int → Prop} {f3 f4 f5 f6 : Addr} {c3 c4 c5 c6 : Value}

set_option maxHeartbeats 8000000 in
theorem left_walk (K : IK prog w Rep) (P N D U : Nat) (hP : P ≤ 300) (hPN : P ≤ N) (rec : ∀ P', P' + 2 ≤ P → LeftC prog w Rep f3 f4 f5 f6 c3 c4 c5 c6 P' N D U) : LeftC prog w Rep f3 f4 f5 f6 c3 c4 c5 c6 P (N + 1) (D + 2) (U + 3) := by
  intro A s R l1 l2 vs ws X Y n1 n2 mm1 mm2 EV hdep hh hu h1 ax h2 ay hXY hdis hR
  refine callFnC (binds := [("one", .ref l1), ("two", .ref l2), ("more_one", .bool mm1), ("more_two", .bool mm2)]) EV.fn6 EV.lim (by omega) (fun _ _ _ _ => rfl) (fun x hx => by
    have : x = (("one" : Str), Value.ref l1) ∨ x = (("two" : Str), Value.ref l2) ∨ x = (("more_one" : Str), Value.bool mm1) ∨ x = (("more_two" : Str), Value.bool mm2) := by simpa using hx
    rcases this with rfl | rfl | rfl | rfl
    · exact .inl rfl
    · exact .inl rfl
    · exact .inl rfl
    · exact .inl rfl) (fun s₁ F g => ?_)
  refine wpAny_mono (E := No) ?_ (fun _ _ q => q) fun _ _ q => q.elim
  generalize hL : s.heap.objs.size = L at F ⊢
  have e1 : bindL (envOfC "_law_left" (scopeOf (stmtAt pg2 6)) L f6 c6).kindOf [("one", .ref l1), ("two", .ref l2), ("more_one", .bool mm1), ("more_two", .bool mm2)] (fun _ => none) "one" = some (.ref l1) := rfl
  have e2 : bindL (envOfC "_law_left" (scopeOf (stmtAt pg2 6)) L f6 c6).kindOf [("one", .ref l1), ("two", .ref l2), ("more_one", .bool mm1), ("more_two", .bool mm2)] (fun _ => none) "two" = some (.ref l2) := rfl
  have e3 : bindL (envOfC "_law_left" (scopeOf (stmtAt pg2 6)) L f6 c6).kindOf [("one", .ref l1), ("two", .ref l2), ("more_one", .bool mm1), ("more_two", .bool mm2)] (fun _ => none) "more_one" = some (.bool mm1) := rfl
  have e4 : bindL (envOfC "_law_left" (scopeOf (stmtAt pg2 6)) L f6 c6).kindOf [("one", .ref l1), ("two", .ref l2), ("more_one", .bool mm1), ("more_two", .bool mm2)] (fun _ => none) "more_two" = some (.bool mm2) := rfl
  generalize bindL (envOfC "_law_left" (scopeOf (stmtAt pg2 6)) L f6 c6).kindOf [("one", .ref l1), ("two", .ref l2), ("more_one", .bool mm1), ("more_two", .bool mm2)] (fun _ => none) = m at *
  generalize bindC (envOfC "_law_left" (scopeOf (stmtAt pg2 6)) L f6 c6).kindOf [("one", .ref l1), ("two", .ref l2), ("more_one", .bool mm1), ("more_two", .bool mm2)] (fun _ => none) = cm at *
  have lh : (lEnv L f6 c6).cells.lookup ("head" : Str) = some (L + 1) := rfl
  have hA1 : (A.deeper (lEnv L f6 c6)).depth = A.depth + 1 := rfl
  have hA2 : (A.deeper (lEnv L f6 c6)).units = A.units + 3 := rfl
  have hA3 : (A.deeper (lEnv L f6 c6)).handled = none := hh
  generalize hAA : A.deeper (lEnv L f6 c6) = A' at *
  have ul : A'.units < cLine := Nat.lt_of_lt_of_le (show A'.units < 9000 by omega) (by decide)
  obtain ⟨b1, fl1⟩ := blocks_ok X
  obtain ⟨b2, fl2⟩ := blocks_ok Y
  have bl1 := blocks_len X
  have bl2 := blocks_len Y
  -- ones = _law_blocks(one)
  refine wpAny_execs_cons (wpAny_Assign_Name (callNameE F.fr.keep EV.G3 EV.fn3 (spliced_more (ldE F.fr.ns e1 (spliced_none ⟨F.fr.keep, ?_⟩)))))
  refine blocks_call K (EV.fn3.keep F.fr.keep) (EV.lim.keeps F.fr.keep) (by omega) hA3 (by omega) (F.fr.keep _ _ h1) ax (by omega) fun s₂ D1 us1 j1 g₂ nD1 hD1 aB1 => stL (fcGrow F g₂) fun s₃ F₃ x₃ => ?_
  have nD1' := fcNew F nD1
  have e2₃ : upd m "ones" (.ref D1) "two" = some (.ref l2) := upd_ne (by decide) e2
  -- twos = _law_blocks(two)
  refine wpAny_execs_cons (wpAny_Assign_Name (callNameE F₃.fr.keep EV.G3 EV.fn3 (spliced_more (ldE F₃.fr.ns e2₃ (spliced_none ⟨F₃.fr.keep, ?_⟩)))))
  refine blocks_call K (EV.fn3.keep F₃.fr.keep) (EV.lim.keeps F₃.fr.keep) (by omega) hA3 (by omega) (F₃.fr.keep _ _ h2) ay (by omega) fun s₄ D2 us2 j2 g₄ nD2 hD2 aB2 => stL (fcGrow F₃ g₄) fun s₅ F₅ x₅ => ?_
  have nD2' := fcNew F₃ nD2
  have k1 : upd (upd m "ones" (.ref D1)) "twos" (.ref D2) "ones" = some (.ref D1) := upd_ne (by decide) upd_same
  have k2 : upd (upd m "ones" (.ref D1)) "twos" (.ref D2) "twos" = some (.ref D2) := upd_same
  have k3 : upd (upd m "ones" (.ref D1)) "twos" (.ref D2) "more_one" = some (.bool mm1) := upd_ne (by decide) (upd_ne (by decide) e3)
  have k4 : upd (upd m "ones" (.ref D1)) "twos" (.ref D2) "more_two" = some (.bool mm2) := upd_ne (by decide) (upd_ne (by decide) e4)
  generalize upd (upd m "ones" (.ref D1)) "twos" (.ref D2) = m5 at *
  let Fr0 : Addr → Prop := fun c => c ≠ L ∧ s.heap.get? c = none ∧ ∀ n a, (lEnv L f6 c6).cells.lookup n = some a → c ≠ a
  have x35 : ExL L s₃ s₅ := g₄.exL.trans x₅
  have B1 : BL Rep s₅.heap Fr0 us1 (blocksOf X) := All2.mono aB1 (by
    rintro v r _ ⟨c, ws', n, e, nc, hc, aw⟩
    have nc' := fcNew F nc
    exact ⟨c, ws', n, e, nc', x35.keep _ _ nc'.1 (x₃.keep _ _ nc'.1 hc), aw⟩)
  have B2 : BL Rep s₅.heap Fr0 us2 (blocksOf Y) := All2.mono aB2 (by
    rintro v r _ ⟨c, ws', n, e, nc, hc, aw⟩
    have nc' := fcNew F₃ nc
    exact ⟨c, ws', n, e, nc', x₅.keep _ _ nc'.1 hc, aw⟩)
  have hD1₅ := x35.keep _ _ nD1'.1 (x₃.keep _ _ nD1'.1 hD1)
  have hD2₅ := x₅.keep _ _ nD2'.1 hD2
  -- left = ([], [])
  refine wpAny_execs_cons (wpAny_Assign_Name (Tuple_ (spliced_more (List_ (spliced_none (newList_ fun s₆ a0 g₆ ha0 na0 => spliced_more (List_ (spliced_none (newList_ fun s₇ a1 g₇ ha1 na1 => spliced_none (newTuple_ fun s₈ tL g₈ htL ntL => stL (fcGrow F₅ (g₆.trans (g₇.trans g₈))) fun s₉ F₉ x₉ => ?_))))))))))
  have g58 := g₆.trans (g₇.trans g₈)
  have na0' := fcNew F₅ na0
  have na1' := fcNew (fcGrow F₅ g₆) na1
  have ntL' := fcNew (fcGrow F₅ (g₆.trans g₇)) ntL
  have a01 : a0 ≠ a1 := fun q => by rw [q] at ha0; rw [ha0] at na1; cases na1
  have ta0 : tL ≠ a0 := fun q => by rw [q, g₇.keep _ _ ha0] at ntL; cases ntL
  have ta1 : tL ≠ a1 := fun q => by rw [q, ha1] at ntL; cases ntL
  have x59 : ExL L s₅ s₉ := g58.exL.trans x₉
  have ha0₉ := x₉.keep _ _ na0'.1 (g₈.keep _ _ (g₇.keep _ _ ha0))
  have ha1₉ := x₉.keep _ _ na1'.1 (g₈.keep _ _ ha1)
  have htL₉ := x₉.keep _ _ ntL'.1 htL
  have old0 : ∀ {c : Addr} {o : Obj}, s₅.heap.get? c = some o → c ≠ a0 ∧ c ≠ a1 := fun {c o} e => ⟨(fun q => by rw [q, na0] at e; cases e), (fun q => by rw [q] at e; rw [g₆.keep _ _ e] at na1; cases na1)⟩
  let Ok : Addr → Prop := fun c => Fr0 c ∧ c ≠ a0 ∧ c ≠ a1
  have B1₉ : BL Rep s₉.heap Ok us1 (blocksOf X) := All2.mono B1 (by
    rintro v r _ ⟨c, ws', n, e, nc, hc, aw⟩
    exact ⟨c, ws', n, e, ⟨nc, old0 hc⟩, x59.keep _ _ nc.1 hc, aw⟩)
  have B2₉ : BL Rep s₉.heap Ok us2 (blocksOf Y) := All2.mono B2 (by
    rintro v r _ ⟨c, ws', n, e, nc, hc, aw⟩
    exact ⟨c, ws', n, e, ⟨nc, old0 hc⟩, x59.keep _ _ nc.1 hc, aw⟩)
  have okD1 : Ok D1 := ⟨nD1', old0 hD1₅⟩
  have okD2 : Ok D2 := ⟨nD2', old0 hD2₅⟩
  have hD1₉ := x59.keep _ _ nD1'.1 hD1₅
  have hD2₉ := x59.keep _ _ nD2'.1 hD2₅
  have p1 : upd m5 "left" (.ref tL) "ones" = some (.ref D1) := upd_ne (by decide) k1
  have p2 : upd m5 "left" (.ref tL) "twos" = some (.ref D2) := upd_ne (by decide) k2
  have p3 : upd m5 "left" (.ref tL) "more_one" = some (.bool mm1) := upd_ne (by decide) k3
  have p4 : upd m5 "left" (.ref tL) "more_two" = some (.bool mm2) := upd_ne (by decide) k4
  have p5 : upd m5 "left" (.ref tL) "left" = some (.ref tL) := upd_same
  generalize upd m5 "left" (.ref tL) = m9 at *
  have os9 : s₉.os = s.os := x59.os.trans (x35.os.trans (x₃.os.trans (g₂.os.trans g.os)))
  have gens9 : s₉.gens = s.gens := x59.gens.trans (x35.gens.trans (x₃.gens.trans (g₂.gens.trans g.gens)))
  have ul1 : us1.length = (blocksOf X).length := aB1.length
  have ul2 : us2.length = (blocksOf Y).length := aB2.length
  -- for head in sorted(set([block[0] for block in ones + twos]))
  refine wpAny_execs_cons (wpAny_For (Call_ (nameBE F₉.fr.keep EV.so ?_) rfl))
  refine callWith_builtin1 (spliced_more (Call_ (nameBE F₉.fr.keep EV.se ?_) rfl) rfl) rfl rfl
  refine callWith_type1 (spliced_more ?_ rfl) rfl rfl
  have neB12 : ∀ B ∈ blocksOf X ++ blocksOf Y, B ≠ [] := fun B hB => by
    rcases List.mem_append.mp hB with h | h
    · exact b1.ne B h
    · exact b2.ne B h
  refine listComp1 (RA := fun v r => RL Rep s₉.heap v r ∧ r ≠ []) (RO := fun v x _ => Rep v x) (X := blocksOf X ++ blocksOf Y) (p := fun _ => true) (f := hd0) (cl := []) hA3 (fun _ _ _ _ r _ => r)
    (wpAny_BinOp (ldE F₉.fr.ns p1 (ldE F₉.fr.ns p2 (addLists hD1₉ hD2₉ (by omega) fun sx Dx gx nDx hDx => srcList gx hDx ?_)))) (by rw [List.length_append]; omega) (fun v a sx Lc mx gx _ hn hv => conds_nil ⟨.refl _, rfl⟩) ?_ ?_
  · have := B1₉.rl.append B2₉.rl
    exact (all2_memR2 this).mono fun v r _ ⟨q1, q2⟩ => ⟨q1, neB12 r q2⟩
  · rintro v r sx Lc mx gx ⟨⟨c, ws', n, rfl, hc, aw⟩, hne⟩ _ hn hv
    cases aw with
    | nil => exact absurd rfl hne
    | @cons v0 h0 ws0 r0 rr _ =>
      refine (EvV.head (EvV.name hn hv) (gx.keep _ _ hc)).use fun sy gy => ⟨gy, rr, fun c hc => ?_⟩
      rw [K.plain rr] at hc; cases hc
  intro sa Da ua ja ga nDa hDa aDa _ _
  have ef : (List.filter (fun _ => true) (blocksOf X ++ blocksOf Y)) = blocksOf X ++ blocksOf Y := List.filter_eq_self.mpr fun _ _ => rfl
  rw [ef] at aDa
  refine spliced_none (wpAny_mono (K.sset hA3 hDa aDa (by rw [List.length_map, List.length_append]; unfold scanBound; omega) ?_ fun s₁₀ Dh oh nh jh g₁₀ nDh hDh aDh pwh memh => ?_) (fun v sx h => spliced_none h) fun _ _ q => q)
  · intro kk hn hk
    refine hdis kk hn fun k hk' => ?_
    obtain ⟨B, hB, rfl⟩ := List.mem_map.mp (hk k hk')
    have hne := neB12 B hB
    have hmem : hd0 B ∈ B := by
      cases B with
      | nil => exact absurd rfl hne
      | cons b B => exact .head _
    rcases List.mem_append.mp hB with h | h
    · left; rw [← fl1]; exact List.mem_flatten.mpr ⟨B, h, hmem⟩
    · right; rw [← fl2]; exact List.mem_flatten.mpr ⟨B, h, hmem⟩
  have enh : nh = heads (blocksOf X) (blocksOf Y) := up_uniq pwh (heads_up _ _) fun k => by
    rw [memh]; unfold heads; rw [sortU_mem]
  subst enh
  have g910 : Grow s₉ s₁₀ := ga.trans g₁₀
  have F₁₀ := fcGrow F₉ g910
  have nDh' := fcNew (fcGrow F₉ ga) nDh
  have Dha0 : Dh ≠ a0 := fun q => by rw [q, ga.keep _ _ ha0₉] at nDh; cases nDh
  have Dha1 : Dh ≠ a1 := fun q => by rw [q, ga.keep _ _ ha1₉] at nDh; cases nDh
  have lens := leftP_len (N + 1) X Y mm1 mm2 (by omega)
  have total : leftP (N + 1) X Y mm1 mm2 = sum2 ((heads (blocksOf X) (blocksOf Y)).map (innerP (leftP N) (blocksOf X) (blocksOf Y) mm1 mm2)) := rfl
  generalize hG0 : innerP (leftP N) (blocksOf X) (blocksOf Y) mm1 mm2 = G at total
  generalize hH0 : heads (blocksOf X) (blocksOf Y) = hs at *
  have nLc : L ≠ L + 1 := Nat.ne_of_lt (Nat.lt_succ_self _)
  refine forLs (X := hs) hA3 hDh aDh
    (fun it k s' => ∃ m' cm' u0 u1 j0 j1, Fc s.heap (lEnv L f6 c6) s'.heap m' cm' ∧ (m' "ones" = some (.ref D1) ∧ m' "twos" = some (.ref D2) ∧ m' "more_one" = some (.bool mm1) ∧ m' "more_two" = some (.bool mm2) ∧ m' "left" = some (.ref tL)) ∧ s'.os = s.os ∧ s'.gens = s.gens ∧
      s'.heap.get? a0 = some (listOf u0.toArray j0) ∧ s'.heap.get? a1 = some (listOf u1.toArray j1) ∧ All2 Rep u0 (sum2 ((hs.take k).map G)).1 ∧ All2 Rep u1 (sum2 ((hs.take k).map G)).2 ∧
      ∀ b o, b ≠ L → b ≠ L + 1 → b ≠ it → b ≠ a0 → b ≠ a1 → s₁₀.heap.get? b = some o → s'.heap.get? b = some o) ?_ ?_ ?_ ?_
  · rintro it k sx sy ni ⟨m', cm', u0, u1, j0, j1, F', qs, os, gens, hu0, hu1, A0, A1, kp⟩ x
    have nw := fcNew F₁₀ ni
    have i0 : a0 ≠ it := fun q => by rw [← q, g910.keep _ _ ha0₉] at ni; cases ni
    have i1 : a1 ≠ it := fun q => by rw [← q, g910.keep _ _ ha1₉] at ni; cases ni
    exact ⟨m', cm', u0, u1, j0, j1, fcExL F' x nw.1 nw.2.1 nw.2.2, qs, x.os.trans os, x.gens.trans gens, x.keep _ _ i0 hu0, x.keep _ _ i1 hu1, A0, A1, fun b o r1 r2 r3 r4 r5 e => x.keep _ _ r3 (kp b o r1 r2 r3 r4 r5 e)⟩
  · intro it sx ni gx
    exact ⟨m9, cm, [], [], 0, 0, fcGrow F₁₀ gx, ⟨p1, p2, p3, p4, p5⟩, (g910.trans gx).os.trans os9, (g910.trans gx).gens.trans gens9, (g910.trans gx).keep _ _ ha0₉, (g910.trans gx).keep _ _ ha1₉, .nil, .nil, fun b o _ _ _ _ _ e => gx.keep _ _ e⟩
  · rintro it k v sA0 hk ni il itz rv ⟨m', cm', u0, u1, j0, j1, F', ⟨q1, q2, q3, q4, q5⟩, os, gens, hu0, hu1, A0, A1, kp⟩
    have nw := fcNew F₁₀ ni
    have itc : it ≠ L + 1 := nw.2.2 _ _ lh
    have i0 : a0 ≠ it := fun q => by rw [← q, g910.keep _ _ ha0₉] at ni; cases ni
    have i1 : a1 ≠ it := fun q => by rw [← q, g910.keep _ _ ha1₉] at ni; cases ni
    refine stCe F' lh fun sA FA xA => ?_
    have ch : upd cm' "head" v "head" = some v := upd_same
    generalize upd cm' "head" v = cmA at *
    have tk := List.take_succ_eq_append_getElem hk
    generalize hs[k] = h at *
    have stdA : ∀ b o, b ≠ L → b ≠ L + 1 → b ≠ a0 → b ≠ a1 → s₁₀.heap.get? b = some o → sA.heap.get? b = some o := fun b o r1 r2 r4 r5 e => xA.keep _ _ r2 (kp b o r1 r2 (fun q => by rw [q, ni] at e; cases e) r4 r5 e)
    have okA : ∀ b o, Ok b → s₁₀.heap.get? b = some o → sA.heap.get? b = some o := fun b o hb e => stdA b o hb.1.1 (hb.1.2.2 _ _ lh) hb.2.1 hb.2.2 e
    have hD1A := okA _ _ okD1 (g910.keep _ _ hD1₉)
    have hD2A := okA _ _ okD2 (g910.keep _ _ hD2₉)
    have B1A : BL Rep sA.heap Ok us1 (blocksOf X) := (B1₉.keep (fun b o _ e => g910.keep _ _ e) fun _ h => h).keep okA fun _ h => h
    have B2A : BL Rep sA.heap Ok us2 (blocksOf Y) := (B2₉.keep (fun b o _ e => g910.keep _ _ e) fun _ h => h).keep okA fun _ h => h
    have htLA := stdA _ _ ntL'.1 (ntL'.2.2 _ _ lh) ta0 ta1 (g910.keep _ _ htL₉)
    have hu0A := xA.keep _ _ (na0'.2.2 _ _ lh) hu0
    have hu1A := xA.keep _ _ (na1'.2.2 _ _ lh) hu1
    have cellA := FA.cellIs lh ch
    have pre : (sum2 ((hs.take (k + 1)).map G)) = add2 (sum2 ((hs.take k).map G)) (G h) := by
      rw [tk, List.map_append, sum2_append]
      congr 1
      show add2 (G h) ([], []) = G h
      simp [add2]
    have tot2 : (hs.map G) = (hs.take (k + 1)).map G ++ (hs.drop (k + 1)).map G := by rw [← List.map_append, List.take_append_drop]
    have lenk := sum2_le ((hs.take (k + 1)).map G) ((hs.drop (k + 1)).map G)
    rw [← tot2, ← total, pre] at lenk
    simp only [add2, List.length_append] at lenk
    have zu0 := A0.length
    have zu1 := A1.length
    -- the end of a turn
    have cont : ∀ (sF : Shared) (mF : Str → Option Value) (ti b0 b1' : Addr) (v0 v1 : List Value) (i0' i1' : Nat), Fc s.heap (lEnv L f6 c6) sF.heap mF cmA → (mF "ones" = some (.ref D1) ∧ mF "twos" = some (.ref D2) ∧ mF "more_one" = some (.bool mm1) ∧ mF "more_two" = some (.bool mm2) ∧ mF "left" = some (.ref tL)) → mF "inner" = some (.ref ti) →
        ExL L sA sF → sF.heap.get? ti = some (tupOf [.ref b0, .ref b1']) → sF.heap.get? b0 = some (listOf v0.toArray i0') → sF.heap.get? b1' = some (listOf v1.toArray i1') → sA.heap.get? ti = none → b1' ≠ a0 → All2 Rep v0 (G h).1 → All2 Rep v1 (G h).2 →
        wpAny (model prog w) A' (execs [nth (bodyOf (nth (bodyOf (stmtAt pg2 6)) 3)) 5, nth (bodyOf (nth (bodyOf (stmtAt pg2 6)) 3)) 6] (lEnv L f6 c6))
          (fun fl s₃ => fl = .next ∧ Stay [it, Dh] sA0.heap s₃.heap ∧ ∃ m' cm' u0 u1 j0 j1, Fc s.heap (lEnv L f6 c6) s₃.heap m' cm' ∧ (m' "ones" = some (.ref D1) ∧ m' "twos" = some (.ref D2) ∧ m' "more_one" = some (.bool mm1) ∧ m' "more_two" = some (.bool mm2) ∧ m' "left" = some (.ref tL)) ∧ s₃.os = s.os ∧ s₃.gens = s.gens ∧
            s₃.heap.get? a0 = some (listOf u0.toArray j0) ∧ s₃.heap.get? a1 = some (listOf u1.toArray j1) ∧ All2 Rep u0 (sum2 ((hs.take (k + 1)).map G)).1 ∧ All2 Rep u1 (sum2 ((hs.take (k + 1)).map G)).2 ∧
            ∀ b o, b ≠ L → b ≠ L + 1 → b ≠ it → b ≠ a0 → b ≠ a1 → s₁₀.heap.get? b = some o → s₃.heap.get? b = some o) No sF := by
      rintro sF mF ti b0 b1' v0 v1 i0' i1' FF ⟨r1, r2, r3, r4, r5⟩ rI xF hti hb0 hb1 nti nb1 AV0 AV1
      have hu0F := xF.keep _ _ na0'.1 hu0A
      have hu1F := xF.keep _ _ na1'.1 hu1A
      have htLF := xF.keep _ _ ntL'.1 htLA
      have tia0 : ti ≠ a0 := fun q => by rw [q, hu0A] at nti; cases nti
      have zv0 := AV0.length
      have zv1 := AV1.length
      refine wpAny_execs_cons (extendAny (EvV.tupAt (i := 0) (EvV.name FF.fr.ns r5) htLF rfl (by decide) fun _ _ => EvI.const) hu0F (by omega) (fun sx gx => EvV.tupAt (i := 0) (EvV.name (fcGrow FF gx).fr.ns rI) (gx.keep _ _ hti) rfl (by decide) fun _ _ => EvI.const) hb0 fun sG jG xG hG => ?_)
      have FG := fcExL FF xG na0'.1 na0'.2.1 na0'.2.2
      refine wpAny_execs_cons (extendAny (EvV.tupAt (i := 1) (EvV.name FG.fr.ns r5) (xG.keep _ _ ta0 htLF) rfl (by decide) fun _ _ => EvI.const) (xG.keep _ _ (Ne.symm a01) hu1F) (by omega) (fun sx gx => EvV.tupAt (i := 1) (EvV.name (fcGrow FG gx).fr.ns rI) (gx.keep _ _ (xG.keep _ _ tia0 hti)) rfl (by decide) fun _ _ => EvI.const) (xG.keep _ _ nb1 hb1) fun sH jH xH hH => ?_)
      have FH := fcExL FG xH na1'.1 na1'.2.1 na1'.2.2
      have all : ∀ b o, b ≠ L → b ≠ a0 → b ≠ a1 → sA.heap.get? b = some o → sH.heap.get? b = some o := fun b o r1 r4 r5 e => xH.keep _ _ r5 (xG.keep _ _ r4 (xF.keep _ _ r1 e))
      refine wpAny_execs_nil ⟨rfl, fun b hb o e => ?_, mF, cmA, _, _, _, _, FH, ⟨r1, r2, r3, r4, r5⟩, ?_, ?_, xH.keep _ _ a01 hG, hH, ?_, ?_, fun b o r1 r2 r3 r4 r5 e => all b o r1 r4 r5 (xA.keep _ _ r2 (kp b o r1 r2 r3 r4 r5 e))⟩
      · have hb' : b ≠ L ∧ b ≠ L + 1 ∧ b ≠ a0 ∧ b ≠ a1 := by
          rcases List.mem_cons.mp hb with rfl | hb
          · exact ⟨nw.1, itc, Ne.symm i0, Ne.symm i1⟩
          · rw [List.mem_singleton.mp hb]; exact ⟨nDh'.1, nDh'.2.2 _ _ lh, Dha0, Dha1⟩
        exact all b o hb'.1 hb'.2.2.1 hb'.2.2.2 (xA.keep _ _ hb'.2.1 e)
      · exact xH.os.trans (xG.os.trans (xF.os.trans (xA.os.trans os)))
      · exact xH.gens.trans (xG.gens.trans (xF.gens.trans (xA.gens.trans gens)))
      · rw [pre]; exact A0.append AV0
      · rw [pre]; exact A1.append AV1
    -- mine
    refine wpAny_execs_cons (assignComp2M (RB := Rep) (X := blocksOf X) (p := fun B => hd0 B == h) (cl := [(("head" : Str), L + 1)]) FA hA3 (fun u b r => K.plain r) (ldE FA.fr.ns q1 (srcList (.refl _) hD1A B1A.rl)) (by rw [fl1]; omega) ?_ fun sB aMi uM jM FB xB nMi hMi aM => ?_)
    · rintro v' r sx Lc mx gx ⟨c, ws', n, rfl, hc, aw⟩ hr hn hv
      have hne := b1.ne r hr
      cases aw with
      | nil => exact absurd rfl hne
      | @cons v0 h0 ws0 r0 rr _ =>
        exact conds_one (wpAny_isTrue_Compare1 ((EvV.head (EvV.name hn hv) (gx.keep _ _ hc)).use fun sy gy => (EvV.cap rfl (cellA.keep (gx.trans gy).keep)).use fun sz gz => K.eq rr rv (wpAny_truthy_bool ⟨gy.trans gz, rfl⟩)) (by with_unfolding_all rfl))
    have aM : All2 Rep uM (ofHead (blocksOf X) h) := aM
    have nMi' := fcNew FA nMi
    have t1 : upd m' "mine" (.ref aMi) "ones" = some (.ref D1) := upd_ne (by decide) q1
    have t2 : upd m' "mine" (.ref aMi) "twos" = some (.ref D2) := upd_ne (by decide) q2
    have t3 : upd m' "mine" (.ref aMi) "more_one" = some (.bool mm1) := upd_ne (by decide) q3
    have t4 : upd m' "mine" (.ref aMi) "more_two" = some (.bool mm2) := upd_ne (by decide) q4
    have t5 : upd m' "mine" (.ref aMi) "left" = some (.ref tL) := upd_ne (by decide) q5
    have t6 : upd m' "mine" (.ref aMi) "mine" = some (.ref aMi) := upd_same
    generalize upd m' "mine" (.ref aMi) = mB at *
    have okL : ∀ {sx sy : Shared} b o, ExL L sx sy → Ok b → sx.heap.get? b = some o → sy.heap.get? b = some o := fun b o x hb e => x.keep _ _ hb.1.1 e
    have hD1B := okL _ _ xB okD1 hD1A
    have hD2B := okL _ _ xB okD2 hD2A
    have B1B := B1A.keep (h' := sB.heap) (fun b o hb e => okL b o xB hb e) fun _ h => h
    have B2B := B2A.keep (h' := sB.heap) (fun b o hb e => okL b o xB hb e) fun _ h => h
    have cellB := FB.cellIs lh ch
    -- theirs
    refine wpAny_execs_cons (assignComp2M (RB := Rep) (X := blocksOf Y) (p := fun B => hd0 B == h) (cl := [(("head" : Str), L + 1)]) FB hA3 (fun u b r => K.plain r) (ldE FB.fr.ns t2 (srcList (.refl _) hD2B B2B.rl)) (by rw [fl2]; omega) ?_ fun sC aTh uT jT FC xC nTh hTh aT => ?_)
    · rintro v' r sx Lc mx gx ⟨c, ws', n, rfl, hc, aw⟩ hr hn hv
      have hne := b2.ne r hr
      cases aw with
      | nil => exact absurd rfl hne
      | @cons v0 h0 ws0 r0 rr _ =>
        exact conds_one (wpAny_isTrue_Compare1 ((EvV.head (EvV.name hn hv) (gx.keep _ _ hc)).use fun sy gy => (EvV.cap rfl (cellB.keep (gx.trans gy).keep)).use fun sz gz => K.eq rr rv (wpAny_truthy_bool ⟨gy.trans gz, rfl⟩)) (by with_unfolding_all rfl))
    have aT : All2 Rep uT (ofHead (blocksOf Y) h) := aT
    have nTh' := fcNew FB nTh
    have y1 : upd mB "theirs" (.ref aTh) "ones" = some (.ref D1) := upd_ne (by decide) t1
    have y2 : upd mB "theirs" (.ref aTh) "twos" = some (.ref D2) := upd_ne (by decide) t2
    have y3 : upd mB "theirs" (.ref aTh) "more_one" = some (.bool mm1) := upd_ne (by decide) t3
    have y4 : upd mB "theirs" (.ref aTh) "more_two" = some (.bool mm2) := upd_ne (by decide) t4
    have y5 : upd mB "theirs" (.ref aTh) "left" = some (.ref tL) := upd_ne (by decide) t5
    have y6 : upd mB "theirs" (.ref aTh) "mine" = some (.ref aMi) := upd_ne (by decide) t6
    have y7 : upd mB "theirs" (.ref aTh) "theirs" = some (.ref aTh) := upd_same
    generalize upd mB "theirs" (.ref aTh) = mC at *
    have hD1C := okL _ _ xC okD1 hD1B
    have hD2C := okL _ _ xC okD2 hD2B
    have B1C := B1B.keep (h' := sC.heap) (fun b o hb e => okL b o xC hb e) fun _ h => h
    have B2C := B2B.keep (h' := sC.heap) (fun b o hb e => okL b o xC hb e) fun _ h => h
    have hMiC := xC.keep _ _ nMi'.1 hMi
    -- behind_one, behind_two
    refine wpAny_execs_cons (wpAny_Assign_Name (evMore K FC ch rv y3 y1 hD1C B1C.rl b1.ne (by omega) ul fun sD' gD => stL (fcGrow FC gD) fun sD FD xD => ?_))
    have z1 : upd mC "behind_one" (.bool (more mm1 (blocksOf X) h)) "ones" = some (.ref D1) := upd_ne (by decide) y1
    have z2 : upd mC "behind_one" (.bool (more mm1 (blocksOf X) h)) "twos" = some (.ref D2) := upd_ne (by decide) y2
    have z3 : upd mC "behind_one" (.bool (more mm1 (blocksOf X) h)) "more_one" = some (.bool mm1) := upd_ne (by decide) y3
    have z4 : upd mC "behind_one" (.bool (more mm1 (blocksOf X) h)) "more_two" = some (.bool mm2) := upd_ne (by decide) y4
    have z5 : upd mC "behind_one" (.bool (more mm1 (blocksOf X) h)) "left" = some (.ref tL) := upd_ne (by decide) y5
    have z6 : upd mC "behind_one" (.bool (more mm1 (blocksOf X) h)) "mine" = some (.ref aMi) := upd_ne (by decide) y6
    have z7 : upd mC "behind_one" (.bool (more mm1 (blocksOf X) h)) "theirs" = some (.ref aTh) := upd_ne (by decide) y7
    have z8 : upd mC "behind_one" (.bool (more mm1 (blocksOf X) h)) "behind_one" = some (.bool (more mm1 (blocksOf X) h)) := upd_same
    generalize upd mC "behind_one" (.bool (more mm1 (blocksOf X) h)) = mD at *
    have xCD : ExL L sC sD := gD.exL.trans xD
    have hD2D := okL _ _ xCD okD2 hD2C
    have B2D := B2C.keep (h' := sD.heap) (fun b o hb e => okL b o xCD hb e) fun _ h => h
    refine wpAny_execs_cons (wpAny_Assign_Name (evMore K FD ch rv z4 z2 hD2D B2D.rl b2.ne (by omega) ul fun sE' gE => stL (fcGrow FD gE) fun sE FE xE => ?_))
    have w1 : upd mD "behind_two" (.bool (more mm2 (blocksOf Y) h)) "ones" = some (.ref D1) := upd_ne (by decide) z1
    have w2 : upd mD "behind_two" (.bool (more mm2 (blocksOf Y) h)) "twos" = some (.ref D2) := upd_ne (by decide) z2
    have w3 : upd mD "behind_two" (.bool (more mm2 (blocksOf Y) h)) "more_one" = some (.bool mm1) := upd_ne (by decide) z3
    have w4 : upd mD "behind_two" (.bool (more mm2 (blocksOf Y) h)) "more_two" = some (.bool mm2) := upd_ne (by decide) z4
    have w5 : upd mD "behind_two" (.bool (more mm2 (blocksOf Y) h)) "left" = some (.ref tL) := upd_ne (by decide) z5
    have w6 : upd mD "behind_two" (.bool (more mm2 (blocksOf Y) h)) "mine" = some (.ref aMi) := upd_ne (by decide) z6
    have w7 : upd mD "behind_two" (.bool (more mm2 (blocksOf Y) h)) "theirs" = some (.ref aTh) := upd_ne (by decide) z7
    have w8 : upd mD "behind_two" (.bool (more mm2 (blocksOf Y) h)) "behind_one" = some (.bool (more mm1 (blocksOf X) h)) := upd_ne (by decide) z8
    have w9 : upd mD "behind_two" (.bool (more mm2 (blocksOf Y) h)) "behind_two" = some (.bool (more mm2 (blocksOf Y) h)) := upd_same
    generalize upd mD "behind_two" (.bool (more mm2 (blocksOf Y) h)) = mE at *
    have xCE : ExL L sC sE := xCD.trans (gE.exL.trans xE)
    have xAE : ExL L sA sE := (xB.trans xC).trans xCE
    have hMiE := xCE.keep _ _ nMi'.1 hMiC
    have hThE := xCE.keep _ _ nTh'.1 hTh
    have lM := ofHead_len (blocksOf X) h
    have lT := ofHead_len (blocksOf Y) h
    rw [fl1] at lM
    rw [fl2] at lT
    have hGh : G h = innerP (leftP N) (blocksOf X) (blocksOf Y) mm1 mm2 h := by rw [hG0]
    have zM := aM.length
    have zT := aT.length
    have freshA : ∀ {sx : Shared} {c : Addr}, ExL L sA sx → c ≠ L → sx.heap.get? c = none → sA.heap.get? c = none := fun {sx c} x hL q => by
      cases e : sA.heap.get? c with
      | none => rfl
      | some o => rw [x.keep _ _ hL e] at q; cases q
    have nThA : sA.heap.get? aTh = none := freshA xB nTh'.1 nTh
    have notA0 : ∀ {c : Addr}, sA.heap.get? c = none → c ≠ a0 := fun q e => by rw [e, hu0A] at q; cases q
    -- if mine != [] and theirs != []
    have EVE := EV.keep FE.fr.keep
    have emptyM : uM.isEmpty = (ofHead (blocksOf X) h).isEmpty := all2_empty aM
    have emptyT : uT.isEmpty = (ofHead (blocksOf Y) h).isEmpty := all2_empty aT
    -- the two ways
    have good : ∀ (sF : Shared) (mF : Str → Option Value) (ti b0 b1' : Addr) (v0 v1 : List Value) (i0' i1' : Nat), Fc s.heap (lEnv L f6 c6) sF.heap (upd mE "inner" (.ref ti)) cmA → ExL L sE sF → sF.heap.get? ti = some (tupOf [.ref b0, .ref b1']) → sF.heap.get? b0 = some (listOf v0.toArray i0') → sF.heap.get? b1' = some (listOf v1.toArray i1') → sE.heap.get? ti = none → b1' ≠ a0 → All2 Rep v0 (G h).1 → All2 Rep v1 (G h).2 →
        wpAny (model prog w) A' (execs [nth (bodyOf (nth (bodyOf (stmtAt pg2 6)) 3)) 5, nth (bodyOf (nth (bodyOf (stmtAt pg2 6)) 3)) 6] (lEnv L f6 c6))
          (fun fl s₃ => fl = .next ∧ Stay [it, Dh] sA0.heap s₃.heap ∧ ∃ m' cm' u0 u1 j0 j1, Fc s.heap (lEnv L f6 c6) s₃.heap m' cm' ∧ (m' "ones" = some (.ref D1) ∧ m' "twos" = some (.ref D2) ∧ m' "more_one" = some (.bool mm1) ∧ m' "more_two" = some (.bool mm2) ∧ m' "left" = some (.ref tL)) ∧ s₃.os = s.os ∧ s₃.gens = s.gens ∧
            s₃.heap.get? a0 = some (listOf u0.toArray j0) ∧ s₃.heap.get? a1 = some (listOf u1.toArray j1) ∧ All2 Rep u0 (sum2 ((hs.take (k + 1)).map G)).1 ∧ All2 Rep u1 (sum2 ((hs.take (k + 1)).map G)).2 ∧
            ∀ b o, b ≠ L → b ≠ L + 1 → b ≠ it → b ≠ a0 → b ≠ a1 → s₁₀.heap.get? b = some o → s₃.heap.get? b = some o) No sF := by
      intro sF mF ti b0 b1' v0 v1 i0' i1' FF xF hti hb0 hb1 nti nb1 AV0 AV1
      exact cont sF _ ti b0 b1' v0 v1 i0' i1' FF ⟨upd_ne (by decide) w1, upd_ne (by decide) w2, upd_ne (by decide) w3, upd_ne (by decide) w4, upd_ne (by decide) w5⟩ upd_same (xAE.trans xF) hti hb0 hb1 (freshA xAE (fcNew FE nti).1 nti) nb1 AV0 AV1
    have elseB : ∀ (sx : Shared), Grow sE sx → ¬ (ofHead (blocksOf X) h ≠ [] ∧ ofHead (blocksOf Y) h ≠ []) → wpAny (model prog w) A' (execs (orelseOf (nth (bodyOf (nth (bodyOf (stmtAt pg2 6)) 3)) 4)) (lEnv L f6 c6))
        (fun fl s₃ => fl = .next ∧ wpAny (model prog w) A' (execs [nth (bodyOf (nth (bodyOf (stmtAt pg2 6)) 3)) 5, nth (bodyOf (nth (bodyOf (stmtAt pg2 6)) 3)) 6] (lEnv L f6 c6))
          (fun fl s₃ => fl = .next ∧ Stay [it, Dh] sA0.heap s₃.heap ∧ ∃ m' cm' u0 u1 j0 j1, Fc s.heap (lEnv L f6 c6) s₃.heap m' cm' ∧ (m' "ones" = some (.ref D1) ∧ m' "twos" = some (.ref D2) ∧ m' "more_one" = some (.bool mm1) ∧ m' "more_two" = some (.bool mm2) ∧ m' "left" = some (.ref tL)) ∧ s₃.os = s.os ∧ s₃.gens = s.gens ∧
            s₃.heap.get? a0 = some (listOf u0.toArray j0) ∧ s₃.heap.get? a1 = some (listOf u1.toArray j1) ∧ All2 Rep u0 (sum2 ((hs.take (k + 1)).map G)).1 ∧ All2 Rep u1 (sum2 ((hs.take (k + 1)).map G)).2 ∧
            ∀ b o, b ≠ L → b ≠ L + 1 → b ≠ it → b ≠ a0 → b ≠ a1 → s₁₀.heap.get? b = some o → s₃.heap.get? b = some o) No s₃) No sx := by
      intro sx gx hno
      have Fx := fcGrow FE gx
      have hGe : G h = (if more mm2 (blocksOf Y) h then once (ofHead (blocksOf X) h) else ofHead (blocksOf X) h, if more mm1 (blocksOf X) h then once (ofHead (blocksOf Y) h) else ofHead (blocksOf Y) h) := by
        rw [hGh]; unfold innerP; rw [if_neg hno]
      refine wpAny_execs_cons (wpAny_Assign_Name (Tuple_ (spliced_more (evOnce K EV Fx w9 w6 (gx.keep _ _ hMiE) aM (by omega) (by omega) hA3 fun sy C0 v0 i0' gy oC0 hC0 aC0 => spliced_more (evOnce K EV (fcGrow Fx gy) w8 w7 ((gx.trans gy).keep _ _ hThE) aT (by omega) (by omega) hA3 fun sz C1 v1 i1' gz oC1 hC1 aC1 => spliced_none (newTuple_ fun sw ti gw hti nti => stL (fcGrow Fx (gy.trans (gz.trans gw))) fun sF FF xF => ?_))))))
      have gEw : Grow sE sw := gx.trans (gy.trans (gz.trans gw))
      have xEF : ExL L sE sF := gEw.exL.trans xF
      have gEz : Grow sE sz := gx.trans (gy.trans gz)
      have C0L : C0 ≠ L := by
        rcases oC0 with rfl | q
        · exact nMi'.1
        · exact (fcNew Fx q).1
      have C1L : C1 ≠ L := by
        rcases oC1 with rfl | q
        · exact nTh'.1
        · exact (fcNew (fcGrow Fx gy) q).1
      have ntE : sE.heap.get? ti = none := by
        cases e : sE.heap.get? ti with
        | none => rfl
        | some o => rw [gEz.keep _ _ e] at nti; cases nti
      have tiL := (fcNew FE ntE).1
      have C1a : C1 ≠ a0 := by
        rcases oC1 with rfl | q
        · exact notA0 nThA
        · refine notA0 (freshA (xAE.trans (gx.trans gy).exL) C1L q)
      refine wpAny_execs_nil ⟨rfl, good sF mE ti C0 C1 v0 v1 i0' i1' FF xEF (xF.keep _ _ tiL hti) (xF.keep _ _ C0L (gw.keep _ _ (gz.keep _ _ hC0))) (xF.keep _ _ C1L (gw.keep _ _ hC1)) ntE C1a ?_ ?_⟩
      · rw [hGe]; exact aC0
      · rw [hGe]; exact aC1
    refine wpAny_execs_cons (wpAny_If (isTrue_and (wpAny_isTrue_Compare1 (ldE FE.fr.ns w6 (List_ (spliced_none (newList_ fun sG aE gG hE nE => cmp_ofNotEq (neEmpty (gG.keep _ _ hMiE) hE ul _ _ _ _ (wpAny_truthy_bool ?_)))))))))
    rw [emptyM]
    by_cases hM : ofHead (blocksOf X) h = []
    · rw [show (!(ofHead (blocksOf X) h).isEmpty) = false by rw [hM]; rfl, if_neg (by decide), if_neg (by decide)]
      refine wpAny_mono (elseB sG gG fun q => q.1 hM) (fun fl s₃ ⟨e, q⟩ => ?_) fun _ _ q => q
      subst e
      exact wpAny_mono q (fun fl s₄ ⟨e, q⟩ => by subst e; exact .inl ⟨rfl, q⟩) fun _ _ q => q
    · have eM : (!(ofHead (blocksOf X) h).isEmpty) = true := by
        cases hq : ofHead (blocksOf X) h with
        | nil => exact absurd hq hM
        | cons a l => rfl
      rw [eM, if_pos rfl]
      have FG := fcGrow FE gG
      refine isTrue_and (wpAny_isTrue_Compare1 (ldE FG.fr.ns w7 (List_ (spliced_none (newList_ fun sG2 aE2 gG2 hE2 nE2 => cmp_ofNotEq (neEmpty ((gG.trans gG2).keep _ _ hThE) hE2 ul _ _ _ _ (wpAny_truthy_bool ?_)))))))
      rw [emptyT]
      by_cases hT : ofHead (blocksOf Y) h = []
      · rw [show (!(ofHead (blocksOf Y) h).isEmpty) = false by rw [hT]; rfl, if_neg (by decide), if_neg (by decide)]
        refine wpAny_mono (elseB sG2 (gG.trans gG2) fun q => q.2 hT) (fun fl s₃ ⟨e, q⟩ => ?_) fun _ _ q => q
        subst e
        exact wpAny_mono q (fun fl s₄ ⟨e, q⟩ => by subst e; exact .inl ⟨rfl, q⟩) fun _ _ q => q
      · have eT : (!(ofHead (blocksOf Y) h).isEmpty) = true := by
          cases hq : ofHead (blocksOf Y) h with
          | nil => exact absurd hq hT
          | cons a l => rfl
        rw [eT, if_pos rfl]
        refine isTrue_and_nil ?_
        rw [if_pos rfl]
        have gEH := gG.trans gG2
        have FH := fcGrow FE gEH
        have lb1 := behind_len hM
        have lb2 := behind_len hT
        have hGt : G h = leftP N (behind (ofHead (blocksOf X) h)) (behind (ofHead (blocksOf Y) h)) (more mm1 (blocksOf X) h) (more mm2 (blocksOf Y) h) := by
          rw [hGh]; unfold innerP; rw [if_pos ⟨hM, hT⟩]
        refine wpAny_execs_cons (wpAny_Assign_Name (callNameE FH.fr.keep EV.G6 EV.fn6 (spliced_more (callNameE FH.fr.keep EV.G5 EV.fn5 (spliced_more (ldE FH.fr.ns w6 (spliced_none ⟨FH.fr.keep, behind_call K (EV.fn5.keep FH.fr.keep) (EV.lim.keeps FH.fr.keep) (by omega) hA3 (EV.ln.keepC FH.fr.keep) (gEH.keep _ _ hMiE) aM (by omega) hM fun sI C0 v0 i0' gI nC0 hC0 aC0 => ?_⟩)))))))
        have FI := fcGrow FH gI
        refine spliced_more (callNameE FI.fr.keep EV.G5 EV.fn5 (spliced_more (ldE FI.fr.ns w7 (spliced_none ⟨FI.fr.keep, behind_call K (EV.fn5.keep FI.fr.keep) (EV.lim.keeps FI.fr.keep) (by omega) hA3 (EV.ln.keepC FI.fr.keep) ((gEH.trans gI).keep _ _ hThE) aT (by omega) hT fun sJ C1 v1 i1' gJ nC1 hC1 aC1 => ?_⟩))))
        have FJ := fcGrow FI gJ
        refine spliced_more (ldE FJ.fr.ns w8 (spliced_more (ldE FJ.fr.ns w9 (spliced_none ⟨FJ.fr.keep, ?_⟩))))
        have gEJ : Grow sE sJ := gEH.trans (gI.trans gJ)
        refine rec ((behind (ofHead (blocksOf X) h)).length + (behind (ofHead (blocksOf Y) h)).length) (by omega) A' sJ _ C0 C1 v0 v1 _ _ i0' i1' _ _ (EV.keep FJ.fr.keep) (by omega) hA3 (by omega) (gJ.keep _ _ hC0) aC0 hC1 aC1 (Nat.le_refl _) ?_ ?_
        · intro kk hn hk
          refine hdis kk hn fun q hq => ?_
          rcases hk q hq with h' | h'
          · left; rw [← fl1]; exact ofHead_sub (behind_sub h')
          · right; rw [← fl2]; exact ofHead_sub (behind_sub h')
        · intro sK ti d0 d1 v0' v1' k0 k1' gK nti hti nd0 nd1 nd hd0' hd1' ad0 ad1
          refine stL (fcGrow FJ gK) fun sF FF xF => ?_
          have gEK := gEJ.trans gK
          have ntE : sE.heap.get? ti = none := by
            cases e : sE.heap.get? ti with
            | none => rfl
            | some o => rw [gEJ.keep _ _ e] at nti; cases nti
          have L0 := (fcNew FJ nd0).1
          have L1 := (fcNew FJ nd1).1
          have xEF : ExL L sE sF := gEK.exL.trans xF
          have d1a : d1 ≠ a0 := notA0 (freshA (xAE.trans gEJ.exL) L1 nd1)
          refine wpAny_execs_nil (wpAny_mono (good sF mE ti d0 d1 v0' v1' k0 k1' FF xEF (xF.keep _ _ (fcNew FE ntE).1 hti) (xF.keep _ _ L0 hd0') (xF.keep _ _ L1 hd1') ntE d1a ?_ ?_) (fun fl s₄ ⟨e, q⟩ => by subst e; exact .inl ⟨rfl, q⟩) fun _ _ q => q)
          · rw [hGt]; exact ad0
          · rw [hGt]; exact ad1
  · rintro it sx ni ⟨m', cm', u0, u1, j0, j1, F', ⟨q1, q2, q3, q4, q5⟩, os, gens, hu0, hu1, A0, A1, kp⟩
    rw [List.take_length, ← total] at A0 A1
    have htLx := kp _ _ ntL'.1 (ntL'.2.2 _ _ lh) (fun q => by rw [← q, g910.keep _ _ htL₉] at ni; cases ni) ta0 ta1 (g910.keep _ _ htL₉)
    refine wpAny_execs_cons (wpAny_Return_some (ldE F'.fr.ns q5 ?_))
    exact hR sx tL a0 a1 u0 u1 j0 j1 ⟨F'.fr.keep, os, gens⟩ ntL'.2.1 htLx na0'.2.1 na1'.2.1 a01 hu0 hu1 A0 A1

theorem left_call (K : IK prog w Rep) : ∀ (N P : Nat), P < N → P ≤ 300 → LeftC prog w Rep f3 f4 f5 f6 c3 c4 c5 c6 P N (2 * N) (3 * N)
  | 0, P, h, _ => by omega
  | N + 1, P, h, hP => by
    have := left_walk K P N (2 * N) (3 * N) hP (by omega) fun P' hP' => left_call K N P' (by omega) (by omega)
    have e1 : 2 * (N + 1) = 2 * N + 2 := by omega
    have e2 : 3 * (N + 1) = 3 * N + 3 := by omega
    rw [e1, e2]
    exact this
end

def mulA (x : Int) : Nat := ([1, 0, 1, 2, 0] : List Nat).getD (x.fmod 5).toNat 0
def mulB (x : Int) : Nat := ([0, 1, 1, 0, 2] : List Nat).getD (x.fmod 5).toNat 0
def made (mu : Int → Nat) (X : List Int) : List Int := X.flatMap fun x => List.replicate (mu x) (x.fdiv 5)
theorem fmod5 (x : Int) : 0 ≤ x.fmod 5 ∧ x.fmod 5 < 5 := ⟨Int.fmod_nonneg_of_pos x (by decide), Int.fmod_lt_of_pos x (by decide)⟩
theorem five {n : Int} (h : 0 ≤ n) (h' : n < 5) : n = 0 ∨ n = 1 ∨ n = 2 ∨ n = 3 ∨ n = 4 := by omega
theorem mulA_int (x : Int) : ([1, 0, 1, 2, 0] : List Int).getD (x.fmod 5).toNat 0 = ((mulA x : Nat) : Int) := by
  have := fmod5 x
  unfold mulA
  rcases five this.1 this.2 with e | e | e | e | e <;> rw [e] <;> rfl
theorem mulB_int (x : Int) : ([0, 1, 1, 0, 2] : List Int).getD (x.fmod 5).toNat 0 = ((mulB x : Nat) : Int) := by
  have := fmod5 x
  unfold mulB
  rcases five this.1 this.2 with e | e | e | e | e <;> rw [e] <;> rfl
theorem mulA_le (x : Int) : mulA x ≤ 2 := by
  have := fmod5 x
  unfold mulA
  rcases five this.1 this.2 with e | e | e | e | e <;> rw [e] <;> decide
theorem mulB_le (x : Int) : mulB x ≤ 2 := by
  have := fmod5 x
  unfold mulB
  rcases five this.1 this.2 with e | e | e | e | e <;> rw [e] <;> decide
theorem made_len {mu : Int → Nat} (h : ∀ x, mu x ≤ 2) (X : List Int) : (made mu X).length ≤ 2 * X.length := by
  induction X with
  | nil => simp [made]
  | cons x X ih => have := h x; simp [made] at ih ⊢; omega
theorem made_snoc (mu : Int → Nat) (X : List Int) (x : Int) : made mu (X ++ [x]) = made mu X ++ List.replicate (mu x) (x.fdiv 5) := by simp [made]
theorem all2_repl {x : Nat} {a : Int} {t : Tok} : All2 RepI (List.replicate x (Value.int a t)) (List.replicate x a) := by
  induction x with
  | zero => exact .nil
  | succ x ih => exact .cons ⟨t, rfl⟩ ih

theorem Bn.keep {h h' : Heap} {x : Str} {v : Value} (b : Bn h x v) (k : ∀ b o, h.get? b = some o → h'.get? b = some o) : Bn h' x v :=
  let ⟨mg, mb, g, n, b', e⟩ := b; ⟨mg, mb, g.keeps k, n, b'.keeps k, e⟩

section
variable {prog : Program} {w : World} {A : Around} {s : Shared} {base : Heap} {L fa l : Addr} {cd : Value} {m : Str → Option Value} {vs : List Value} {X : List Int} {k : Nat}

/-- the two lists of the script -/
theorem build2 {a1 a2 : Addr} {Q : Flow → Shared → Prop} (F : Fr base L s.heap m) (hh : A.handled = none) (ms : m "script" = some (.ref l)) (m1 : m "first" = some (.ref a1)) (m2 : m "second" = some (.ref a2))
    (hl : base.IsList l vs.toArray) (ha : All2 RepI vs X) (hz : X.length ≤ 63) (h1 : s.heap.get? a1 = some (listOf [].toArray 0)) (h2 : s.heap.get? a2 = some (listOf [].toArray 0))
    (n1 : base.get? a1 = none) (n2 : base.get? a2 = none) (h12 : a1 ≠ a2) (h1L : a1 ≠ L) (h2L : a2 ≠ L)
    (hQ : ∀ s' m' us ws j1 j2, Fr base L s'.heap m' → m' "first" = some (.ref a1) → m' "second" = some (.ref a2) → s'.heap.get? a1 = some (listOf us.toArray j1) → s'.heap.get? a2 = some (listOf ws.toArray j2) →
      All2 RepI us (made mulA X) → All2 RepI ws (made mulB X) → s'.os = s.os → s'.gens = s.gens → Q .next s') :
    wpAny (model prog w) A (exec (nth (bodyOf (stmtAt pg2 7)) 2) (envOf "law" (scopeOf (stmtAt pg2 7)) L fa cd)) Q No s := by
  obtain ⟨ol, hol, rl⟩ := hl
  have hl' : s.heap.IsList l vs.toArray := ⟨ol, F.keep _ _ hol, rl⟩
  have lL : l ≠ L := fun q => by
    have := F.above
    rw [q] at hol
    exact absurd (Nat.lt_of_lt_of_le (Heap.lt_size hol) this) (Nat.lt_irrefl _)
  have l1 : l ≠ a1 := fun q => by rw [q, n1] at hol; cases hol
  have l2 : l ≠ a2 := fun q => by rw [q, n2] at hol; cases hol
  refine forS (RA := RepI) (X := X) (fps := fun it => [it, l]) F hh (ld F ms (srcListI (.refl _) hl' ha)) ?_
    (fun it k s' m' => m' "first" = some (.ref a1) ∧ m' "second" = some (.ref a2) ∧ ∃ us ws j1 j2, s'.heap.get? a1 = some (listOf us.toArray j1) ∧ s'.heap.get? a2 = some (listOf ws.toArray j2) ∧
      All2 RepI us (made mulA (X.take k)) ∧ All2 RepI ws (made mulB (X.take k)) ∧ s'.os = s.os ∧ s'.gens = s.gens) ?_ ?_ ?_ ?_
  · intro it ni q
    rcases List.mem_cons.mp q with q | q
    · obtain ⟨o, _, _, e, _⟩ := F.ns
      rw [q, ni] at e; cases e
    · exact lL (List.mem_singleton.mp q).symm
  · rintro it k s₄ s₅ m' ni ⟨e1, e2, us, ws, j1, j2, q1, q2, b1, b2, os, gens⟩ g
    have i1 : a1 ≠ it := fun q => by rw [← q, h1] at ni; cases ni
    have i2 : a2 ≠ it := fun q => by rw [← q, h2] at ni; cases ni
    exact ⟨e1, e2, us, ws, j1, j2, g.keep _ _ i1 h1L q1, g.keep _ _ i2 h2L q2, b1, b2, g.os.trans os, g.gens.trans gens⟩
  · intro it s₄ ni g₄
    exact ⟨m1, m2, [], [], 0, 0, g₄.keep _ _ h1, g₄.keep _ _ h2, .nil, .nil, g₄.os, g₄.gens⟩
  · rintro it k v s₄ m₁ hk ni iL iz hfp ⟨t, rfl⟩ F₄ ⟨e1, e2, us, ws, j1, j2, q1, q2, b1, b2, os, gens⟩
    have i1 : a1 ≠ it := fun q => by rw [← q, h1] at ni; cases ni
    have i2 : a2 ≠ it := fun q => by rw [← q, h2] at ni; cases ni
    have mx : upd m₁ "x" (.int X[k] t) "x" = some (.int X[k] t) := upd_same
    have e1' : upd m₁ "x" (.int X[k] t) "first" = some (.ref a1) := upd_ne (by decide) e1
    have e2' : upd m₁ "x" (.int X[k] t) "second" = some (.ref a2) := upd_ne (by decide) e2
    generalize upd m₁ "x" (.int X[k] t) = m₄ at *
    have tk := List.take_succ_eq_append_getElem hk
    have lt1 := made_len mulA_le (X.take k)
    have lt2 := made_len mulB_le (X.take k)
    have lx : (X.take k).length ≤ 63 := by rw [List.length_take]; omega
    have z1 := b1.length
    have z2 := b2.length
    have y1 := mulA_le X[k]
    have y2 := mulB_le X[k]
    refine wpAny_execs_cons (extendMul (a := X[k].fdiv 5) (x := mulA X[k]) (EvV.name F₄.ns e1') q1 (by omega) (fun s₅ g₅ => EvI.div (EvI.name (frGrow F₄ g₅).ns mx) (by decide) (by decide)) (fun s₅ g₅ => ?_) fun s₅ j5 t5 g₅ q5 => ?_)
    · rw [← mulA_int]
      exact EvI.tup5 (fun s₆ g₆ => EvI.mod (EvI.name (frGrow F₄ (g₅.trans g₆)).ns mx) (by decide)) (fmod5 _).1 (fmod5 _).2
    have F₅ := frExL F₄ g₅ (Ne.symm h1L) n1
    have q2' := g₅.keep _ _ (Ne.symm h12) q2
    refine wpAny_execs_cons (extendMul (a := X[k].fdiv 5) (x := mulB X[k]) (EvV.name F₅.ns e2') q2' (by omega) (fun s₆ g₆ => EvI.div (EvI.name (frGrow F₅ g₆).ns mx) (by decide) (by decide)) (fun s₆ g₆ => ?_) fun s₆ j6 t6 g₆ q6 => ?_)
    · rw [← mulB_int]
      exact EvI.tup5 (fun s₇ g₇ => EvI.mod (EvI.name (frGrow F₅ (g₆.trans g₇)).ns mx) (by decide)) (fmod5 _).1 (fmod5 _).2
    have F₆ := frExL F₅ g₆ (Ne.symm h2L) n2
    refine wpAny_execs_nil (.inl ⟨rfl, fun b hb o q => ?_, m₄, F₆, e1', e2', _, _, j5, j6, g₆.keep _ _ h12 q5, q6, ?_, ?_, g₆.os.trans (g₅.os.trans os), g₆.gens.trans (g₅.gens.trans gens)⟩)
    · rcases List.mem_cons.mp hb with rfl | hb
      · exact g₆.keep _ _ (Ne.symm i2) (g₅.keep _ _ (Ne.symm i1) q)
      · rw [List.mem_singleton.mp hb] at q ⊢
        exact g₆.keep _ _ l2 (g₅.keep _ _ l1 q)
    · rw [tk, made_snoc]; exact b1.append all2_repl
    · rw [tk, made_snoc]; exact b2.append all2_repl
  · rintro it s' m' ni F' ⟨e1, e2, us, ws, j1, j2, q1, q2, b1, b2, os, gens⟩
    rw [List.take_length] at b1 b2
    exact hQ s' m' us ws j1 j2 F' e1 e2 q1 q2 b1 b2 os gens
end

section
variable {prog : Program} {w : World} {A : Around} {s : Shared} {Rep : Value → Int → Prop}

theorem eqAtTwo {a b : Addr} {us vs : List Value} {i j : Nat} {X : List Int} (K : IK prog w Rep) (ha : s.heap.get? a = some (listOf us.toArray i)) (hb : s.heap.get? b = some (listOf vs.toArray j)) (hne : a ≠ b) (hu : A.units < cLine) (h1 : All2 Rep us X) (h2 : All2 Rep vs X) : EqAt A s (.ref a) (.ref b) true := by
  have := eqAtList (R := Rep) (R' := Rep) (eq := fun a b => a == b) ha hb hne hu h1 h2 fun u x v y r1 r2 => K.eqAt r1 r2
  rwa [show eqList (fun a b : Int => a == b) X X = true from (eqList_iff (fun x y => by simp) X X).mpr rfl] at this
theorem twoEq {t1 t2 a0 a1 b0 b1 : Addr} {u0 u1 v0 v1 : List Value} {i0 i1 j0 j1 : Nat} {X0 X1 : List Int} (K : IK prog w Rep) (h1 : s.heap.get? t1 = some (tupOf [.ref a0, .ref a1])) (h2 : s.heap.get? t2 = some (tupOf [.ref b0, .ref b1]))
    (ha0 : s.heap.get? a0 = some (listOf u0.toArray i0)) (ha1 : s.heap.get? a1 = some (listOf u1.toArray i1)) (hb0 : s.heap.get? b0 = some (listOf v0.toArray j0)) (hb1 : s.heap.get? b1 = some (listOf v1.toArray j1)) (n0 : a0 ≠ b0) (n1 : a1 ≠ b1) (hu : A.units + 1 < cLine)
    (r0 : All2 Rep u0 X0) (r1 : All2 Rep u1 X1) (q0 : All2 Rep v0 X0) (q1 : All2 Rep v1 X1) : RcAt A s (.ref t1) (.ref t2) true ∧ RcNeAt A s (.ref t1) (.ref t2) false := by
  have he : ∀ j (h1 : j < [Value.ref a0, .ref a1].toArray.size) (h2 : j < [Value.ref b0, .ref b1].toArray.size), EqAt A.in1 s [Value.ref a0, .ref a1].toArray[j] [Value.ref b0, .ref b1].toArray[j] ((fun _ : Nat => true) j) := fun j h1 h2 => by
    have hu1 : A.in1.units < cLine := hu
    match j, h1 with
    | 0, _ => exact eqAtTwo K ha0 hb0 n0 hu1 r0 q0
    | 1, _ => exact eqAtTwo K ha1 hb1 n1 hu1 r1 q1
  exact ⟨RcAt.tuples (A := A) (s := s) (e := fun _ => true) (l := t1) (b := t2) (items := [.ref a0, .ref a1].toArray) (items2 := [.ref b0, .ref b1].toArray) ⟨_, h1, rfl, _, rfl⟩ ⟨_, h2, rfl, _, rfl⟩ (by omega) he,
    RcNeAt.tuples (A := A) (s := s) (e := fun _ => true) (l := t1) (b := t2) (items := [.ref a0, .ref a1].toArray) (items2 := [.ref b0, .ref b1].toArray) ⟨_, h1, rfl, _, rfl⟩ ⟨_, h2, rfl, _, rfl⟩ (by omega) he⟩

def chrOf (n : Int) : Nat := (n.fmod 5).toNat
theorem chrOf_lt (n : Int) : chrOf n < 5 := by have := fmod5 n; unfold chrOf; omega
theorem made_mem {mu : Int → Nat} {X : List Int} {k : Int} (h : k ∈ made mu X) : k ∈ X.map (·.fdiv 5) := by
  obtain ⟨x, hx, hk⟩ := List.mem_flatMap.mp h
  rw [(List.mem_replicate.mp hk).2]
  exact List.mem_map.mpr ⟨x, hx, rfl⟩
theorem small5 (kk : List Int) (hn : kk.Nodup) (h : ∀ k ∈ kk, ∃ c : Nat, c < 5 ∧ k = (c : Int)) : kk.length < 64 := by
  have := nd_le kk [0, 1, 2, 3, 4] hn fun k hk => by
    obtain ⟨c, hc, rfl⟩ := h k hk
    have : c = 0 ∨ c = 1 ∨ c = 2 ∨ c = 3 ∨ c = 4 := by omega
    rcases this with rfl | rfl | rfl | rfl | rfl <;> simp
  simp at this
  omega
theorem joinL (C : List Nat) : Txt.join ⟨#[]⟩ (C.map fun c => (⟨#[97 + c]⟩ : Str)) = lettersOf C := by
  have h := join_nil_signs (lettersOf C)
  have e : signs (lettersOf C) = C.map fun c => (⟨#[97 + c]⟩ : Str) := by
    simp [signs, lettersOf, List.map_map]
  rw [e] at h
  unfold Txt.join
  rw [StrLaws.glued_eq_join]
  exact h
end

theorem strsRep {vs : List Value} {C : List Nat} (h : All2 RepC vs (numsC C)) : StrsAre vs (C.map fun c => (⟨#[97 + c]⟩ : Str)) := by
  induction C generalizing vs with
  | nil => cases h; exact .nil
  | cons c C ih =>
    cases h with
    | cons r h =>
      obtain ⟨c', t, e, rfl⟩ := r
      have e' : ((c : Nat) : Int) = (c' : Nat) := e
      have : c = c' := by omega
      subst this
      exact .cons _ t (ih h)

section
variable {prog : Program} {w : World} {A : Around} {E : Value → Shared → Prop} {s : Shared} {env : Env} {m : Str → Option Value}

/-- «''.join(x)» of letters -/
theorem evJoin {x : Str} {pl : Sem Bool} {kc : Nat} {p0 p1 p2 p3 : Pos} {D : Addr} {vs : List Value} {C : List Nat} {j : Nat} {Q : Value → Shared → Prop} (hn : s.heap.Ns env.locals m) (hv : m x = some (.ref D)) (hD : s.heap.get? D = some (listOf vs.toArray j)) (ha : All2 RepC vs (numsC C)) (hz : C.length < 1000)
    (hQ : ∀ s' t, Grow s s' → Q (.str (lettersOf C) t) s')
    (hc : eval (.Call (.Attribute (.Constant (.str "") kc p0) "join" p1) [.Name x p3] [] p2) env = (do
      let ov ← eval (.Constant (.str "") kc p0) env
      standAt p1.atName
      let (f, first) ← holding [ov] (getMethod ov "join" pl)
      callWith p2 f first (backTo p2 (starEach [.Name x p3] env)) []) := by rfl)
    (hs : starEach [.Name x p3] env = [(false, eval (.Name x p3) env)] := by rfl)
    (hk : env.scope.kind = .function := by rfl) (hl : env.kindOf x = some .local := by rfl) (hd : (x == ("__debug__" : Str)) = false := by decide) :
    wpAny (model prog w) A (eval (.Call (.Attribute (.Constant (.str "") kc p0) "join" p1) [.Name x p3] [] p2) env) Q E s := by
  refine MethodCall_ (wpAny_Constant_str ?_) hc
  with_reducible refine getMethod_builtin (v := .str "" s.toks) (typeIs_str _ _ _) PySem.F.plainAttrs_str PySem.F.slot_str_join PySem.F.type_str_join (fun x q => by cases q) ?_
  have g0 : Grow s { s with toks := s.toks + 1 } := Grow.toks _ _
  refine callWith_method1 (spliced_more (ldE (s := { s with toks := s.toks + 1 }) hn hv (spliced_none ?_) hk hl hd) hs) hs rfl
  have hL : ({ s with toks := s.toks + 1 } : Shared).heap.IsList D vs.toArray := ⟨_, hD, rfl, j, rfl⟩
  refine join_list (ys := C.map fun c => (⟨#[97 + c]⟩ : Str)) hL (strsRep ha) ?_ fun t' k => ?_
  · have e : ((C.map fun c => (⟨#[97 + c]⟩ : Str)).map (·.length)).sum = C.length := by
      clear hz ha hQ
      induction C with
      | nil => rfl
      | cons c C ih => simp only [List.map_cons, List.sum_cons, ih, List.length_cons]; show 1 + C.length = _; omega
    rw [e, List.length_map]
    show C.length + C.length * 0 ≤ _
    omega
  · have e : Txt.join (Str.ofString "") (C.map fun c => (⟨#[97 + c]⟩ : Str)) = lettersOf C := joinL C
    rw [e]
    exact hQ _ t' ⟨fun _ _ e => e, rfl, rfl⟩
end

theorem Kp.exLc {s s' : Shared} {L : Addr} (k : Kp [L] s.heap s'.heap) (os : s'.os = s.os) (gens : s'.gens = s.gens) : ExL L s s' :=
  ⟨fun b o n e => k.keep b o e fun q => n (List.mem_singleton.mp q), os, gens⟩

section
variable {prog : Program} {w : World} {A : Around} {s : Shared} {base : Heap} {L fa l : Addr} {cd : Value} {m : Str → Option Value} {vs : List Value} {X : List Int}

set_option maxHeartbeats 8000000 in
theorem law02 {f1 f3 f4 f5 f6 : Addr} {c1 c3 c4 c5 c6 : Value} {Q : Flow → Shared → Prop} (F : Fr base L s.heap m) (hh : A.handled = none) (hr : A.depth + 520 < recursionLimit) (hu : A.units < 6000)
    (hst : A.frames = some [envOf "law" (scopeOf (stmtAt pg2 7)) L fa cd])
    (ms : m "script" = some (.ref l)) (hl : base.IsList l vs.toArray) (ha : All2 RepI vs X) (hz : X.length ≤ 63)
    (G1 : Gn base "sorted_list_difference" (.ref f1)) (fn1 : Fn base f1 "sorted_list_difference" (stmtAt PySem.Challenge.pw_dn0234_02 1) c1)
    (EV : Env2 base f3 f4 f5 f6 c3 c4 c5 c6) (hI : Bn base "IndexError" (.type "IndexError")) (hCh : Bn base "chr" (.builtin "chr"))
    (hQ : ∀ s' m', Fr base L s'.heap m' → s'.os = s.os → s'.gens = s.gens → Q (.ret (.bool true)) s') :
    wpAny (model prog w) A (execs (bodyOf (stmtAt pg2 7)) (envOf "law" (scopeOf (stmtAt pg2 7)) L fa cd)) Q No s := by
  have lF : ∀ {s : Shared} {m : Str → Option Value}, Fr base L s.heap m → s.heap.get? L ≠ none := fun F q => by
    obtain ⟨o, _, _, e, _⟩ := F.ns
    rw [e] at q; cases q
  have nb : ∀ {s : Shared} {m : Str → Option Value} {a : Addr}, Fr base L s.heap m → s.heap.get? a = none → base.get? a = none := fun {s m a} F q => by
    cases q' : base.get? a with
    | none => rfl
    | some o => rw [F.keep _ _ q'] at q; cases q
  have neL : ∀ {s : Shared} {m : Str → Option Value} {a : Addr}, Fr base L s.heap m → s.heap.get? a = none → a ≠ L := fun F q r => lF F (r ▸ q)
  have ul : A.units + 1 < cLine := Nat.lt_of_lt_of_le (show A.units + 1 < 9000 by omega) (by decide)
  -- first = [] ; second = []
  refine wpAny_execs_cons (wpAny_Assign_Name (List_ (spliced_none (newList_ fun s₁ a1 g₁ h1 n1 => st_ (frGrow F g₁) fun s₂ F₂ x₂ => ?_))))
  have a1L := neL F n1
  have h1₂ := x₂.keep _ _ a1L h1
  refine wpAny_execs_cons (wpAny_Assign_Name (List_ (spliced_none (newList_ fun s₃ a2 g₃ h2 n2 => st_ (frGrow F₂ g₃) fun s₄ F₄ x₄ => ?_))))
  have a2L := neL F₂ n2
  have a12 : a1 ≠ a2 := fun q => by rw [q] at h1₂; rw [h1₂] at n2; cases n2
  have h1₄ := x₄.keep _ _ a1L (g₃.keep _ _ h1₂)
  have h2₄ := x₄.keep _ _ a2L h2
  have ms4 : upd (upd m "first" (.ref a1)) "second" (.ref a2) "script" = some (.ref l) := upd_ne (by decide) (upd_ne (by decide) ms)
  have m1 : upd (upd m "first" (.ref a1)) "second" (.ref a2) "first" = some (.ref a1) := upd_ne (by decide) upd_same
  have m2 : upd (upd m "first" (.ref a1)) "second" (.ref a2) "second" = some (.ref a2) := upd_same
  generalize upd (upd m "first" (.ref a1)) "second" (.ref a2) = m4 at *
  have nb1 := nb F n1
  have nb2 := nb F₂ n2
  -- the loop over the script
  refine wpAny_execs_cons (build2 F₄ hh ms4 m1 m2 hl ha hz h1₄ h2₄ nb1 nb2 a12 a1L a2L fun s₅ m5 us ws j1 j2 F₅ e1 e2 hu₅ hw₅ aU aW os5 gens5 => ?_)
  have os5' : s₅.os = s.os := os5.trans (x₄.os.trans (g₃.os.trans (x₂.os.trans g₁.os)))
  have gens5' : s₅.gens = s.gens := gens5.trans (x₄.gens.trans (g₃.gens.trans (x₂.gens.trans g₁.gens)))
  have lA := made_len mulA_le X
  have lB := made_len mulB_le X
  have zu := aU.length
  have zw := aW.length
  have disI : ∀ kk : List Int, kk.Nodup → (∀ k, k ∈ kk → k ∈ made mulA X ∨ k ∈ made mulB X) → kk.length < 64 := fun kk hn hk => by
    have := nd_le kk (X.map (·.fdiv 5)) hn fun k hk' => by
      rcases hk k hk' with h | h
      · exact made_mem h
      · exact made_mem h
    rw [List.length_map] at this; omega
  have disC : ∀ kk : List Int, kk.Nodup → (∀ k, k ∈ kk → k ∈ numsC ((made mulA X).map chrOf) ∨ k ∈ numsC ((made mulB X).map chrOf)) → kk.length < 64 := fun kk hn hk => small5 kk hn fun k hk' => by
    rcases hk k hk' with h | h
    · obtain ⟨c, hc, rfl⟩ := List.mem_map.mp h
      obtain ⟨n, _, rfl⟩ := List.mem_map.mp hc
      exact ⟨_, chrOf_lt n, rfl⟩
    · obtain ⟨c, hc, rfl⟩ := List.mem_map.mp h
      obtain ⟨n, _, rfl⟩ := List.mem_map.mp hc
      exact ⟨_, chrOf_lt n, rfl⟩
  generalize made mulA X = P1 at *
  generalize made mulB X = P2 at *
  -- expected = first[:] ; actual = second[:]
  refine wpAny_execs_cons (wpAny_Assign_Name (sliceAll (EvV.name F₅.ns e1) hu₅ (by omega) fun s₆ b1 g₆ n1' h1' => st_ (frGrow F₅ g₆) fun s₇ F₇ x₇ => ?_))
  have b1L := neL F₅ n1'
  have x57 : ExL L s₅ s₇ := g₆.exL.trans x₇
  have hw₇ := x57.keep _ _ a2L hw₅
  refine wpAny_execs_cons (wpAny_Assign_Name (sliceAll (EvV.name F₇.ns (upd_ne (by decide) e2)) hw₇ (by omega) fun s₈ b2 g₈ n2' h2' => st_ (frGrow F₇ g₈) fun s₉ F₉ x₉ => ?_))
  have b2L := neL F₇ n2'
  have x79 : ExL L s₇ s₉ := g₈.exL.trans x₉
  have x59 := x57.trans x79
  have hb1 := x79.keep _ _ b1L (x₇.keep _ _ b1L h1')
  have hb2 := x₉.keep _ _ b2L h2'
  have hu9 := x59.keep _ _ a1L hu₅
  have hw9 := x59.keep _ _ a2L hw₅
  have p1 : upd (upd m5 "expected" (.ref b1)) "actual" (.ref b2) "first" = some (.ref a1) := upd_ne (by decide) (upd_ne (by decide) e1)
  have p2 : upd (upd m5 "expected" (.ref b1)) "actual" (.ref b2) "second" = some (.ref a2) := upd_ne (by decide) (upd_ne (by decide) e2)
  have p3 : upd (upd m5 "expected" (.ref b1)) "actual" (.ref b2) "expected" = some (.ref b1) := upd_ne (by decide) upd_same
  have p4 : upd (upd m5 "expected" (.ref b1)) "actual" (.ref b2) "actual" = some (.ref b2) := upd_same
  generalize upd (upd m5 "expected" (.ref b1)) "actual" (.ref b2) = m9 at *
  have os9 : s₉.os = s.os := x59.os.trans os5'
  have gens9 : s₉.gens = s.gens := x59.gens.trans gens5'
  -- sorted_list_difference(expected, actual) != _law_left(first, second, False, False)
  have szb : ∀ {s : Shared} {m : Str → Option Value}, Fr base L s.heap m → base.objs.size ≤ s.heap.objs.size := fun F => Nat.le_trans F.above (Nat.le_of_lt F.ns.lt)
  have Bl : ∀ {s : Shared} {m : Str → Option Value}, Fr base L s.heap m → Below A base [envOf "law" (scopeOf (stmtAt pg2 7)) L fa cd] s.heap := fun {s m} F => ⟨hst, F.keep, mkFrames (outer := []) (h₀ := s.heap) trivial (Kp.refl [] _) F⟩
  have Pl := plain2 (P1.length + P2.length + 1) P1 P2 (by omega)
  have hA1 : A.depth < recursionLimit := by omega
  refine wpAny_execs_cons (wpAny_If (wpAny_isTrue_Compare1 (callName F₉ G1 fn1 (spliced_more (ld F₉ p3 (spliced_more (ld F₉ p4 (spliced_none ⟨F₉.keep,
    sld_call (Rep := RepI) (X := P1) (Y := P2) (outer := [envOf "law" (scopeOf (stmtAt pg2 7)) L fa cd])
      (sqList hb1 (fun q => b1L (List.mem_singleton.mp q)) aU (by omega)) (sqList hb2 (fun q => b2L (List.mem_singleton.mp q)) aW (by omega)) eqI ltI gtI (by omega) hA1 hh (Bl F₉) (szb F₉) EV.lim hI fn1 ?_ ?_⟩))))))))
  case refine_2 => intro hn; rw [show sld (fun x y : Int => some (decide (x < y))) (fun x y => decide (x > y)) (fun x y => x == y) P1 P2 = _ from Pl] at hn; cases hn
  intro sa ta aM aN mm mu i1 i2 kpa osa gensa hta nta hMa hNa nM nN MN fi
  obtain ⟨rr, er, am, an⟩ := fi
  rw [show sld (fun x y : Int => some (decide (x < y))) (fun x y => decide (x > y)) (fun x y => x == y) P1 P2 = _ from Pl] at er
  cases er
  have xa : ExL L s₉ sa := Kp.exLc kpa osa gensa
  have Fa : Fr base L sa.heap m9 := frKp (S := []) F₉ kpa (fun _ hb => by cases hb)
  have hua := xa.keep _ _ a1L hu9
  have hwa := xa.keep _ _ a2L hw9
  have EVa := EV.keep Fa.keep
  refine callName Fa EV.G6 EV.fn6 (spliced_more (ld Fa p1 (spliced_more (ld Fa p2 (spliced_more (wpAny_Constant_bool (spliced_more (wpAny_Constant_bool (spliced_none ⟨Fa.keep, ?_⟩)))))))))
  refine left_call ikInt (P1.length + P2.length + 1) (P1.length + P2.length) (by omega) (by omega) A sa _ a1 a2 us ws P1 P2 _ _ false false EVa (by omega) hh (by omega) hua aU hwa aW (Nat.le_refl _) disI ?_
  intro sb tb d0 d1 v0 v1 k0 k1 gb ntb htb nd0 nd1 nd hd0 hd1 ad0 ad1
  have hMd : aM ≠ d0 := fun q => by rw [q] at hMa; rw [hMa] at nd0; cases nd0
  have hNd : aN ≠ d1 := fun q => by rw [q] at hNa; rw [hNa] at nd1; cases nd1
  have two := twoEq (prog := prog) (w := w) (A := A) ikInt (gb.keep _ _ hta) htb (gb.keep _ _ hMa) (gb.keep _ _ hNa) hd0 hd1 hMd hNd ul am an ad0 ad1
  refine cmp_ofNotEq (two.2 _ _ _ _ (wpAny_truthy_bool ?_))
  rw [if_neg (by decide)]
  refine wpAny_execs_nil ?_
  have Fb := frGrow Fa gb
  have x9b : ExL L s₉ sb := xa.trans gb.exL
  have hub := gb.keep _ _ hua
  have hwb := gb.keep _ _ hwa
  have hb1b := x9b.keep _ _ b1L hb1
  have hb2b := x9b.keep _ _ b2L hb2
  -- if expected != first or actual != second
  refine wpAny_execs_cons (wpAny_If (isTrue_or (wpAny_isTrue_Compare1 (ld Fb p3 (ld Fb p1 (cmp_ofNotEq (neSame hb1b hub (by omega) _ _ _ _ (wpAny_truthy_bool ?_))))))))
  rw [if_neg (by decide)]
  refine isTrue_or (wpAny_isTrue_Compare1 (ld Fb p4 (ld Fb p2 (cmp_ofNotEq (neSame hb2b hwb (by omega) _ _ _ _ (wpAny_truthy_bool ?_))))))
  rw [if_neg (by decide)]
  refine isTrue_or_nil ?_
  rw [if_neg (by decide)]
  refine wpAny_execs_nil ?_
  -- one = [chr(97 + n % 5) for n in first]
  have chrE : ∀ {s₀ s₁ : Shared} {mx my : Str → Option Value} {env : Env} {v : Value} {n : Int} {q1 q2 q3 q4 q5 q6 q7 : Pos} {ka kb : Nat}, Fr base L s₀.heap mx → Grow s₀ s₁ → RepI v n → s₁.heap.Ns env.locals my → my "n" = some v → env.scope.kind = .function → env.kindOf "n" = some .local → env.globals = mainGlobals → env.builtins = builtinsNs → env.kindOf "chr" = some .globalImplicit →
      eval (.Call (.Name "chr" q1) [.BinOp (.Constant (.int 97) ka q2) .Add (.BinOp (.Name "n" q3) .Mod (.Constant (.int 5) kb q4) q5) q6] [] q7) env = (do callWith q7 (← eval (.Name "chr" q1) env) [] (backTo q7 (starEach [.BinOp (.Constant (.int 97) ka q2) .Add (.BinOp (.Name "n" q3) .Mod (.Constant (.int 5) kb q4) q5) q6] env)) (backToKw q7 (keywordEach [] env))) →
      starEach [.BinOp (.Constant (.int 97) ka q2) .Add (.BinOp (.Name "n" q3) .Mod (.Constant (.int 5) kb q4) q5) q6] env = (false, eval (.BinOp (.Constant (.int 97) ka q2) .Add (.BinOp (.Name "n" q3) .Mod (.Constant (.int 5) kb q4) q5) q6) env) :: starEach [] env →
      wpAny (model prog w) A (eval (.Call (.Name "chr" q1) [.BinOp (.Constant (.int 97) ka q2) .Add (.BinOp (.Name "n" q3) .Mod (.Constant (.int 5) kb q4) q5) q6] [] q7) env) (fun u s₂ => Grow s₁ s₂ ∧ RepC u ((chrOf n : Nat) : Int) ∧ ∀ c ∈ rf u, s₂.heap.get? c ≠ none ∧ (s₁.heap.get? c = none ∨ s₀.heap.get? c ≠ none)) No s₁ := by
    rintro s₀ s₁ mx my env v n q1 q2 q3 q4 q5 q6 q7 ka kb F0 g ⟨t, rfl⟩ hn hv hk hlo hgl hbl hch hcc hss
    have f5 := fmod5 n
    refine Call_ (nameBE (base := base) (fun b o e => g.keep _ _ (F0.keep b o e)) hCh ?_ hgl hbl hk hch) hcc
    refine callWith_builtin1 (spliced_more ((EvI.add EvI.const fun s' g' => EvI.mod (EvI.name (hn.keeps g'.keep) hv hk hlo) (by decide)).use fun s₂ t2 g₂ => spliced_none ?_) hss) hss rfl
    refine chr_of_range (by omega) (by omega) ⟨g₂.trans (Grow.toks _ _), ⟨chrOf n, s₂.toks, rfl, ?_⟩, fun c hc => by cases hc⟩
    have : (97 + n.fmod 5).toNat = 97 + chrOf n := by unfold chrOf; omega
    rw [this]
  have rmono : ∀ (u : Value) (b : Int) (h h' : Heap), (fun u b (_ : Heap) => RepC u b) u b h → (∀ c ∈ rf u, ∀ o, h.get? c = some o → h'.get? c = some o) → (fun u b (_ : Heap) => RepC u b) u b h' := fun _ _ _ _ r _ => r
  have rnod : ∀ (u : Value) (b : Int) (h : Heap), (fun u b (_ : Heap) => RepC u b) u b h → ∀ c ∈ rf u, ∀ o es n, h.get? c = some o → o.data ≠ .dict es n := by
    rintro u b h ⟨c, t, rfl, rfl⟩ c' hc'
    cases hc'
  refine wpAny_execs_cons (assignComp1 (RA := RepI) (RO := fun u b _ => RepC u b) (X := P1) (p := fun _ => true) (f := fun n => ((chrOf n : Nat) : Int)) (cl := []) Fb hh rmono rnod (ld Fb p1 (srcList (.refl _) hub aU)) (by omega) (fun v a' s₁ Lc m' g rv hn hv => conds_nil ⟨.refl _, rfl⟩) (fun v a' s₁ Lc m' g rv _ hn hv => chrE Fb g rv hn hv rfl rfl rfl rfl rfl rfl rfl) fun sc O1 uo jo Fc xc nO1 hO1 aO1 zO1 _ => ?_)
  have idf : ∀ P : List Int, (P.filter fun _ => true).map (fun n => ((chrOf n : Nat) : Int)) = numsC (P.map chrOf) := fun P => by rw [List.filter_eq_self.mpr fun _ _ => rfl]; unfold numsC; rw [List.map_map]; rfl
  rw [idf] at aO1
  have O1L := neL Fb nO1
  have hwc := xc.keep _ _ a2L hwb
  refine wpAny_execs_cons (assignComp1 (RA := RepI) (RO := fun u b _ => RepC u b) (X := P2) (p := fun _ => true) (f := fun n => ((chrOf n : Nat) : Int)) (cl := []) Fc hh rmono rnod (ld Fc (upd_ne (by decide) p2) (srcList (.refl _) hwc aW)) (by omega) (fun v a' s₁ Lc m' g rv hn hv => conds_nil ⟨.refl _, rfl⟩) (fun v a' s₁ Lc m' g rv _ hn hv => chrE Fc g rv hn hv rfl rfl rfl rfl rfl rfl rfl) fun sd O2 ut jt Fd xd nO2 hO2 aO2 zO2 _ => ?_)
  rw [idf] at aO2
  have O2L := neL Fc nO2
  have hO1d := xd.keep _ _ O1L hO1
  have q1 : upd (upd m9 "one" (.ref O1)) "two" (.ref O2) "one" = some (.ref O1) := upd_ne (by decide) upd_same
  have q2 : upd (upd m9 "one" (.ref O1)) "two" (.ref O2) "two" = some (.ref O2) := upd_same
  generalize upd (upd m9 "one" (.ref O1)) "two" (.ref O2) = md at *
  have osd : sd.os = s.os := xd.os.trans (xc.os.trans (x9b.os.trans os9))
  have gensd : sd.gens = s.gens := xd.gens.trans (xc.gens.trans (x9b.gens.trans gens9))
  have c1lt : ∀ c ∈ P1.map chrOf, c < 31 := fun c hc => by
    obtain ⟨n, _, rfl⟩ := List.mem_map.mp hc
    have := chrOf_lt n; omega
  have c2lt : ∀ c ∈ P2.map chrOf, c < 31 := fun c hc => by
    obtain ⟨n, _, rfl⟩ := List.mem_map.mp hc
    have := chrOf_lt n; omega
  have l1 : (P1.map chrOf).length = P1.length := by simp
  have l2 : (P2.map chrOf).length = P2.length := by simp
  generalize P1.map chrOf = C1 at *
  generalize P2.map chrOf = C2 at *
  have ln1 : (numsC C1).length = C1.length := by simp
  have ln2 : (numsC C2).length = C2.length := by simp
  have PlC := plain2 (C1.length + C2.length + 1) (numsC C1) (numsC C2) (by rw [ln1, ln2]; omega)
  -- told = sorted_list_difference(''.join(one), ''.join(two))
  refine wpAny_execs_cons (wpAny_Assign_Name (callName Fd G1 fn1 (spliced_more (evJoin Fd.ns q1 hO1d aO1 (by omega) fun se te ge => spliced_more (evJoin (frGrow Fd ge).ns q2 (ge.keep _ _ hO2) aO2 (by omega) fun sf tf gf => spliced_none ⟨(frGrow Fd (ge.trans gf)).keep, ?_⟩)))))
  have Ff := frGrow Fd (ge.trans gf)
  refine sld_call (Rep := RepC) (X := numsC C1) (Y := numsC C2) (outer := [envOf "law" (scopeOf (stmtAt pg2 7)) L fa cd]) (sqStr c1lt (by omega)) (sqStr c2lt (by omega)) eqCk ltCk gtCk (by omega) hA1 hh (Bl Ff) (szb Ff) EV.lim hI fn1 ?_ ?_
  case refine_2 => intro hn; rw [show sld (fun x y : Int => some (decide (x < y))) (fun x y => decide (x > y)) (fun x y => x == y) (numsC C1) (numsC C2) = _ from PlC] at hn; cases hn
  intro sg tg aM' aN' mm' mu' i1' i2' kpg osg gensg htg ntg hMg hNg nM' nN' MN' fi'
  obtain ⟨rr, er, am', an'⟩ := fi'
  rw [show sld (fun x y : Int => some (decide (x < y))) (fun x y => decide (x > y)) (fun x y => x == y) (numsC C1) (numsC C2) = _ from PlC] at er
  cases er
  have xg : ExL L sf sg := Kp.exLc kpg osg gensg
  have Fg : Fr base L sg.heap md := frKp (S := []) Ff kpg (fun _ hb => by cases hb)
  refine st_ Fg fun sh Fh xh => ?_
  have tgL := neL Ff ntg
  have ML := neL Ff nM'
  have NL := neL Ff nN'
  have hth := xh.keep _ _ tgL htg
  have hMh := xh.keep _ _ ML hMg
  have hNh := xh.keep _ _ NL hNg
  have xdh : ExL L sd sh := (ge.trans gf).exL.trans (xg.trans xh)
  have hO1h := xdh.keep _ _ O1L hO1d
  have hO2h := xdh.keep _ _ O2L hO2
  -- return told == _law_left(one, two, False, False)
  refine wpAny_execs_cons (wpAny_Return_some (wpAny_Compare1 (ld Fh upd_same (callName Fh EV.G6 EV.fn6 (spliced_more (ld Fh (upd_ne (by decide) q1) (spliced_more (ld Fh (upd_ne (by decide) q2) (spliced_more (wpAny_Constant_bool (spliced_more (wpAny_Constant_bool (spliced_none ⟨Fh.keep, ?_⟩))))))))))))) 
  refine left_call ikChr (C1.length + C2.length + 1) (C1.length + C2.length) (by omega) (by omega) A sh _ O1 O2 uo ut (numsC C1) (numsC C2) _ _ false false (EV.keep Fh.keep) (by omega) hh (by omega) hO1h aO1 hO2h aO2 (by rw [ln1, ln2]; exact Nat.le_refl _) disC ?_
  intro si ti d0' d1' v0' v1' k0' k1' gi nti hti nd0' nd1' nd' hd0' hd1' ad0' ad1'
  have hMd' : aM' ≠ d0' := fun q => by rw [q] at hMh; rw [hMh] at nd0'; cases nd0'
  have hNd' : aN' ≠ d1' := fun q => by rw [q] at hNh; rw [hNh] at nd1'; cases nd1'
  have two' := twoEq (prog := prog) (w := w) (A := A) ikChr (gi.keep _ _ hth) hti (gi.keep _ _ hMh) (gi.keep _ _ hNh) hd0' hd1' hMd' hNd' ul am' an' ad0' ad1'
  refine cmp_ofEq (two'.1 _ _ _ _ ?_)
  exact hQ si _ (frGrow Fh gi) (gi.os.trans (xdh.os.trans osd)) (gi.gens.trans (xdh.gens.trans gensd))
end

open_top hd for PySem.Challenge.rw_dn0234_02

theorem gn_of {K : Frag} {h : Heap} {mg : Str → Option Value} {n : Str} {v : Value} (X : K.In h) (G : h.Ns mainGlobals mg) (e : nsIn K mainGlobals n = some (some v)) : Gn h n v := ⟨mg, G, mg_of X G e⟩
theorem bn_of {K : Frag} {h : Heap} {mg mb : Str → Option Value} {p : Program} {loose : List Str} {n : Str} {v : Value} (X : K.In h) (T : TopRead p loose mg mb h) (e : nsIn K mainGlobals n = some none) (hv : bootBuiltins n = some v) (hn : n ≠ "__name__" := by decide) : Bn h n v :=
  ⟨mg, mb, T.g, mg_none_of X T.g e, T.b, by rw [T.builtins n hn]; exact hv⟩

theorem top02 : PySem.Challenge.rw_dn0234_02.Holds := hd (by
  k_go0
  rename_i hg KX X V GL T B TE TW w9 w8 M w7 w6 hcd w5 hs hlay0 hLa hr1 hl2 w4 w3 w2 w1 w0 hL ra ww r0 hI hr hc hct K0 hD h₁ F N0
  have TR := topRead_of T
  refine wpAny_mono (law02 (fa := _) (Q := fun f s' => f = .ret (.bool true) ∧ ∃ m', Fr _ _ s'.heap m' ∧ s'.os = _ ∧ s'.gens = _) F rfl (show callerA.depth + 1 + 520 < recursionLimit by decide) (show callerA.units + 3 < 6000 by decide) rfl rfl hL (intsAll hI) (by omega)
    (gn_of KX TR.g (by with_unfolding_all rfl)) (fn_of_K KX (by with_unfolding_all rfl) (by with_unfolding_all rfl))
    ⟨gn_of KX TR.g (by with_unfolding_all rfl), fn_of_K KX (by with_unfolding_all rfl) (by with_unfolding_all rfl),
     gn_of KX TR.g (by with_unfolding_all rfl), fn_of_K KX (by with_unfolding_all rfl) (by with_unfolding_all rfl),
     gn_of KX TR.g (by with_unfolding_all rfl), fn_of_K KX (by with_unfolding_all rfl) (by with_unfolding_all rfl),
     gn_of KX TR.g (by with_unfolding_all rfl), fn_of_K KX (by with_unfolding_all rfl) (by with_unfolding_all rfl),
     bn_of KX TR (by with_unfolding_all rfl) (by with_unfolding_all rfl), bn_of KX TR (by with_unfolding_all rfl) (by with_unfolding_all rfl), bn_of KX TR (by with_unfolding_all rfl) (by with_unfolding_all rfl), bn_of KX TR (by with_unfolding_all rfl) (by with_unfolding_all rfl), TR.nolimit⟩
    (bn_of KX TR (by with_unfolding_all rfl) (by with_unfolding_all rfl)) (bn_of KX TR (by with_unfolding_all rfl) (by with_unfolding_all rfl))
    fun s' m' F' os gens => ⟨rfl, m', F', os, gens⟩) (fun f s' q => ?_) fun _ _ q => q.elim
  obtain ⟨rfl, m', F', os, gens⟩ := q
  exact goodW_bool F' (gens.trans hg) (fun _ => rfl) (by with_unfolding_all rfl) os)

end Mine

theorem PySem.Challenge.cw_dn0234_02_holds : PySem.Challenge.rw_dn0234_02.Holds :=
  Mine.top02
