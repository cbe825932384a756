import PyProof.Rows.All
import Wide.All
import OpenK.AllK
import KE.KxDecode
import Wide.FinOn
import Lean
import PySem.Challenge.RW_dw0053_01
set_option Elab.async false
set_option compiler.extract_closed false
section
open PySem PySem.W PySem.Calls PyProof.Rows
local macro_rules | `(tactic| wtm_at "u") => `(tactic| (first | (simp only [units_deeper]; omega) | (simp only [Around.mark_units, units_deeper]; omega)))
local macro_rules | `(tactic| wtm_at "z") => `(tactic| (first | omega | (simp only [List.length_drop, List.length_append, List.length_cons, List.length_nil]; omega)))
local macro_rules | `(tactic| wtm_at "d") => `(tactic| (try dsimp only))
local macro_rules | `(tactic| wtm_at "s") => `(tactic| (try k_sweep))
local macro_rules | `(tactic| wtm_at "a") => `(tactic| with_reducible assumption)
section
open PySem PySem.W PyProof.Rows
namespace Mine
theorem left_of_boot {p q : Program} {loose : List Str} {Xt : Shared → Bool} {α : Type} {Yf : Shared → α} {Ya : World → α} {N : Nat} {g0 : Bool}
    (e : opening p = plainProg p.main.scope.names) (hN : Nat.ble 600 N = true) (f : ∀ s, fenceModules? p s = some s)
    (h : ∀ (w : World) (os : OsState), (topFrom treeTable p w N ⟨boot_heap w.params, Array.mk [], boot_drawn, boot_toks, os⟩).map (fun s => (openSeen q loose (importedModules p.main.body) Xt g0 s, Yf s)) = some (openGood q loose, Ya w)) :
    LeftO p q loose Xt Yf Ya N g0 := fun w => by
  obtain ⟨⟨hp, gs, d, k, os⟩, e1, e'⟩ := Option.map_eq_some_iff.mp (boot_open (N := N) e hN f w)
  obtain ⟨rfl, rfl, rfl, rfl⟩ : hp = boot_heap w.params ∧ gs = Array.mk [] ∧ d = boot_drawn ∧ k = boot_toks := by simpa using e'
  unfold openEnds
  rw [e1]
  exact h w os
end Mine
local macro_rules | `(tactic| refine $t) => `(tactic| (refine' $t; next => ((with_reducible show LeftO _ _ _ _ _ _ _ _); exact Mine.left_of_boot (by kernel_rfl) (by kernel_rfl) (fun s => by kernel_rfl) (fun w os => by unfold topFrom; rw [PySem.W.Fast.te14082659384304107361, PySem.W.Fast.te14364793385576792824, PySem.W.Fast.te4187177175401517315]; kernel_rfl))))
set_option maxRecDepth 100000 in
set_option maxHeartbeats 8000000 in
open_top Mine.hd for PySem.Challenge.rw_dw0053_01
end
section
open PySem PySem.W PySem.Calls PyProof.Rows
set_option maxRecDepth 100000
namespace Mine

abbrev PR : Program := PySem.Challenge.rw_dw0053_01.row.prog
abbrev TopM (mean : ExcName → Option Value) (mg mb : Str → Option Value) (h : Heap) : Prop :=
  Top Mine.hd.view_39 (looseW Mine.hd.view_39 [Str.ofString "PatternError", Str.ofString "error_constants", Str.ofString "Tokenizer"]) mean mg mb h

theorem enterM {prog : Program} {w : World} {A : Around} {R : Result → Shared → Prop} {s : Shared} {K : Frag}
    {name qual : Str} {params : Arguments} {body : List Stmt} {scope : Scope} {dV kV doc pm cdv ct oc : Value} {an od : Option Addr} {osl : Array (Option Value)} {f : Addr} {args : Args} {binds : List (Str × Value)}
    (hid : List Addr)
    (X : K.In s.heap) (hlim : s.heap.NoLimit)
    (ho : K.lookup f = some ⟨oc, od, .func (fnOf name qual params body scope dV kV doc pm an cdv ct), osl⟩) (hcd : codeIn K cdv qual = true) (hroom : A.depth < recursionLimit)
    (hbind : BindsTo s (fnOf name qual params body scope dV kV doc pm an cdv ct) args binds) (hloc : ∀ y ∈ binds, scope.names.lookup y.1 = some .local)
    (h : ∀ L' h₁, L' = s.heap.objs.size → Fr (hideAll s.heap hid) L' h₁ (fun y => binds.reverse.lookup y) → s.heap.StaysIn h₁ → ∀ (Q : Flow → Shared → Prop) (E : Value → Shared → Prop),
      (∀ fl s', R (.ok (.ret (match fl with | .ret v => v | _ => .none))) s' → Q fl s') →
      (∀ e s', wpAny (model prog w) (A.deeper (envOf qual scope L' f cdv)) (leaving (envOf qual scope L' f cdv) e) (fun _ s'' => R (.error e) s'') (fun e' s'' => R (.error e') s'') s' → E e s') →
      wpAny (model prog w) (A.deeper (envOf qual scope L' f cdv)) (execs body (envOf qual scope L' f cdv)) Q E { s with heap := h₁, toks := s.toks + binds.length })
    (hco : scope.isCoroutine = false := by rfl) (hgen : scope.isGenerator = false := by rfl) (hk : scope.kind = .function := by rfl)
    (hcell : ∀ x ∈ scope.names, x.2 ≠ .cell := by decide) : codeAny (model prog w) A (.call (.ref f) args) R s := by
  refine codeAny_call_def (fd := fnOf name qual params body scope dV kV doc pm an cdv ct) (body := body) (binds := binds) hroom (X _ _ ho) rfl hlim (codeRec_of X hcd) rfl hbind hcell hloc (fun h₁ hns hk₁ => ?_) hco hgen hk
  exact h _ h₁ rfl ⟨hns, fun b o e => hk₁ b o (of_hideAll _ e), Nat.le_of_eq (hideAll_size _ _)⟩ hk₁ _ _ (fun _ _ q => q) (fun _ _ q => q)

end Mine
end
section
open PySem PySem.W PySem.Calls PyProof.Rows
set_option maxRecDepth 100000
namespace Mine

abbrev fsOf (l : List Env) : List Addr := l.filterMap (·.frame)
abbrev excO (c : Value) (d : Option Addr) (a0 tb ctx c3 c4 : Value) : Obj := { cls := c, dict := d, data := .fields #[a0, tb, ctx, c3, c4, .none] }
def Tb (h : Heap) (tb : Addr) (fl : Value) : Prop := ∃ o ts, h.get? tb = some o ∧ o.data = .fields ts ∧ ts[3]? = some fl

theorem Tb.lt {h : Heap} {tb : Addr} {fl : Value} (x : Tb h tb fl) : tb < h.objs.size := let ⟨_, _, e, _⟩ := x; Heap.lt_size e
theorem Tb.set {h : Heap} {tb : Addr} {fl : Value} (x : Tb h tb fl) (v : Value) : Tb (h.update tb (Obj.mapFields (·.setIfInBounds 3 v))) tb v := by
  obtain ⟨o, ts, e, d, q⟩ := x
  have hz : 3 < ts.size := (Array.getElem?_eq_some_iff.mp q).1
  refine ⟨_, ts.setIfInBounds 3 v, Heap.get?_update_self _ e (Obj.isFreed_of_fields (Obj.data_mapFields d _)), Obj.data_mapFields d _, ?_⟩
  simp [hz]

theorem excO_set (c : Value) (d : Option Addr) (a0 tb ctx c3 c4 v : Value) : (excO c d a0 tb ctx c3 c4).mapFields (·.setIfInBounds 1 v) = excO c d a0 v ctx c3 c4 := rfl

/-- what a note of a frame does -/
structure Noted (fs : List Addr) (h h' : Heap) (e : Addr) (tbv : Value) : Prop where
  size : h.objs.size ≤ h'.objs.size
  keep : ∀ b o, h.get? b = some o → b ≠ e → tbv ≠ .ref b → ∃ sl, h'.get? b = some { o with slots := sl } ∧ (b ∉ fs → sl = o.slots)

section
variable {M : Model} {A : Around} {E : Value → Shared → Prop} {s : Shared}

theorem setFlightM {e tb : Addr} {c : Value} {d : Option Addr} {a0 ctx c3 c4 fl : Value} {Q : Unit → Shared → Prop}
    (he : s.heap.get? e = some (excO c d a0 (.ref tb) ctx c3 c4)) (htb : Tb s.heap tb fl) (f : Option Addr)
    (h : Q () { s with heap := s.heap.update tb (Obj.mapFields (·.setIfInBounds 3 (f.elim .none fun f => rawInt f))) }) : wpAny M A (setFlight (.ref e) f) Q E s := by
  obtain ⟨o, ts, ht, hd, q⟩ := htb
  have hz : 3 < ts.size := (Array.getElem?_eq_some_iff.mp q).1
  unfold setFlight
  refine wpAny_bind (wpAny_field (x := .ref tb) he rfl rfl ?_)
  rw [if_pos (show (Value.ref tb != Value.none) = true from by simp)]
  exact wpAny_setField ht hd hz h

theorem entryM {base : Heap} {env : Env} {outer : List Env} {L e : Addr} {c : Value} {d : Option Addr} {a0 tbv ctx c3 c4 : Value} {hadNext : Bool} {Q : Unit → Shared → Prop}
    (hfr : A.frames = some (env :: outer)) (hl : s.heap.FunFrames base (env :: outer)) (hf : env.frame = some L)
    (he : s.heap.get? e = some (excO c d a0 tbv ctx c3 c4))
    (h : ∀ h' tb, h'.get? e = some (excO c d a0 (.ref tb) ctx c3 c4) → tb ≠ e → Tb h' tb (rawInt L) → s.heap.get? tb = none → s.heap.objs.size ≤ tb → s.heap.objs.size ≤ h'.objs.size →
      (∀ b o, s.heap.get? b = some o → b ≠ e → ∃ sl, h'.get? b = some { o with slots := sl } ∧ (b ∉ fsOf (env :: outer) → sl = o.slots)) → Q () { s with heap := h' }) :
    wpAny M A (do let a ← frameOf env; let pl ← entryPlaceOf L hadNext; let b ← EntryCells.newEntry tbv a .none (rawInt L) .none pl; setField (.ref e) 1 b) Q E s := by
  have hene : e ∉ fsOf (env :: outer) := fun hm => by
    obtain ⟨_, o, ho, hnf⟩ := hl.mem hm
    rw [he] at ho; injection ho with ho; subst ho; exact hnf _ rfl
  refine wpAny_bind (wpAny_frameOf_fun hfr hl hf fun h₁ hs₁ => ?_)
  refine wpAny_bind (wpAny_entryPlaceOf fun pl hpl => ?_)
  unfold EntryCells.newEntry newFields
  refine wpAny_bind (wpAny_newObj_type ?_ (hpl.sizeOk5 _ _ _ _ _))
  have he₁ : h₁.get? e = some (excO c d a0 tbv ctx c3 c4) := (hs₁.2.1 e hene).trans he
  have he₂ := Heap.get?_push_of_some (h := h₁) { cls := .type "traceback", dict := none, data := .fields ([tbv, .ref L, .none, rawInt L, .none] ++ (if pl.isEmpty then List.replicate 6 Value.none else pl)).toArray } he₁
  refine wpAny_setField he₂ rfl (by show 1 < 6; decide) ?_
  have hTe : h₁.objs.size ≠ e := Nat.ne_of_gt (Heap.lt_size he₁)
  have he₃ := Heap.get?_update_self (Obj.mapFields (·.setIfInBounds 1 (Value.ref h₁.objs.size))) he₂ rfl
  have hT₃ := (Heap.get?_update_other (h₁.push { cls := .type "traceback", dict := none, data := .fields ([tbv, .ref L, .none, rawInt L, .none] ++ (if pl.isEmpty then List.replicate 6 Value.none else pl)).toArray })
    (Obj.mapFields (·.setIfInBounds 1 (Value.ref h₁.objs.size))) (Ne.symm hTe)).trans (Heap.get?_push_size h₁ rfl)
  refine h _ h₁.objs.size he₃ hTe ⟨_, _, hT₃, rfl, by simp⟩ ?_ (Nat.le_of_eq hs₁.1.symm) ?_ ?_
  · exact Heap.get?_none_of_le (by rw [hs₁.1]; exact Nat.le_refl _)
  · rw [Heap.size_after_update, Heap.size_push, hs₁.1]; exact Nat.le_succ _
  · intro b o hb hbe
    obtain ⟨sl, e₁⟩ := hs₁.2.2 b o hb
    refine ⟨sl, ?_, fun hn => ?_⟩
    · rw [Heap.get?_update_other _ _ (Ne.symm hbe)]
      exact Heap.get?_push_of_some _ e₁
    · have e₂ := hs₁.2.1 b hn
      rw [e₁, hb] at e₂
      have := Option.some.inj e₂
      exact congrArg Obj.slots this

theorem noteM {base : Heap} {env : Env} {outer : List Env} {L e : Addr} {c : Value} {d : Option Addr} {a0 tbv ctx c3 c4 : Value} {Q : Unit → Shared → Prop}
    (hfr : A.frames = some (env :: outer)) (hl : s.heap.FunFrames base (env :: outer)) (hf : env.frame = some L)
    (he : s.heap.get? e = some (excO c d a0 tbv ctx c3 c4)) (htb : tbv = .none ∨ ∃ tb fl, tbv = .ref tb ∧ tb ≠ e ∧ Tb s.heap tb fl)
    (h : ∀ h' tb, h'.get? e = some (excO c d a0 (.ref tb) ctx c3 c4) → tb ≠ e → Tb h' tb (rawInt L) → (tbv = .ref tb ∨ s.heap.objs.size ≤ tb) → Noted (fsOf (env :: outer)) s.heap h' e tbv → Q () { s with heap := h' }) :
    wpAny M A (noteFrame (.ref e) env) Q E s := by
  unfold noteFrame
  simp only [hf]
  refine wpAny_bind (wpAny_field (x := tbv) he rfl rfl ?_)
  rcases htb with rfl | ⟨tb, fl, rfl, hne, T⟩
  · rw [if_neg (by decide)]
    refine entryM hfr hl hf he fun h' tb h1 h2 h3 _ h4 h5 h6 => h h' tb h1 h2 h3 (.inr h4) ⟨h5, fun b o hb hn _ => h6 b o hb hn⟩
  · rw [if_pos (show (Value.ref tb != Value.none) = true from by simp)]
    obtain ⟨o, ts, ht, hd, q⟩ := T
    have hz : 3 < ts.size := (Array.getElem?_eq_some_iff.mp q).1
    refine wpAny_bind (wpAny_field ht hd q ?_)
    by_cases hfl : (fl == rawInt L) = true
    · rw [if_pos hfl]
      have hfl' : fl = rawInt L := by simpa using hfl
      exact wpAny_pure (h s.heap tb he hne ⟨o, ts, ht, hd, by rw [q, hfl']⟩ (.inl rfl) ⟨Nat.le_refl _, fun b o hb _ _ => ⟨o.slots, hb, fun _ => rfl⟩⟩)
    · rw [if_neg hfl]
      refine wpAny_bind (wpAny_setField ht hd hz ?_)
      have htf : tb ∉ fsOf (env :: outer) := fun hm => by
        obtain ⟨_, o', ho, hnf⟩ := hl.mem hm
        rw [ht] at ho; injection ho with ho; subst ho; exact hnf _ hd
      refine entryM (s := { s with heap := s.heap.update tb (Obj.mapFields fun x => x.setIfInBounds 3 Value.none) }) (c := c) (d := d) (a0 := a0) (ctx := ctx) (c3 := c3) (c4 := c4) hfr (hl.of_keeps fun b o' hb hnf => ?_) hf ?_ fun h' tb' h1 h2 h3 _ h4 h5 h6 => ?_
      · refine ⟨o', ?_, rfl⟩
        show (s.heap.update tb _).get? b = _
        rw [Heap.get?_update_other]
        · exact hb
        · rintro rfl; rw [ht] at hb; cases hb; exact hnf _ hd
      · show (s.heap.update tb _).get? e = _
        rw [Heap.get?_update_other _ _ hne]; exact he
      · refine h h' tb' h1 h2 h3 (.inr (by rw [Heap.size_after_update] at h4; exact h4)) ⟨by rw [Heap.size_after_update] at h5; exact h5, fun b o' hb hn hn' => h6 b o' ?_ hn⟩
        show (s.heap.update tb _).get? b = _
        rw [Heap.get?_update_other]
        · exact hb
        · rintro rfl; exact hn' rfl

theorem landM {base : Heap} {env : Env} {outer : List Env} {L e : Addr} {c : Value} {d : Option Addr} {a0 tbv ctx c3 c4 : Value} {Q : Unit → Shared → Prop}
    (hfr : A.frames = some (env :: outer)) (hl : s.heap.FunFrames base (env :: outer)) (hf : env.frame = some L)
    (he : s.heap.get? e = some (excO c d a0 tbv ctx c3 c4)) (htb : tbv = .none ∨ ∃ tb fl, tbv = .ref tb ∧ tb ≠ e ∧ Tb s.heap tb fl)
    (h : ∀ h' tb, h'.get? e = some (excO c d a0 (.ref tb) ctx c3 c4) → tb ≠ e → Tb h' tb .none → (tbv = .ref tb ∨ s.heap.objs.size ≤ tb) → Noted (fsOf (env :: outer)) s.heap h' e tbv → Q () { s with heap := h' }) :
    wpAny M A (noteFrame (.ref e) env) (fun _ s' => wpAny M A (setFlight (.ref e) none) Q E s') E s := by
  refine noteM hfr hl hf he htb fun h' tb h1 h2 h3 h4 h5 => setFlightM h1 h3 none ?_
  refine h _ tb ?_ h2 (h3.set _) h4 ⟨by show _ ≤ (h'.update _ _).objs.size; rw [Heap.size_after_update]; exact h5.size, fun b o hb hn hn' => ?_⟩
  · show (h'.update _ _).get? e = _
    rw [Heap.get?_update_other _ _ h2]; exact h1
  · obtain ⟨sl, q1, q2⟩ := h5.keep b o hb hn hn'
    refine ⟨sl, ?_, q2⟩
    rw [Heap.get?_update_other]
    · exact q1
    · rintro rfl
      rcases h4 with h4 | h4
      · exact hn' h4
      · exact absurd (Heap.lt_size hb) (Nat.not_lt.mpr h4)

theorem leavingM {base : Heap} {env : Env} {outer : List Env} {L e : Addr} {c : Value} {d : Option Addr} {a0 tbv ctx c3 c4 : Value} {Q : Unit → Shared → Prop}
    (hfr : A.frames = some (env :: outer)) (hl : s.heap.FunFrames base (env :: outer)) (hf : env.frame = some L)
    (he : s.heap.get? e = some (excO c d a0 tbv ctx c3 c4)) (htb : tbv = .none ∨ ∃ tb fl, tbv = .ref tb ∧ tb ≠ e ∧ Tb s.heap tb fl)
    (h : ∀ h' tb, h'.get? e = some (excO c d a0 (.ref tb) ctx c3 c4) → tb ≠ e → Tb h' tb .none → (tbv = .ref tb ∨ s.heap.objs.size ≤ tb) → Noted (fsOf (env :: outer)) s.heap h' e tbv → Q () { s with heap := h' }) :
    wpAny M A (leaving env (.ref e)) Q E s := by
  unfold leaving
  exact wpAny_bind (landM hfr hl hf he htb h)
end
end Mine
end
section
open PySem PySem.W PySem.Calls PyProof.Rows
set_option maxRecDepth 100000
namespace Mine

structure BaseOk (w : World) (mean : ExcName → Option Value) (mg mb : Str → Option Value) (base : Heap) : Prop where
  X : (Mine.hd.heap_39 w.params).In base
  T : TopM mean mg mb base

/-- all of h stays in h', but X's objects; slots of the frames fs may turn -/
structure Kept (X fs : List Addr) (h h' : Heap) : Prop where
  size : h.objs.size ≤ h'.objs.size
  keep : ∀ b o, h.get? b = some o → b ∉ X → ∃ sl, h'.get? b = some { o with slots := sl } ∧ (b ∉ fs → sl = o.slots)

theorem Kept.get {X fs : List Addr} {h h' : Heap} (k : Kept X fs h h') {b : Addr} {o : Obj} (e : h.get? b = some o) (hX : b ∉ X) (hf : b ∉ fs) : h'.get? b = some o := by
  obtain ⟨sl, e', q⟩ := k.keep b o e hX
  rw [q hf] at e'; exact e'
theorem Kept.refl (X fs : List Addr) (h : Heap) : Kept X fs h h := ⟨Nat.le_refl _, fun _ o e _ => ⟨o.slots, e, fun _ => rfl⟩⟩
theorem Kept.trans {X fs : List Addr} {h h₁ h₂ : Heap} (x : Kept X fs h h₁) (y : Kept X fs h₁ h₂) : Kept X fs h h₂ :=
  ⟨Nat.le_trans x.size y.size, fun b o e hX => by
    obtain ⟨s1, e1, q1⟩ := x.keep b o e hX
    obtain ⟨s2, e2, q2⟩ := y.keep b _ e1 hX
    exact ⟨s2, e2, fun hf => (q2 hf).trans (q1 hf)⟩⟩
theorem Kept.mono {X X' fs fs' : List Addr} {h h' : Heap} (x : Kept X fs h h') (hX : ∀ b ∈ X, b ∈ X' ∨ h.get? b = none) (hf : ∀ b ∈ fs, b ∈ fs' ∨ h.get? b = none) : Kept X' fs' h h' :=
  ⟨x.size, fun b o e n => by
    obtain ⟨sl, e1, q⟩ := x.keep b o e fun m => (hX b m).elim n fun z => by rw [e] at z; cases z
    exact ⟨sl, e1, fun n' => q fun m => (hf b m).elim n' fun z => by rw [e] at z; cases z⟩⟩
theorem Kept.ns {X fs : List Addr} {h h' : Heap} (k : Kept X fs h h') {L : Addr} {m : Str → Option Value} (n : h.Ns L m) (hX : L ∉ X) : h'.Ns L m := by
  obtain ⟨o, es, ep, e, d, r⟩ := n
  obtain ⟨sl, e', _⟩ := k.keep L o e hX
  exact ⟨_, es, ep, e', d, r⟩
theorem Kept.stays {X fs : List Addr} {h h' base : Heap} (k : Kept X fs h h') (st : base.StaysIn h) (hX : ∀ b ∈ X, base.get? b = none) (hf : ∀ b ∈ fs, base.get? b = none) : base.StaysIn h' := fun b o e =>
  k.get (st b o e) (fun m => by rw [hX b m] at e; cases e) (fun m => by rw [hf b m] at e; cases e)
theorem Kept.fun {X fs : List Addr} {h h' base : Heap} (k : Kept X fs h h') {l : List Env} (ff : h.FunFrames base l) (hX : ∀ b ∈ X, b ∉ fsOf l) : h'.FunFrames base l := by
  induction l with
  | nil => trivial
  | cons env rest ih =>
    obtain ⟨hk, ⟨L, o, hf, hn, ho, hd⟩, hr⟩ := ff
    obtain ⟨sl, e, _⟩ := k.keep L o ho fun m => hX L m (by rw [fsOf, List.filterMap_cons, hf]; exact .head _)
    refine ⟨hk, ⟨L, _, hf, hn, e, hd⟩, ih hr fun b m q => hX b m ?_⟩
    rw [fsOf, List.filterMap_cons, hf]; exact .tail _ q
theorem Noted.kept {fs : List Addr} {h h' : Heap} {e tb : Addr} {tbv : Value} (x : Noted fs h h' e tbv) (ht : tbv = .none ∨ tbv = .ref tb) : Kept [e, tb] fs h h' :=
  ⟨x.size, fun b o q n => x.keep b o q (fun z => n (by simp [z])) (fun z => by rcases ht with r | r <;> rw [r] at z <;> cases z; exact n (by simp))⟩

theorem funFrames_apart {h base : Heap} {l : List Env} (ff : h.FunFrames base l) {b : Addr} (n : h.get? b = none) : b ∉ fsOf l := fun m => by
  obtain ⟨_, o, e, _⟩ := ff.mem m
  rw [n] at e; cases e

/-- after anything that keeps all but X: a new ground -/
theorem reground {g h h' base : Heap} {L : Addr} {m : Str → Option Value} {news : List (Addr × Obj)} {outer : List Env} {X : List Addr}
    (F : Fr g L h m) (N : News g L h news) (ff : g.FunFrames base outer) (st : base.StaysIn g) (k : Kept X (L :: fsOf outer) h h') (hX : ∀ b ∈ X, g.get? b = none ∧ b ≠ L) :
    ∃ g', KtsTurn (fsOf outer) g g' ∧ Fr g' L h' m ∧ g'.FunFrames base outer ∧ base.StaysIn g' ∧
      ∀ news' : List (Addr × Obj), (∀ p ∈ news', (p ∈ news ∧ p.1 ∉ X) ∨ (h'.get? p.1 = some p.2 ∧ p.1 ≠ L ∧ g.get? p.1 = none)) → News g' L h' news' := by
  have hL := kts_self F
  have turn := kts_turn_at (fs := fsOf outer) (g := g) (h := h') (fun b m => let ⟨_, o, e, _⟩ := ff.mem m; ⟨o, e⟩)
    (fun b o e nf => k.get (F.keep b o e) (fun m => by rw [(hX b m).1] at e; cases e) fun m => by
      rcases List.mem_cons.mp m with rfl | m
      · rw [hL] at e; cases e
      · exact nf m)
    (fun b o e mf => by
      obtain ⟨sl, q, _⟩ := k.keep b o (F.keep b o e) fun m => by rw [(hX b m).1] at e; cases e
      exact ⟨sl, q⟩)
  refine ⟨_, turn.1, ⟨k.ns F.ns fun m => (hX L m).2 rfl, turn.2, by rw [turn.1.size]; exact F.above⟩, ?_, ?_, ?_⟩
  · refine ff.of_keeps fun b o e _ => ?_
    obtain ⟨sl, q⟩ := turn.1.up e
    exact ⟨_, q, rfl⟩
  · exact fun b o e => turn.1.other b o (st b o e) fun m => by rw [(ff.mem m).1] at e; cases e
  · intro news' hn p hp
    rcases hn p hp with ⟨hm, nX⟩ | ⟨e, ne, gn⟩
    · have P := N p hm
      refine ⟨k.get P.1 nX fun m => ?_, P.2.1, turn.1.none_ _ P.2.2⟩
      rcases List.mem_cons.mp m with q | q
      · exact P.2.1 q
      · exact funFrames_apart ff P.2.2 q
    · exact ⟨e, ne, turn.1.none_ _ gn⟩

/-- what a def's body has done, told of the caller's heap -/
theorem exitK {h g' h' : Heap} {L : Addr} {m' : Str → Option Value} {hid fs : List Addr} (T : KtsTurn fs (hideAll h hid) g') (F : Fr g' L h' m') : Kept hid fs h h' := by
  refine ⟨?_, fun b o e n => ?_⟩
  · have a := F.above
    rw [T.size, hideAll_size] at a
    exact Nat.le_trans a (Nat.le_of_lt F.ns.lt)
  · have e' := hideAll_get hid e n
    obtain ⟨sl, q⟩ := T.up e'
    refine ⟨sl, F.keep _ _ q, fun nf => ?_⟩
    have q' := T.other b o e' nf
    rw [q] at q'
    exact congrArg Obj.slots (Option.some.inj q')

theorem apartNone {base h : Heap} {hid : List Addr} (st : base.StaysIn h) (hh : ∀ b ∈ hid, base.get? b = none) : base.StaysIn (hideAll h hid) := fun b o e =>
  hideAll_get _ (st b o e) fun m => by rw [hh b m] at e; cases e
theorem funHide {base h : Heap} {l : List Env} {hid : List Addr} (ff : h.FunFrames base l) (hh : ∀ b ∈ hid, b ∉ fsOf l) : (hideAll h hid).FunFrames base l :=
  funFrames_hideAll ff fun env he a ha hf => hh a ha (List.mem_filterMap.mpr ⟨env, he, hf⟩)
end Mine
end
section
open PySem PySem.W PySem.Calls PyProof.Rows
set_option maxRecDepth 100000
namespace Mine

theorem entry_unchain : entryFor table "proto.unchain" = some Builtin.«proto.unchain» := entryFor_of_tree (by kernel_rfl)
theorem quiet_unchain (a : Args) : (Code.builtin "proto.unchain" a).quiet = true := Code.quiet_builtin a (by decide +kernel)

def At2 (h : Heap) (p : Addr) (c : Value) : Prop := ∃ o vs, h.get? p = some o ∧ o.data = .fields vs ∧ vs[2]? = some c
def Ch (h : Heap) (e p : Addr) : Prop :=
  At2 h p .none ∨ ∃ q, At2 h p (.ref q) ∧ q ≠ e ∧ q ≠ p ∧ (At2 h q .none ∨ ∃ r, At2 h q (.ref r) ∧ r ≠ e ∧ r ≠ p ∧ At2 h r .none)
def HdOk (h : Heap) (hd : Option Value) : Prop := hd = none ∨ ∃ p, hd = some (.ref p) ∧ ((∃ c, At2 h p c) ∧ (At2 h p .none ∨ ∃ q, At2 h p (.ref q) ∧ q ≠ p ∧ (∃ c, At2 h q c) ∧ (At2 h q .none ∨ ∃ r, At2 h q (.ref r) ∧ r ≠ p ∧ At2 h r .none)))

section
variable {prog : Program} {w : World} {A : Around} {R : Result → Shared → Prop} {s : Shared}
theorem un_end {v slow : Value} {o : Addr} {tg : Bool} (x : At2 s.heap o .none) (h : R (.ok (.ret .none)) s) : codeAny (model prog w) A (.builtin "proto.unchain" ⟨[v, .ref o, slow, .bool tg], []⟩) R s := by
  obtain ⟨oo, vs, e, d, q⟩ := x
  refine codeAny_builtin entry_unchain ?_
  unfold Builtin.«proto.unchain»
  dsimp only
  refine wpAny_bind (wpAny_field (x := .none) e d q ?_)
  rw [if_pos (by rfl)]
  exact wpAny_pure h
theorem un_false {v slow : Value} {o c : Addr} (x : At2 s.heap o (.ref c)) (hv : v ≠ .ref c) (hs : slow ≠ .ref c)
    (h : codeAny (model prog w) A (.builtin "proto.unchain" ⟨[v, .ref c, slow, .bool true], []⟩) R s) : codeAny (model prog w) A (.builtin "proto.unchain" ⟨[v, .ref o, slow, .bool false], []⟩) R s := by
  obtain ⟨oo, vs, e, d, q⟩ := x
  refine codeAny_builtin entry_unchain ?_
  unfold Builtin.«proto.unchain»
  dsimp only
  refine wpAny_bind (wpAny_field (x := .ref c) e d q ?_)
  rw [if_neg (by simp), if_neg (by simpa using fun z => hv z.symm), if_neg (by simpa using fun z => hs z.symm)]
  exact wpAny_bind (wpAny_pure (wpAny_pure ⟨quiet_unchain _, h⟩))
theorem un_true {v : Value} {o c sl sl' : Addr} (x : At2 s.heap o (.ref c)) (hv : v ≠ .ref c) (hs : sl ≠ c) (y : At2 s.heap sl (.ref sl'))
    (h : codeAny (model prog w) A (.builtin "proto.unchain" ⟨[v, .ref c, .ref sl', .bool false], []⟩) R s) : codeAny (model prog w) A (.builtin "proto.unchain" ⟨[v, .ref o, .ref sl, .bool true], []⟩) R s := by
  obtain ⟨oo, vs, e, d, q⟩ := x
  obtain ⟨oy, vy, ey, dy, qy⟩ := y
  refine codeAny_builtin entry_unchain ?_
  unfold Builtin.«proto.unchain»
  dsimp only
  refine wpAny_bind (wpAny_field (x := .ref c) e d q ?_)
  rw [if_neg (by simp), if_neg (by simpa using fun z => hv z.symm), if_neg (by simpa using fun z => hs z.symm)]
  refine wpAny_bind (wpAny_field (x := .ref sl') ey dy qy ?_)
  exact wpAny_pure ⟨quiet_unchain _, h⟩
theorem un_ch {e p : Addr} (x : Ch s.heap e p) (h : R (.ok (.ret .none)) s) : codeAny (model prog w) A (.builtin "proto.unchain" ⟨[.ref e, .ref p, .ref p, .bool false], []⟩) R s := by
  rcases x with x | ⟨q, x, n1, n2, y⟩
  · exact un_end x h
  · refine un_false x (by simpa using Ne.symm n1) (by simpa using Ne.symm n2) ?_
    rcases y with y | ⟨r, y, m1, m2, z⟩
    · exact un_end y h
    · exact un_true y (by simpa using Ne.symm m1) (Ne.symm m2) x (un_end z h)
end

abbrev setCtx (h : Heap) (e : Addr) : Option Value → Heap
  | none => h
  | some v => h.update e (Obj.mapFields (·.setIfInBounds 2 v))

section
variable {prog : Program} {w : World} {A : Around} {E : Value → Shared → Prop} {s : Shared}
theorem raiseNewM {α : Type} {e : Addr} {hd : Option Value} {o : Obj} {vs : Array Value} {Q : α → Shared → Prop} (hA : A.handled = hd) (he : s.heap.get? e = some o) (hd' : o.data = .fields vs) (hz : 2 < vs.size)
    (hk : hd = none ∨ ∃ p, hd = some (.ref p) ∧ p ≠ e ∧ Ch s.heap e p) (h : E (.ref e) { s with heap := setCtx s.heap e hd }) : wpAny (model prog w) A (raiseNew (.ref e) : Sem α) Q E s := by
  unfold raiseNew
  refine wpAny_bind (wpAny_handled ?_)
  rw [hA]
  rcases hk with rfl | ⟨p, rfl, hne, ch⟩
  · exact wpAny_bind (wpAny_pure (wpAny_throw h))
  · dsimp only
    rw [if_pos (show (Value.ref p != Value.ref e) = true from by simpa using hne)]
    refine wpAny_bind (wpAny_holding (wpAny_runValue (un_ch ch ?_)))
    dsimp only
    refine wpAny_bind (wpAny_setField (s := s) (a := e) he hd' hz (wpAny_throw h))

theorem raiseWordsM {α : Type} {cls msg : String} {hd : Option Value} {Q : α → Shared → Prop} (hp : PlainExc cls) (hA : A.handled = hd)
    (hk : HdOk s.heap hd)
    (h : ∀ h' tk, Kept [] [] s.heap h' → h'.get? (s.heap.objs.size + 1) = some (excO (.type cls) none (.ref s.heap.objs.size) .none (hd.getD .none) .none (.bool false)) → E (.ref (s.heap.objs.size + 1)) { s with heap := h', toks := tk }) :
    wpAny (model prog w) A (raiseErrorWords cls msg : Sem α) Q E s := by
  unfold raiseErrorWords
  refine wpAny_bind (wpAny_mkText (wpAny_bind ?_))
  unfold newExc newTuple
  refine wpAny_bind (wpAny_newObj_type ?_ (by size_fits))
  refine wpAny_bind (m := firstArgMember _ _) (wpAny_of_eq (a := Value.none) (by simp only [firstArgMember, hp.first]; rfl) ?_)
  rw [hp.own]
  refine wpAny_newObj_type ?_ (by size_fits)
  have hg : ((s.heap.push { cls := .type "tuple", data := .seq [Value.str msg s.toks].toArray }).push (excO (.type cls) none (.ref s.heap.objs.size) .none .none .none (.bool false))).get? (s.heap.objs.size + 1) = some (excO (.type cls) none (.ref s.heap.objs.size) .none .none .none (.bool false)) := by
    have := Heap.get?_push_size (s.heap.push { cls := .type "tuple", data := .seq [Value.str msg s.toks].toArray }) (o := excO (.type cls) none (.ref s.heap.objs.size) .none .none .none (.bool false)) rfl
    rwa [Heap.size_push] at this
  have kp : ∀ b o, s.heap.get? b = some o → ((s.heap.push { cls := .type "tuple", data := .seq [Value.str msg s.toks].toArray }).push (excO (.type cls) none (.ref s.heap.objs.size) .none .none .none (.bool false))).get? b = some o :=
    fun b o e => Heap.get?_push_of_some _ (Heap.get?_push_of_some _ e)
  have at2 : ∀ {p : Addr} {c : Value}, At2 s.heap p c → At2 ((s.heap.push { cls := .type "tuple", data := .seq [Value.str msg s.toks].toArray }).push (excO (.type cls) none (.ref s.heap.objs.size) .none .none .none (.bool false))) p c :=
    fun ⟨o, vs, e, d, q⟩ => ⟨o, vs, kp _ _ e, d, q⟩
  have lt2 : ∀ {p : Addr} {c : Value}, At2 s.heap p c → p ≠ s.heap.objs.size + 1 := fun ⟨o, vs, e, _, _⟩ => Nat.ne_of_lt (Nat.lt_succ_of_lt (Heap.lt_size e))
  have hk' : hd = none ∨ ∃ p, hd = some (.ref p) ∧ p ≠ s.heap.objs.size + 1 ∧ Ch ((s.heap.push { cls := .type "tuple", data := .seq [Value.str msg s.toks].toArray }).push (excO (.type cls) none (.ref s.heap.objs.size) .none .none .none (.bool false))) (s.heap.objs.size + 1) p := by
    rcases hk with rfl | ⟨p, rfl, ⟨_, a0⟩, a | ⟨q, a, ne, ⟨_, b0⟩, b | ⟨r, b, ne', c⟩⟩⟩
    · exact .inl rfl
    · exact .inr ⟨p, rfl, lt2 a0, .inl (at2 a)⟩
    · exact .inr ⟨p, rfl, lt2 a0, .inr ⟨q, at2 a, lt2 b0, ne, .inl (at2 b)⟩⟩
    · exact .inr ⟨p, rfl, lt2 a0, .inr ⟨q, at2 a, lt2 b0, ne, .inr ⟨r, at2 b, lt2 c, ne', at2 c⟩⟩⟩
  have sz : ((s.heap.push { cls := .type "tuple", data := .seq [Value.str msg s.toks].toArray }).objs.size) = s.heap.objs.size + 1 := Heap.size_push ..
  show wpAny _ _ (raiseNew (.ref (s.heap.push { cls := .type "tuple", data := .seq [Value.str msg s.toks].toArray }).objs.size)) _ _ _
  rw [sz]
  refine raiseNewM hA hg rfl (by show 2 < 6; decide) hk' ?_
  refine h _ _ ⟨?_, fun b o e _ => ⟨o.slots, ?_, fun _ => rfl⟩⟩ ?_
  · rcases hd with _ | v
    · show _ ≤ ((s.heap.push _).push _).objs.size
      rw [Heap.size_push, Heap.size_push]; omega
    · show _ ≤ (((s.heap.push _).push _).update _ _).objs.size
      rw [Heap.size_after_update, Heap.size_push, Heap.size_push]; omega
  · rcases hd with _ | v
    · exact kp _ _ e
    · show (Heap.update _ _ _).get? b = _
      rw [Heap.get?_update_other _ _ (Nat.ne_of_gt (Nat.lt_succ_of_lt (Heap.lt_size e)))]
      exact kp _ _ e
  · rcases hd with _ | v
    · exact hg
    · exact Heap.get?_update_self _ hg rfl

theorem strItem_out {x : Str} {t u : Tok} {i : Int} {hd : Option Value} {Q : Value → Shared → Prop} (h0 : (x.length : Int) ≤ i) (hi : i < 2 ^ 63) (hA : A.handled = hd) (hk : HdOk s.heap hd)
    (h : ∀ h' tk, Kept [] [] s.heap h' → h'.get? (s.heap.objs.size + 1) = some (excO (.type "IndexError") none (.ref s.heap.objs.size) .none (hd.getD .none) .none (.bool false)) → E (.ref (s.heap.objs.size + 1)) { s with heap := h', toks := tk }) :
    wpAny (model prog w) A (getItem (.str x t) (.int i u)) Q E s := by
  have hr : (decide (i < -(2 ^ 63 : Int)) || decide (i ≥ 2 ^ 63)) = false := by simp; omega
  have hc : (seqIndex? i x.length).bind (x.cps[·]?) = none := by
    have : seqIndex? i x.length = none := by
      unfold seqIndex?
      simp; omega
    rw [this]; rfl
  refine getItem_meets (S := fun A R s => A.handled = hd ∧ HdOk s.heap hd ∧ ∀ h' tk, Kept [] [] s.heap h' → h'.get? (s.heap.objs.size + 1) = some (excO (.type "IndexError") none (.ref s.heap.objs.size) .none (hd.getD .none) .none (.bool false)) → R (.error (.ref (s.heap.objs.size + 1))) { s with heap := h', toks := tk })
    (typeIs_str s x t) (by decide) F.slot_str_getitem F.entry_str_getitem (F.args_str_getitem_2 _ _) ?_ ⟨hA, hk, fun h' tk a b => h h' tk a b⟩
  intro prog w A R s ⟨hA, hk, h⟩
  show wpAny _ _ (if (decide (i < -(2 ^ 63 : Int)) || decide (i ≥ 2 ^ 63)) = true then _ else
          match (seqIndex? i x.length).bind (x.cps[·]?) with
          | some c => retStr ⟨#[c]⟩
          | none => _) _ _ s
  rw [hr, hc]
  exact wpAny_bind (wpAny_rule (raiseWordsM plainExc_IndexError hA hk h))
end
end Mine
end
section
open PySem PySem.W PySem.Calls PyProof.Rows
set_option maxRecDepth 100000
namespace Mine
theorem fill : PySem.Challenge.rw_dw0053_01 = PySem.Challenge.rw_dw0053_01 ∧ ∀ P, Mine.hd.heap_39 P = Mine.hd.heap_39 P := by
  k_fill
  exact ⟨rfl, fun _ => rfl⟩

abbrev tupO (vs : List Value) : Obj := { cls := .type "tuple", data := .seq vs.toArray }

section
variable {prog : Program} {w : World} {A : Around} {R : Result → Shared → Prop} {h : Heap} {g : Array GenState} {d : Drawn} {t : Nat} {os : OsState}
variable {nm q : Str} {C N fI : Addr} {bs bm : List Value} {hdct : Bool} {sn : List Str} {sub : List Value} {ab : Bool} {col : Option Bool} {dd : Option Addr} {k0 k1 k2 k3 k5 : Option Value} {B newId initId : String}

theorem make_E (F : ExcBaseFacts B newId initId bm) {rest : List Value}
    (hC : h.get? C = some (excClassObj nm q C N bs bm hdct sn sub ab col dd k0 k1 k2 k3 k5 newId))
    (hi : Looks (model prog w) h (typeLookup (.ref C) "__init__") (some (.ref fI))) (hb : ∀ self, Looks (model prog w) h (bindSpecial (.ref fI) self) (.ref fI, [self]))
    (hrest : rest.length ≤ sizeLine)
    (hq : codeAny (model prog w) (A.under (.builtin "type.__call__" ⟨.ref C :: rest, []⟩)) (.call (.ref fI) ⟨.ref (h.objs.size + 1) :: rest, []⟩) (InitBack (h.objs.size + 1) R)
      ⟨(h.push (tupO rest)).push (excO (.ref C) none (.ref h.objs.size) .none .none .none (.bool false)), g, d, t, os⟩) :
    codeAny (model prog w) A (.call (.ref C) ⟨rest, []⟩) R ⟨h, g, d, t, os⟩ := by
  have f1 := tc_lookup
  have f2 := tc_bind (.ref C)
  have hT : (⟨h, g, d, t, os⟩ : Shared).TypeIs (.ref C) "type" := ⟨_, hC, rfl⟩
  refine codeAny_of_tree ?_
  show wpAny _ _ (callAny (.ref C) _) _ _ _
  repeat (any_goals (first | assumption | with_reducible refine wpAny_loadPart_at hC ?_ | wp_step))
  refine ⟨rfl, ?_⟩
  refine codeAny_call_builtin_at (Code.quiet_builtin _ (by decide +kernel)) entry_typeCall (wpAny_check_type_call_sub hC ?_)
  repeat (first | with_reducible refine wpAny_loadPart_at hC ?_ | with_reducible refine wpAny_madeBy_exc hC ?_ | wp_step)
  refine codeAny_call_builtin_code (Code.quiet_builtin _ F.quiet) (wpAny_check_new_sub F hC ?_)
  refine codeAny_exc_new_sub F hC ?_ hrest
  show wpAny _ _ _ _ _ _
  have k : ∀ b o, h.get? b = some o → ((h.push (tupO rest)).push (excO (.ref C) none (.ref h.objs.size) .none .none .none (.bool false))).get? b = some o := fun b o e => Heap.get?_push_of_some _ (Heap.get?_push_of_some _ e)
  have hC₁ := k _ _ hC
  have hget : ((h.push (tupO rest)).push (excO (.ref C) none (.ref h.objs.size) .none .none .none (.bool false))).get? (h.objs.size + 1) = some (excO (.ref C) none (.ref h.objs.size) .none .none .none (.bool false)) := by heap_get
  have hcC : (Value.ref C :: bm).contains (.ref C) = true := by simp
  have t1 : Looks (model prog w) ((h.push (tupO rest)).push (excO (.ref C) none (.ref h.objs.size) .none .none .none (.bool false))) (typeOf (.ref (h.objs.size + 1))) (.ref C) := (Looks.ld hget).andThen .now
  have s1 : Looks (model prog w) ((h.push (tupO rest)).push (excO (.ref C) none (.ref h.objs.size) .none .none .none (.bool false))) (isSubtype (.ref C) (.ref C)) true := fun A Q E s kk q => by
    obtain ⟨hp, g', d', t', os'⟩ := s
    refine wpAny_isSubtype_exc (kk _ _ hC₁) ?_
    rw [hcC]; exact q
  have i1 := hi.keeps k
  have b1 := (hb (.ref (h.objs.size + 1))).keeps k
  change wpAny _ _ _ _ _ ⟨(h.push (tupO rest)).push (excO (.ref C) none (.ref h.objs.size) .none .none .none (.bool false)), g, d, t, os⟩
  unfold isInstance callSpecial? specialOf
  repeat (first | with_reducible refine wpAny_call ?_ | lk)
  refine codeAny_mono hq fun r s' z => ?_
  rcases r with e | (v | _ | _ | _) <;> first | exact z | exact z.elim | skip
  obtain ⟨rfl, z⟩ := z
  exact wpAny_pure (wpAny_pure z)
end
end Mine
end
section
open PySem PySem.W PySem.Calls PyProof.Rows Builtin Builtin.ObjectAttr
set_option maxRecDepth 100000
namespace Mine

def excMro (K : Frag) (C : Addr) : Bool := (clsIn K C).any fun cd => cd.mro == [.ref C, .type "Exception", .type "BaseException", .type "object"]

section
variable {prog : Program} {w : World} {A : Around} {E : Value → Shared → Prop} {s : Shared} {K : Frag} {x C dx L : Addr} {h₀ : Heap} {m : Str → Option Value} {news news' : List (Addr × Obj)} {ox : Obj} {es es' : List DictEntry} {n n' : Nat} {name : Str} {v : Value} {R : Result → Shared → Prop}

theorem osaE_open {od : Option Obj} {tk : Tok} (X : K.In s.heap) (I : InstAt s.heap x ox C od) (hp : excMro K C = true) (ht : takerIn K C name = some none)
    (h : ∀ b, wpAny (model prog w) A.in1 (storeInOwnDict (.ref x) (.ref C) (.str name tk) name v b)
      (fun fin s' => match fin with | .done f => R (.ok f) s' | .again c' => c'.quiet = true ∧ codeAny (model prog w) A c' R s') (fun e s' => R (.error e) s') s) :
    codeAny (model prog w) A (.call (.builtin "object.__setattr__") ⟨[.ref x, .str name tk, v], []⟩) R s := by
  have SF := PySem.F.store_object
  obtain ⟨cd, hc, ho⟩ := any_some hp
  have ho := beq_iff_eq.mp ho
  have ne : cd.mro.isEmpty = false := by rw [ho]; rfl
  have sub : Looks (model prog w) s.heap (isInstance (.ref x) (.type "object")) true := I.type.andThen (looks_mroIn X (by unfold mroIn; rw [hc, Option.bind_some, if_neg (by rw [ne]; decide), ho]; simp))
  refine codeAny_call_builtin SF.slot.plain SF.entry (@check_slot (model prog w) _ _ s "object.__setattr__" "object" "__setattr__" (.ref x) [.str name tk, v] [] _ SF.kind SF.split sub (SF.args (.ref x) (.str name tk) v) ?_)
  obtain ⟨attr, ha, hr⟩ := Option.bind_eq_some_iff.mp ht
  have hm : Looks (model prog w) s.heap (mroOf (.ref C)) cd.mro := (looks_clsIn X hc).andThen .now
  have L3 : Looks (model prog w) s.heap (storeTaker? attr) none := by
    cases attr with
    | none => exact .now
    | some a =>
      obtain ⟨b, hb, e⟩ := Option.map_eq_some_iff.mp hr
      refine (looks_takesIn X hb).andThen ?_
      cases b
      · exact .now
      · cases e
  rw [osa_eq, refuse_eq]
  refine wpAny_bind (wpAny_bind (I.type.here (wpAny_bind (hm.here ?_))))
  rw [ho, refuseLoop_ref, PySem.F.store_Exception.passes]
  refine wpAny_pure (wpAny_bind (I.type.here (wpAny_bind ((looks_findIn X ha).here (wpAny_bind (L3.here ?_))))))
  exact h _

theorem nsSetM {od : Obj} {Q : Unit → Shared → Prop} (D : s.heap.get? dx = some od) (hl : (lookIn name od).isSome = true) 
    (h : Q () { s with heap := s.heap.update dx (Obj.putName name (PyData.keyHash w.params name) (.str name s.toks) v), toks := s.toks + 1 }) : wpAny (model prog w) A (nsSet dx name v) Q E s := by
  unfold nsSet
  refine wpAny_bind (wpAny_bind (wpAny_askSetting (wpAny_pure (wpAny_bind (wpAny_mkText (wpAny_bind (wpAny_loadPart D ?_)))))))
  unfold lookIn at hl
  split at hl
  · rename_i es₀ n₀ q
    rw [q]
    dsimp only
    have c : (!es₀.any (·.key.isStr name) && es₀.any (·.refKey)) = false := by
      rw [← Array.any_toList, ← Array.any_toList]
      split at hl
      · rename_i en he
        rw [List.any_eq_true.mpr ⟨en, List.mem_of_find?_eq_some he, List.find?_some he⟩]; rfl
      · split at hl
        · cases hl
        · rename_i z; rw [Bool.not_eq_true] at z; rw [z, Bool.and_false]
    rw [aRefKeyMayBeTheName_at, c]
    exact wpAny_updatePart D h
  · cases hl

theorem setE_plain {Q : Unit → Shared → Prop} {od : Option Obj} (X : K.In s.heap) (I : InstAt s.heap x ox C od) (hs : findIn K (.ref C) "__setattr__" = some (some (.builtin "object.__setattr__")))
    (h : codeAny (model prog w) A (.call (.builtin "object.__setattr__") ⟨[.ref x, .str name s.toks, v], []⟩) (fun r s' => match r with | .ok (.ret _) => Q () s' | .ok _ => False | .error e => E e s') { s with toks := s.toks + 1 }) :
    wpAny (model prog w) A (setAttr (.ref x) name v) Q E s := set_plain X I hs h

theorem excInst1 {d : Addr} {od : Obj} {h : Heap} {a0 tb ctx c3 c4 : Value} (hx : h.get? x = some (excO (.ref C) (some d) a0 tb ctx c3 c4)) (hd : h.get? d = some od) : InstAt h x (excO (.ref C) (some d) a0 tb ctx c3 c4) C (some od) := ⟨hx, rfl, rfl, hd⟩
theorem excInst0 {h : Heap} {a0 tb ctx c3 c4 : Value} (hx : h.get? x = some (excO (.ref C) none a0 tb ctx c3 c4)) : InstAt h x (excO (.ref C) none a0 tb ctx c3 c4) C none := ⟨hx, rfl, rfl, trivial⟩

/-- a store into an exception's own dict -/
theorem setE_dict {tk1 : Tok} {Q : Unit → Shared → Prop} {a0 tb ctx c3 c4 : Value} (F : Fr h₀ L s.heap m) (X₀ : K.In h₀) (N : News h₀ L s.heap news)
    (hx : (x, excO (.ref C) (some dx) a0 tb ctx c3 c4) ∈ news) (_hdm : (dx, dictOf es n) ∈ news)
    (hs : findIn K (.ref C) "__setattr__" = some (some (.builtin "object.__setattr__"))) (hp : excMro K C = true) (ht : takerIn K C name = some none) (hh : hasDictIn K C = true) (hl : (getL name es).isSome = true)
    (e : (putL name (PyData.keyHash w.params name) (.str name tk1) v es, putN name es n) = (es', n')) (U : Upd dx (dictOf es n) (dictOf es' n') news news') (hz : es'.length ≤ 1000)
    (h : ∀ h' tk', Fr h₀ L h' m → News h₀ L h' news' → Q () { s with heap := h', toks := tk' }) (etk : tk1 = s.toks + 1) :
    wpAny (model prog w) A (setAttr (.ref x) name v) Q E s := by
  subst etk
  obtain ⟨pre, post, rfl, rfl, a, b⟩ := U.split
  obtain ⟨e1, e2⟩ := Prod.mk.inj e
  have X := X₀.keeps F.keep
  have D : s.heap.get? dx = some (dictOf es n) := (N (dx, dictOf es n) (by simp)).1
  have hX : s.heap.get? x = some (excO (.ref C) (some dx) a0 tb ctx c3 c4) := (N _ hx).1
  have I : InstAt s.heap x (excO (.ref C) (some dx) a0 tb ctx c3 c4) C (some (dictOf es n)) := excInst1 hX D
  have ep : Obj.putName name (PyData.keyHash w.params name) (.str name (s.toks + 1)) v (dictOf es n) = dictOf es' n' := by rw [putName_dict, e1, e2]
  obtain ⟨U1, U2⟩ := news_upd (f := Obj.putName name (PyData.keyHash w.params name) (.str name (s.toks + 1)) v) F N a b ep rfl
  have D' := (U2 (dx, dictOf es' n') (by simp)).1
  refine setE_plain X I hs (osaE_open (s := { s with toks := s.toks + 1 }) X I hp ht fun bb => ?_)
  obtain ⟨cd, hc, hd'⟩ := any_some hh
  refine wpAny_bind (wpAny_pure (wpAny_bind (wpAny_bind (wpAny_loadPart (s := { s with toks := s.toks + 1 }) hX (wpAny_bind (Looks.here (s := { s with toks := s.toks + 1 }) (looks_clsIn (h := s.heap) X hc) ?_))))))
  rw [hd']
  refine wpAny_pure (a := some dx) (wpAny_bind (wpAny_pure (wpAny_bind ?_)))
  refine nsSetM (s := { s with toks := s.toks + 1 }) D hl ?_
  refine wpAny_bind (wpAny_lookBehind D' (pastItsLine_dict (by rw [List.size_toArray, sizeLine_eq]; omega)) ?_)
  exact wpAny_pure (h _ _ U1 U2)

theorem setE_tok {M : Model} {u v : Value} {Q : Unit → Shared → Prop} (h : ∀ t' : Tok, t' = s.toks + 1 → wpAny M A (setAttr u name v) Q E s) : wpAny M A (setAttr u name v) Q E s := h _ rfl

/-- the first store: the dict is made -/
theorem setE_new {Q : Unit → Shared → Prop} {a0 tb ctx c3 c4 : Value} (F : Fr h₀ L s.heap m) (X₀ : K.In h₀) (N : News h₀ L s.heap news)
    (U : Upd x (excO (.ref C) none a0 tb ctx c3 c4) (excO (.ref C) (some s.heap.objs.size) a0 tb ctx c3 c4) news news')
    (hs : findIn K (.ref C) "__setattr__" = some (some (.builtin "object.__setattr__"))) (hp : excMro K C = true) (ht : takerIn K C name = some none) (hh : hasDictIn K C = true)
    (h : ∀ h' d' t' tk', d' = s.heap.objs.size → (∀ p ∈ news, p.1 < d') → Fr h₀ L h' m → News h₀ L h' ((d', dictOf [⟨PyData.keyHash w.params name, .str name t', v⟩] 1) :: news') → Q () { s with heap := h', toks := tk' }) :
    wpAny (model prog w) A (setAttr (.ref x) name v) Q E s := by
  have U' := U
  obtain ⟨pre, post, rfl, rfl, a, b⟩ := U.split
  have X := X₀.keeps F.keep
  have hX : s.heap.get? x = some (excO (.ref C) none a0 tb ctx c3 c4) := (N (x, excO (.ref C) none a0 tb ctx c3 c4) (by simp)).1
  have I : InstAt s.heap x (excO (.ref C) none a0 tb ctx c3 c4) C none := excInst0 hX
  refine setE_plain X I hs (osaE_open (s := { s with toks := s.toks + 1 }) X I hp ht fun bb => ?_)
  obtain ⟨cd, hc, hd'⟩ := any_some hh
  refine wpAny_bind (wpAny_pure (wpAny_bind (wpAny_bind (wpAny_loadPart (s := { s with toks := s.toks + 1 }) hX (wpAny_bind (Looks.here (s := { s with toks := s.toks + 1 }) (looks_clsIn (h := s.heap) X hc) ?_))))))
  rw [hd']
  dsimp only
  have lt : ∀ p ∈ (pre ++ (x, excO (.ref C) none a0 tb ctx c3 c4) :: post), p.1 < s.heap.objs.size := fun p hp => Heap.lt_size (N p hp).1
  have F1 := F.push emptyDict
  have N1 := N.push F emptyDict
  obtain ⟨F2, N2⟩ := news_upd (f := fun o => { o with dict := some s.heap.objs.size }) (pre := (s.heap.objs.size, emptyDict) :: pre) (post := post) (d := x) (o := excO (.ref C) none a0 tb ctx c3 c4) (o' := excO (.ref C) (some s.heap.objs.size) a0 tb ctx c3 c4) F1 N1
    (fun p hp => by rcases List.mem_cons.mp hp with rfl | hp; exact Nat.ne_of_gt (lt (x, excO (.ref C) none a0 tb ctx c3 c4) (by simp)); exact a p hp) b rfl rfl
  have ep : Obj.putName name (PyData.keyHash w.params name) (.str name (s.toks + 1)) v emptyDict = dictOf [⟨PyData.keyHash w.params name, .str name (s.toks + 1), v⟩] 1 := by
    show Obj.putName name (PyData.keyHash w.params name) (.str name (s.toks + 1)) v (dictOf [] 0) = _
    rw [putName_dict]; rfl
  obtain ⟨F3, N3⟩ := news_upd (f := Obj.putName name (PyData.keyHash w.params name) (.str name (s.toks + 1)) v) (pre := []) (post := pre ++ (x, excO (.ref C) (some s.heap.objs.size) a0 tb ctx c3 c4) :: post) (d := s.heap.objs.size) (o := emptyDict) F2 N2
    (fun p hp => nomatch hp) (fun p hp => by
      rcases List.mem_append.mp hp with hp | hp
      · exact Nat.ne_of_lt (lt p (List.mem_append_left _ hp))
      · rcases List.mem_cons.mp hp with rfl | hp
        · exact Nat.ne_of_lt (lt (x, excO (.ref C) none a0 tb ctx c3 c4) (by simp))
        · exact Nat.ne_of_lt (lt p (List.mem_append_right _ (.tail _ hp)))) ep rfl
  have hX1 := (N1 (x, excO (.ref C) none a0 tb ctx c3 c4) (by simp)).1
  have hD := (N2 (s.heap.objs.size, emptyDict) (by simp)).1
  have hD3 := (N3 _ (List.Mem.head _)).1
  refine wpAny_bind (wpAny_alloc (wpAny_bind (wpAny_update hX1 (wpAny_pure (a := some s.heap.objs.size) (wpAny_bind (wpAny_pure (wpAny_bind ?_)))))))
  refine nsSetM (s := { s with heap := _, toks := s.toks + 1 }) hD rfl ?_
  refine wpAny_bind (wpAny_lookBehind hD3 (pastItsLine_dict (by show 1 ≤ sizeLine + 1; exact Nat.le_add_left _ _)) ?_)
  exact wpAny_pure (h _ _ _ _ rfl lt F3 N3)
end
end Mine
end
section
open PySem PySem.W PySem.Calls PyProof.Rows Builtin Builtin.ObjectAttr
set_option maxRecDepth 100000
namespace Mine
theorem bga_kind : builtinKind "BaseException.__getattribute__" = some .slot := by decide +kernel
theorem bga_split : splitId "BaseException.__getattribute__" = some ("BaseException", "__getattribute__") := by decide +kernel
theorem bga_ne : (Value.builtin "BaseException.__getattribute__" == Value.builtin "object.__getattribute__") = false := by decide +kernel

section
variable {prog : Program} {w : World} {A : Around} {E : Value → Shared → Prop} {s : Shared} {K : Frag} {x C : Addr} {ox : Obj} {od : Option Obj} {name : Str} {expr : Bool} {Q : Value → Shared → Prop}
theorem getE_value {v : Value} (X : K.In s.heap) (I : InstAt s.heap x ox C od) (hga : findIn K (.ref C) "__getattribute__" = some (some (.builtin "BaseException.__getattribute__")))
    (hno : findIn K (.ref C) "__getattr__" = some none) (hb : mroIn K C (.type "BaseException") = some true)
    (hf : findObj K C od name = some (.value v)) (hh : handedIn v = true) (h : Q v { s with toks := s.toks + 1 }) : wpAny (model prog w) A (getAttr (.ref x) name expr) Q E s := by
  obtain ⟨hp, g, d, t, os⟩ := s
  have L0 := I.type (M := model prog w)
  have L1 := looks_findIn (M := model prog w) X hga
  have L2 := looks_findIn (M := model prog w) X hno
  have L3 := looks_find (M := model prog w) X I hf
  have L4 : Looks (model prog w) hp (isInstance (.ref x) (.type "BaseException")) true := L0.andThen (looks_mroIn X hb)
  have fb := PySem.F.attr_Exception.ga.bind (.ref x)
  unfold getAttr getAttrBy
  refine wpAny_bind (wpAny_mkText (wpAny_holding (wpAny_bind (L0.at (wpAny_bind (L1.at ?_))))))
  dsimp only
  rw [bga_ne, Bool.and_false, if_neg (by decide)]
  unfold getAttrByItsOwn hookBefore callGetattribute boundAndCalled
  refine wpAny_bind ?_
  rw [if_pos (show onTheHeap (.ref C) = true from rfl)]
  refine L2.at ?_
  refine wpAny_bind (wpAny_attempt (wpAny_holding ?_))
  rw [if_neg (by cases expr <;> decide)]
  rw [fb]
  refine wpAny_bind (wpAny_pure (wpAny_call ?_))
  refine codeAny_call_builtin PySem.F.attr_Exception.ga.plain PySem.F.entry_bexc_ga (@check_slot (model prog w) _ _ _ "BaseException.__getattribute__" "BaseException" "__getattribute__" (.ref x) _ [] _ bga_kind bga_split L4 (PySem.F.args_bexc_ga _ _) ?_)
  refine wpAny_bind (wpAny_pure (wpAny_bind (wpAny_pure (wpAny_bind (L0.at (wpAny_bind (L3.at ?_)))))))
  refine wpAny_pure ?_
  dsimp only
  rw [handedOut_of hh]; exact wpAny_pure h
end
end Mine
end
section
open PySem PySem.W PySem.Calls PyProof.Rows Builtin Builtin.ObjectAttr
set_option maxRecDepth 100000
namespace Mine
theorem wd_type : typeOf (.builtin "Exception.__init__") = pure (.type "wrapper_descriptor") := by show builtinType _ = _; rw [builtinType_eq_fast]; kernel_rfl
theorem wd_slot : Slot "wrapper_descriptor" "__get__" "wrapper_descriptor.__get__" :=
  .of (owner := "wrapper_descriptor") (n := "__get__") (by rw [typeLookup_type, builtinLookup_eq_fast]; kernel_rfl) (by decide +kernel) (by decide +kernel) (by decide +kernel)
    (by first | exact .inl (by decide +kernel) | exact .inr (by decide +kernel)) (by rw [isSubtype_type]; kernel_rfl)
theorem wd_entry : entryFor table "wrapper_descriptor.__get__" = some Builtin.«wrapper_descriptor.__get__» := entryFor_of_tree (by kernel_rfl)
theorem wd_args (a b c : Value) : argsOk "wrapper_descriptor.__get__" ⟨[a, b, c], []⟩ := by unfold argsOk; kernel_rfl
abbrev mwO (x : Addr) : Obj := { cls := .type "method-wrapper", data := .fields #[.builtin "Exception.__init__", .ref x] }

section
variable {prog : Program} {w : World} {A : Around} {E : Value → Shared → Prop} {h : Heap} {g : Array GenState} {d : Drawn} {t : Nat} {os : OsState} {x C : Addr} {R : Result → Shared → Prop}

theorem wd_owner : (".".intercalate ("Exception.__init__".cutAt '.').dropLast) = "Exception" := by decide +kernel
theorem wdGet {dd : Option Addr} {a0 tb ctx c3 c4 : Value} {Q : Value → Shared → Prop} (hx : h.get? x = some (excO (.ref C) dd a0 tb ctx c3 c4)) (hi : Looks (model prog w) h (isSubtype (.ref C) (.type "Exception")) true)
    (hq : Q (.ref h.objs.size) ⟨h.push (mwO x), g, d, t, os⟩) : wpAny (model prog w) A (call (.builtin "wrapper_descriptor.__get__") [.builtin "Exception.__init__", .ref x, .ref C]) Q E ⟨h, g, d, t, os⟩ := by
  refine wpAny_call (codeAny_call_builtin wd_slot.plain wd_entry (wd_slot.check _ _ _ _ _ _ _ _ (by exact wd_type) (wd_args _ _ _) ?_))
  have hi' : Looks (model prog w) h (isSubtype (.ref C) (.type (".".intercalate ("Exception.__init__".cutAt '.').dropLast))) true := by rw [wd_owner]; exact hi
  have ht : Looks (model prog w) h (typeOf (.ref x)) (.ref C) := (Looks.ld hx).andThen .now
  unfold Builtin.«wrapper_descriptor.__get__»
  repeat lk
  exact hq

set_option maxHeartbeats 400000 in
theorem superGa {so : Addr} {l₀ l : List Value} {K : Frag} {tk : Tok} {dd : Option Addr} {a0 tb ctx c3 c4 : Value} {Q : Fin → Shared → Prop}
    (hso : h.get? so = some (ks_superObj C x C)) (hno : Looks (model prog w) h (opaqueClassAbove (.ref C)) none)
    (hC : Looks (model prog w) h (mroOf (.ref C)) l₀) (hl : (l₀.dropWhile (· != .ref C)).drop 1 = l) (X : K.In h)
    (hf : alongIn K "__init__" l = some (some (.builtin "Exception.__init__")))
    (hx : h.get? x = some (excO (.ref C) dd a0 tb ctx c3 c4)) (hi : Looks (model prog w) h (isSubtype (.ref C) (.type "Exception")) true) (hxC : x ≠ C)
    (hq : Q (.done (.ret (.ref h.objs.size))) ⟨h.push (mwO x), g, d, t, os⟩) :
    wpAny (model prog w) A (Builtin.«super.__getattribute__» ⟨[.ref so, .str "__init__" tk], []⟩) Q E ⟨h, g, d, t, os⟩ := by
  have hlk := wd_slot.lookup
  have hne : (Value.ref x == Value.ref C) = false := by simp [hxC]
  have hn : (("__init__" : Str) == ("__class__" : Str)) = false := by decide +kernel
  have hdt : (ks_superObj C x C : Obj).data = .fields #[.ref C, .ref x, .ref C] := rfl
  have f0 : (#[.ref C, .ref x, .ref C] : Array Value)[0]? = some (.ref C) := rfl
  have f1 : (#[.ref C, .ref x, .ref C] : Array Value)[1]? = some (.ref x) := rfl
  have f2 : (#[.ref C, .ref x, .ref C] : Array Value)[2]? = some (.ref C) := rfl
  have ht := wd_type
  unfold Builtin.«super.__getattribute__»
  repeat (first
    | (with_reducible refine wpAny_field hso hdt f0 ?_) | (with_reducible refine wpAny_field hso hdt f1 ?_) | (with_reducible refine wpAny_field hso hdt f2 ?_)
    | (with_reducible refine ks_wpAny_notOpaque hno ?_)
    | (with_reducible refine Looks.at hC ?_; rw [hl])
    | (refine ks_forIn_along X (fun _ _ => rfl) rfl ?_ hf)
    | (with_reducible refine wpAny_of_eq ht ?_)
    | (with_reducible refine wdGet hx hi ?_)
    | (with_reducible refine ⟨_, rfl, ?_⟩)
    | (simp only [hn, hne, Bool.or_false, Bool.false_eq_true, if_false])
    | wp_step
    | dsimp only)
  all_goals exact hq

theorem superMethod {so : Addr} {l₀ l : List Value} {K : Frag} {pl : Sem Bool} {dd : Option Addr} {a0 tb ctx c3 c4 : Value} {Q : Value × List Value → Shared → Prop}
    (hso : h.get? so = some (ks_superObj C x C)) (hno : Looks (model prog w) h (opaqueClassAbove (.ref C)) none)
    (hC : Looks (model prog w) h (mroOf (.ref C)) l₀) (hl : (l₀.dropWhile (· != .ref C)).drop 1 = l) (X : K.In h)
    (hf : alongIn K "__init__" l = some (some (.builtin "Exception.__init__")))
    (hx : h.get? x = some (excO (.ref C) dd a0 tb ctx c3 c4)) (hi : Looks (model prog w) h (isSubtype (.ref C) (.type "Exception")) true) (hxC : x ≠ C)
    (hq : Q (.ref h.objs.size, []) ⟨h.push (mwO x), g, d, t + 1, os⟩) :
    wpAny (model prog w) A (getMethod (.ref so) "__init__" pl) Q E ⟨h, g, d, t, os⟩ := by
  have hlk := PySem.F.ks_slot_super_ga.lookup
  have hcan := PySem.F.ks_canon_super_ga
  have hT : ∀ t', (⟨h, g, d, t', os⟩ : Shared).TypeIs (.ref so) "super" := fun _ => ⟨_, hso, rfl⟩
  unfold getMethod
  refine wpAny_bind (wpAny_specialOf (hT _) hlk ?_)
  show wpAny _ _ (if (Manifest.canonical "super.__getattribute__" != "object.__getattribute__") = true then _ else _) _ _ _
  rw [if_pos hcan]
  unfold getAttr getAttrBy
  refine wpAny_bind (wpAny_bind (wpAny_mkText (wpAny_holding (wpAny_bind (wpAny_typeOf (hT _) (wpAny_bind (wpAny_of_eq hlk ?_)))))))
  show wpAny _ _ (getAttrByItsOwn (.ref so) (.str "__init__" t) (.type "super") (.builtin "super.__getattribute__") true false) _ _ _
  unfold getAttrByItsOwn hookBefore callGetattribute boundAndCalled
  refine wpAny_bind (wpAny_of_eq (show (if onTheHeap (.type "super") then typeLookup (.type "super") "__getattr__" else pure none) = pure none from rfl) ?_)
  refine wpAny_bind (wpAny_attempt (wpAny_holding ?_))
  show wpAny _ _ (bindSpecial (.builtin "super.__getattribute__") (.ref so) >>= _) _ _ _
  refine wpAny_bind (wpAny_of_eq (PySem.F.ks_slot_super_ga.bind _) ?_)
  refine wpAny_mono (Q := fun v s' => v = .ref h.objs.size ∧ s' = ⟨h.push (mwO x), g, d, t + 1, os⟩) (E := fun _ _ => False)
    (wpAny_call_entry PySem.F.ks_slot_super_ga (hT _) PySem.F.ks_entry_super_ga (superGa hso hno hC hl X hf hx hi hxC ⟨_, rfl, rfl, rfl⟩) (PySem.F.ks_gaArgs_super _ _)) (fun v s' hv => ?_) fun _ _ z => z.elim
  obtain ⟨rfl, rfl⟩ := hv
  exact wpAny_pure (wpAny_pure hq)
end
end Mine
end
section
open PySem PySem.W PySem.Calls PyProof.Rows Builtin Builtin.ObjectAttr
set_option maxRecDepth 100000
namespace Mine
section
variable {prog : Program} {w : World} {A : Around} {E : Value → Shared → Prop} {s : Shared} {x C mw : Addr} {R : Result → Shared → Prop}

theorem init_bound {M : Model} {dd : Option Addr} {a0 tb ctx c3 c4 : Value} {rest : List Value} {oc : Obj} {cd : ClassData} {Q : Unit → Shared → Prop}
    (hx : s.heap.get? x = some (excO (.ref C) dd a0 tb ctx c3 c4)) (hc : s.heap.get? C = some oc) (hcd : oc.data = .cls cd)
    (hq : Q () s) : wpAny M A (checkBoundCall "Exception.__init__" ⟨.ref x :: rest, []⟩) Q E s := by
  have F := PySem.F.excBase_Exception
  unfold checkBoundCall
  simp only [F.initRow, F.initKind]
  repeat lk
  rw [hcd]
  simp only [List.map_nil, check_star_args]
  repeat lk
  exact hq

theorem callMw {dd : Option Addr} {t0 : Addr} {tb ctx c3 c4 : Value} {v : Value} {oc : Obj} {cd : ClassData} {Q : Value → Shared → Prop} (hm : s.heap.get? mw = some (mwO x))
    (hx : s.heap.get? x = some (excO (.ref C) dd (.ref t0) tb ctx c3 c4)) (hc : s.heap.get? C = some oc) (hcd : oc.data = .cls cd)
    (hq : Q .none { s with heap := (s.heap.push (tupO [v])).update x (Obj.mapFields (·.setIfInBounds 0 (.ref s.heap.objs.size))) }) :
    wpAny (model prog w) A (call (.ref mw) [v]) Q E s := by
  have F := PySem.F.excBase_Exception
  refine wpAny_call (codeAny_of_tree ?_)
  show wpAny _ _ (callAny (.ref mw) _) _ _ _
  refine nd_load hm ?_
  show wpAny _ _ (checkBoundCall "Exception.__init__" ⟨[.ref x, v], []⟩ >>= fun _ => again (.builtin "Exception.__init__" ⟨[.ref x, v], []⟩)) _ _ _
  refine wpAny_bind (init_bound hx hc hcd (wpAny_pure ⟨Code.quiet_builtin _ (by decide +kernel), codeAny_builtin F.initEntry ?_⟩))
  unfold Builtin.«BaseException.__init__»
  dsimp only
  rw [if_neg (by simp)]
  unfold newTuple Builtin.BaseException.bexcPut
  have he₁ := Heap.get?_push_of_some (h := s.heap) (tupO [v]) hx
  refine wpAny_bind (wpAny_newObj_type (wpAny_bind (wpAny_bind (wpAny_field (x := .ref t0) he₁ rfl rfl (wpAny_bind (wpAny_setField he₁ rfl (by show 0 < 6; decide) ?_))))) (by show 1 ≤ sizeLine; decide))
  exact wpAny_letGo (wpAny_pure hq)
end
end Mine
end
section
open PySem PySem.W PySem.Calls PyProof.Rows Builtin
set_option maxRecDepth 100000
namespace Mine
theorem gives_count4 (x y : Str) (p : Nat) (t u a b : Tok) : Gives («str.count» ⟨[.str x t, .str y u, .int 0 a, .int (p : Int) b], []⟩) (.int (Str.occurrences x y 0 (min p x.length) (x.length + 1)).length) := by
  have e : (max 0 (if (p : Int) < 0 then (p : Int) + x.length else (p : Int))).toNat = p := by split <;> omega
  show Gives (retInt (Str.occurrences x y 0 (min (max 0 (if (p : Int) < 0 then (p : Int) + x.length else (p : Int))).toNat x.length) (x.length + 1)).length) _
  rw [e]
  exact .of_eq rfl
theorem gives_rfind4 (x y : Str) (p : Nat) (t u a b : Tok) : Gives («str.rfind» ⟨[.str x t, .str y u, .int 0 a, .int (p : Int) b], []⟩) (.int (match Str.lastOccurrence x y 0 (min p x.length) with | some i => (i : Int) | none => -1)) := by
  have e : (max 0 (if (p : Int) < 0 then (p : Int) + x.length else (p : Int))).toNat = p := by split <;> omega
  show Gives (match Str.lastOccurrence x y 0 (min (max 0 (if (p : Int) < 0 then (p : Int) + x.length else (p : Int))).toNat x.length) with | some i => retInt i | none => (do rule "str.rfind.not-found"; retInt (-1))) _
  rw [e]
  cases Str.lastOccurrence x y 0 (min p x.length) with
  | none => exact .rule (.of_eq rfl)
  | some k => exact .of_eq rfl
section
variable {prog : Program} {w : World} {A : Around} {E : Value → Shared → Prop} {s : Shared} {x y : Str} {p : Nat} {t u a b : Tok} {Q : Value → Shared → Prop}
theorem str_count4 (h : Q (.int (Str.occurrences x y 0 (min p x.length) (x.length + 1)).length s.toks) { s with toks := s.toks + 1 }) :
    wpAny (model prog w) A (call (.builtin "str.count") [.str x t, .str y u, .int 0 a, .int (p : Int) b]) Q E s :=
  call_gives F.slot_str_count (typeIs_str _ _ _) F.entry_str_count (F.args_str_count_4 _ _ _ _) (gives_count4 x y p t u a b) h
theorem str_rfind4 (h : Q (.int (match Str.lastOccurrence x y 0 (min p x.length) with | some i => (i : Int) | none => -1) s.toks) { s with toks := s.toks + 1 }) :
    wpAny (model prog w) A (call (.builtin "str.rfind") [.str x t, .str y u, .int 0 a, .int (p : Int) b]) Q E s :=
  call_gives F.slot_str_rfind (typeIs_str _ _ _) F.entry_str_rfind (F.args_str_rfind_4 _ _ _ _) (gives_rfind4 x y p t u a b) h
end

theorem typeIs_bytes (s : Shared) (x : Array UInt8) (t : Tok) : s.TypeIs (.bytes x t) "bytes" := rfl
theorem slot_bytes_count : Slot "bytes" "count" "bytes.count" :=
  .of (owner := "bytes") (n := "count") (by rw [typeLookup_type, builtinLookup_eq_fast]; kernel_rfl) (by decide +kernel) (by decide +kernel) (by decide +kernel)
    (by first | exact .inl (by decide +kernel) | exact .inr (by decide +kernel)) (by rw [isSubtype_type]; kernel_rfl)
theorem slot_bytes_rfind : Slot "bytes" "rfind" "bytes.rfind" :=
  .of (owner := "bytes") (n := "rfind") (by rw [typeLookup_type, builtinLookup_eq_fast]; kernel_rfl) (by decide +kernel) (by decide +kernel) (by decide +kernel)
    (by first | exact .inl (by decide +kernel) | exact .inr (by decide +kernel)) (by rw [isSubtype_type]; kernel_rfl)
theorem entry_bytes_count : entryFor table "bytes.count" = some Builtin.«bytes.count» := entryFor_of_tree (by kernel_rfl)
theorem entry_bytes_rfind : entryFor table "bytes.rfind" = some Builtin.«bytes.rfind» := entryFor_of_tree (by kernel_rfl)
theorem args_bytes_count (a b c d : Value) : argsOk "bytes.count" ⟨[a, b, c, d], []⟩ := by unfold argsOk; kernel_rfl
theorem args_bytes_rfind (a b c d : Value) : argsOk "bytes.rfind" ⟨[a, b, c, d], []⟩ := by unfold argsOk; kernel_rfl
theorem bsearch (nm : String) (x y : Array UInt8) (p : Int) (t u a b : Tok) : Bytes.searchArgs .bytes nm ⟨[.bytes x t, .bytes y u, .int 0 a, .int p b], []⟩ =
    pure (x, y, if (Bytes.window x.size (some 0) (some p)).2 - (Bytes.window x.size (some 0) (some p)).1 < y.size then none else some ((Bytes.window x.size (some 0) (some p)).1.toNat, (Bytes.window x.size (some 0) (some p)).2.toNat)) := by
  kernel_rfl
theorem bwin (n p : Nat) (hp : p ≤ n) : Bytes.window n (some 0) (some (p : Int)) = (0, (p : Int)) := by
  unfold Bytes.window
  simp
  omega
theorem gives_bcount4 (x y : Array UInt8) (p : Nat) (t u a b : Tok) (hp : p ≤ x.size) (hy : y.size = 1) : Gives («bytes.count» ⟨[.bytes x t, .bytes y u, .int 0 a, .int (p : Int) b], []⟩) (.int (if p = 0 then 0 else (Bytes.occurrences x y 0 p).length)) := by
  unfold «bytes.count» Bytes.countM
  rw [bsearch, bwin _ _ hp]
  have hn : y.isEmpty = false := by simp [Array.isEmpty, hy]
  by_cases h0 : p = 0
  · subst h0
    simp only [Int.sub_zero, hy]
    exact .of_eq rfl
  · rw [if_neg (by rw [hy]; omega), if_neg h0]
    show Gives (if y.isEmpty = true then _ else _) _
    rw [hn]
    exact .of_eq rfl
theorem gives_brfind4 (x y : Array UInt8) (p : Nat) (t u a b : Tok) (hp : p ≤ x.size) (hy : y.size = 1) : Gives («bytes.rfind» ⟨[.bytes x t, .bytes y u, .int 0 a, .int (p : Int) b], []⟩)
    (.int (if p = 0 then -1 else match Bytes.rfind? x y 0 p with | some i => (i : Int) | none => -1)) := by
  unfold «bytes.rfind» Bytes.searchM
  rw [bsearch, bwin _ _ hp]
  by_cases h0 : p = 0
  · subst h0
    simp only [Int.sub_zero, hy]
    exact .rule (.of_eq rfl)
  · rw [if_neg (by rw [hy]; omega), if_neg h0]
    show Gives (match Bytes.rfind? x y 0 p with | some i => retInt i | none => (do rule _; retInt (-1))) _
    cases Bytes.rfind? x y 0 p with
    | none => exact .rule (.of_eq rfl)
    | some k => exact .of_eq rfl
section
variable {prog : Program} {w : World} {A : Around} {E : Value → Shared → Prop} {s : Shared} {x y : Array UInt8} {p : Nat} {t u a b : Tok} {Q : Value → Shared → Prop}
theorem bytes_count4 (hp : p ≤ x.size) (hy : y.size = 1) (h : Q (.int (if p = 0 then 0 else (Bytes.occurrences x y 0 p).length) s.toks) { s with toks := s.toks + 1 }) :
    wpAny (model prog w) A (call (.builtin "bytes.count") [.bytes x t, .bytes y u, .int 0 a, .int (p : Int) b]) Q E s :=
  call_gives slot_bytes_count (typeIs_bytes _ _ _) entry_bytes_count (args_bytes_count _ _ _ _) (gives_bcount4 x y p t u a b hp hy) h
theorem bytes_rfind4 (hp : p ≤ x.size) (hy : y.size = 1) (h : Q (.int (if p = 0 then -1 else match Bytes.rfind? x y 0 p with | some i => (i : Int) | none => -1) s.toks) { s with toks := s.toks + 1 }) :
    wpAny (model prog w) A (call (.builtin "bytes.rfind") [.bytes x t, .bytes y u, .int 0 a, .int (p : Int) b]) Q E s :=
  call_gives slot_bytes_rfind (typeIs_bytes _ _ _) entry_bytes_rfind (args_bytes_rfind _ _ _ _) (gives_brfind4 x y p t u a b hp hy) h
end
end Mine
end
section
open PySem PySem.W PySem.Calls PyProof.Rows
set_option maxRecDepth 100000
namespace Mine

theorem enterS {prog : Program} {w : World} {A : Around} {R : Result → Shared → Prop} {s : Shared} {K : Frag}
    {name qual : Str} {params : Arguments} {body : List Stmt} {scope : Scope} {dV kV doc pm cdv ct oc : Value} {an od : Option Addr} {osl : Array (Option Value)} {f cc : Addr} {args : Args} {binds : List (Str × Value)}
    (hid : List Addr)
    (X : K.In s.heap) (hlim : s.heap.NoLimit)
    (ho : K.lookup f = some ⟨oc, od, .func (ksFn name qual params body scope dV kV doc pm an cdv ct cc), osl⟩) (hcd : codeIn K cdv qual = true) (hroom : A.depth < recursionLimit)
    (hbind : BindsTo s (ksFn name qual params body scope dV kV doc pm an cdv ct cc) args binds) (hloc : ∀ y ∈ binds, scope.names.lookup y.1 = some .local)
    (h : ∀ L' h₁, L' = s.heap.objs.size → Fr (hideAll s.heap hid) L' h₁ (fun y => binds.reverse.lookup y) → s.heap.StaysIn h₁ → ∀ (Q : Flow → Shared → Prop) (E : Value → Shared → Prop),
      (∀ fl s', R (.ok (.ret (match fl with | .ret v => v | _ => .none))) s' → Q fl s') →
      (∀ e s', wpAny (model prog w) (A.deeper (ksEnv qual scope L' f cdv cc)) (leaving (ksEnv qual scope L' f cdv cc) e) (fun _ s'' => R (.error e) s'') (fun e' s'' => R (.error e') s'') s' → E e s') →
      _root_.PySem.wpAt (model prog w) (A.deeper (ksEnv qual scope L' f cdv cc)) (.func body (ksEnv qual scope L' f cdv cc)) (execs body (ksEnv qual scope L' f cdv cc)) Q E { s with heap := h₁, toks := s.toks + binds.length })
    (hco : scope.isCoroutine = false := by rfl) (hgen : scope.isGenerator = false := by rfl) (hk : scope.kind = .function := by rfl)
    (hcell : ∀ x ∈ scope.names, x.2 ≠ .cell := by decide) : codeAny (model prog w) A (.call (.ref f) args) R s := by
  refine ks_codeAny_call_defAt (fd := ksFn name qual params body scope dV kV doc pm an cdv ct cc) (body := body) (binds := binds) hroom (X _ _ ho) rfl hlim (codeRec_of X hcd) rfl hbind hcell hloc (fun h₁ hns hk₁ => ?_) hco hgen hk
  exact h _ h₁ rfl ⟨hns, fun b o e => hk₁ b o (of_hideAll _ e), Nat.le_of_eq (hideAll_size _ _)⟩ hk₁ _ _ (fun _ _ q => q) (fun _ _ q => q)
end Mine
end
section
open PySem PySem.Builtin PySem.Builtin.Str PySem.StrLaws
set_option maxRecDepth 100000
namespace Mine

/-- the places of the line ends ahead of p -/
def nls (u : List Nat) (p : Nat) : List Nat := (List.range p).filter fun i => u[i]? == some 10
def nlc (u : List Nat) (p : Nat) : Nat := (nls u p).length
def colN (u : List Nat) (p : Nat) : Nat := match (nls u p).getLast? with
  | none => p + 1
  | some i => p - i
abbrev NL : Str := Str.ofString "\n"
theorem NL_eq : NL = ⟨#[10]⟩ := by decide +kernel

theorem subAt_NL (s : Str) (i : Nat) : subAt s NL i = (s.cps.toList[i]? == some 10) := by
  rw [subAt_eq, NL_eq]
  show ((s.cps.toList.drop i).take 1 == [10]) = _
  cases h : s.cps.toList.drop i with
  | nil =>
    have : s.cps.toList[i]? = none := by
      rw [List.drop_eq_nil_iff] at h
      exact List.getElem?_eq_none h
    rw [this]; rfl
  | cons a r =>
    have : s.cps.toList[i]? = some a := by
      have := congrArg List.head? h
      rw [List.head?_drop] at this
      exact this
    rw [this]
    simp

theorem nls_succ (u : List Nat) (p : Nat) : nls u (p + 1) = nls u p ++ (if u[p]? == some 10 then [p] else []) := by
  unfold nls
  rw [List.range_succ, List.filter_append]
  congr 1
  simp only [List.filter_cons, List.filter_nil]
theorem nls_lt {u : List Nat} {p i : Nat} (h : i ∈ nls u p) : i < p := by
  unfold nls at h
  exact List.mem_range.mp (List.mem_filter.mp h).1
theorem nls_length_le (u : List Nat) (p : Nat) : (nls u p).length ≤ p := by
  unfold nls
  exact Nat.le_trans (List.length_filter_le _ _) (by simp)
theorem nls_take (u : List Nat) (p : Nat) : nls (u.take p) p = nls u p := by
  unfold nls
  refine List.filter_congr fun i hi => ?_
  have := List.mem_range.mp hi
  rw [List.getElem?_take_of_lt this]

/-- the scan -/
theorem occ_run (s : Str) (hi limit : Nat) (hl : hi < limit) : ∀ (n lo : Nat) (acc : List Nat) (free : Nat), acc.length ≤ lo → free ≤ lo → lo + n = hi + 1 →
    (forIn (List.range' lo n) (acc.toArray, free) (occBody s NL hi limit)).run.fst.toList = acc ++ ((List.range' lo n).filter fun i => decide (i < hi) && s.cps.toList[i]? == some 10)
  | 0, lo, acc, free, _, _, _ => by simp
  | n + 1, lo, acc, free, ha, hf, hn => by
    rw [List.range'_succ, List.forIn_cons, List.filter_cons]
    unfold occBody
    have hlen : NL.length = 1 := by rw [NL_eq]; rfl
    by_cases hc : lo < hi ∧ (s.cps.toList[lo]? == some 10) = true
    · have c1 : (((acc.toArray, free) : Array Nat × Nat).fst.size < limit ∧ ((acc.toArray, free) : Array Nat × Nat).snd ≤ lo) ∧ lo + NL.length ≤ hi := by
        rw [hlen]
        refine ⟨⟨?_, hf⟩, hc.1⟩
        show acc.toArray.size < limit
        rw [List.size_toArray]; omega
      rw [if_pos ⟨c1, by rw [subAt_NL]; exact hc.2⟩]
      have ih := occ_run s hi limit hl n (lo + 1) (acc ++ [lo]) (lo + NL.length) (by simp; omega) (by rw [hlen]; exact Nat.le_refl _) (by omega)
      rw [if_pos (by simp [hc.1]; simpa using hc.2)]
      rw [show acc ++ lo :: List.filter (fun i => decide (i < hi) && s.cps.toList[i]? == some 10) (List.range' (lo + 1) n) = (acc ++ [lo]) ++ List.filter (fun i => decide (i < hi) && s.cps.toList[i]? == some 10) (List.range' (lo + 1) n) from by simp]
      rw [← ih]
      simp only [List.push_toArray]
      rfl
    · have c2 : ¬ ((((acc.toArray, free) : Array Nat × Nat).fst.size < limit ∧ ((acc.toArray, free) : Array Nat × Nat).snd ≤ lo) ∧ lo + NL.length ≤ hi) ∨ ¬ subAt s NL lo = true := by
        rw [hlen, subAt_NL]
        by_cases h1 : lo < hi
        · exact .inr fun h2 => hc ⟨h1, h2⟩
        · exact .inl fun h2 => h1 h2.2
      rw [if_neg (fun h => c2.elim (fun a => a h.1) fun a => a h.2)]
      have ih := occ_run s hi limit hl n (lo + 1) acc free (by omega) (by omega) (by omega)
      rw [if_neg (by simp; intro h1 h2; exact hc ⟨h1, by simpa using h2⟩)]
      rw [← ih]
      rfl

theorem range'_filter_lt (f : Nat → Bool) (hi : Nat) : (List.range' 0 (hi + 1)).filter (fun i => decide (i < hi) && f i) = (List.range hi).filter f := by
  rw [← List.range_eq_range', List.range_succ, List.filter_append]
  simp only [List.filter_cons, Nat.lt_irrefl, decide_false, Bool.false_and, List.filter_nil, List.append_nil, Bool.false_eq_true, if_false]
  refine List.filter_congr fun i hi' => ?_
  rw [decide_eq_true (List.mem_range.mp hi'), Bool.true_and]

theorem occ_NL (s : Str) (hi limit : Nat) (hl : hi < limit) : occurrences s NL 0 hi limit = nls s.cps.toList hi := by
  rw [occ_eq]
  have := occ_run s hi limit hl (hi + 1) 0 [] 0 (by simp) (Nat.le_refl _) (by omega)
  rw [show hi + 1 - 0 = hi + 1 from rfl]
  refine this.trans ?_
  rw [List.nil_append, range'_filter_lt]
  rfl

theorem last_run' (s : Str) (hi : Nat) : ∀ (l : List Nat) (st : Option Nat),
    (forIn l st (lastBody s NL hi)).run = ((l.filter fun i => decide (i < hi) && s.cps.toList[i]? == some 10).getLast?).or st
  | [], st => by simp
  | a :: l, st => by
    rw [List.forIn_cons, List.filter_cons]
    unfold lastBody
    have hlen : NL.length = 1 := by rw [NL_eq]; rfl
    by_cases hc : a < hi ∧ (s.cps.toList[a]? == some 10) = true
    · rw [if_pos ⟨by rw [hlen]; exact hc.1, by rw [subAt_NL]; exact hc.2⟩, if_pos (by simp [hc.1]; simpa using hc.2)]
      refine (last_run' s hi l (some a)).trans ?_
      rw [List.getLast?_cons]
      cases (List.filter (fun i => decide (i < hi) && s.cps.toList[i]? == some 10) l).getLast? <;> rfl
    · rw [if_neg (by rw [hlen, subAt_NL]; exact fun h => hc h), if_neg (by simp; intro h1 h2; exact hc ⟨h1, by simpa using h2⟩)]
      exact last_run' s hi l st

theorem last_NL (s : Str) (hi : Nat) : lastOccurrence s NL 0 hi = (nls s.cps.toList hi).getLast? := by
  rw [last_eq]
  refine (last_run' s hi _ none).trans ?_
  rw [show hi + 1 - 0 = hi + 1 from rfl, range'_filter_lt, Option.or_none]
  rfl

theorem rfind_col (u : List Nat) (p : Nat) : (match (nls u p).getLast? with | some i => (i : Int) | none => -1) = (p : Int) - colN u p := by
  unfold colN
  cases h : (nls u p).getLast? with
  | none => simp; omega
  | some i =>
    have := nls_lt (List.mem_of_getLast? h)
    simp only; omega
theorem col_le (u : List Nat) (p : Nat) : colN u p ≤ p + 1 := by
  unfold colN
  cases (nls u p).getLast? <;> simp
  omega
end Mine
end
section
open PySem PySem.Builtin PySem.StrLaws
set_option maxRecDepth 100000
namespace Mine

theorem bext (b : Array UInt8) (i : Nat) : (b.extract i (i + 1) == #[10]) = (b[i]? == some 10) := by
  have e : (b.extract i (i + 1)).toList = (b.toList.drop i).take 1 := by simp
  have : (b.extract i (i + 1) == #[10]) = ((b.toList.drop i).take 1 == [10]) := by
    rw [Bool.eq_iff_iff, beq_iff_eq, beq_iff_eq, ← e]
    exact ⟨fun h => by rw [h], fun h => Array.toList_inj.mp h⟩
  rw [this]
  cases h : b.toList.drop i with
  | nil =>
    have : b[i]? = none := by
      rw [List.drop_eq_nil_iff] at h
      rw [← Array.getElem?_toList]; exact List.getElem?_eq_none h
    rw [this]; rfl
  | cons a r =>
    have : b[i]? = some a := by
      have := congrArg List.head? h
      rw [List.head?_drop] at this
      rw [← Array.getElem?_toList]; exact this
    rw [this]
    simp

theorem bocc_run (b : Array UInt8) : ∀ (n : Nat), (((List.range n).map (· + 0)).foldl (fun (acc : List Nat × Nat) (i : Nat) => if i ≥ acc.2 && b.extract i (i + (#[10] : Array UInt8).size) == #[10] then (i :: acc.1, i + (#[10] : Array UInt8).size) else acc) ([], 0)) =
    (((List.range n).filter fun i => b[i]? == some 10).reverse, match ((List.range n).filter fun i => b[i]? == some 10).getLast? with | some i => i + 1 | none => 0)
  | 0 => rfl
  | n + 1 => by
    rw [List.range_succ, List.map_append, List.foldl_append, bocc_run b n, List.filter_append]
    have hle : (match ((List.range n).filter fun i => b[i]? == some 10).getLast? with | some i => i + 1 | none => 0) ≤ n := by
      cases h : ((List.range n).filter fun i => b[i]? == some 10).getLast? with
      | none => exact Nat.zero_le _
      | some i =>
        have := List.mem_range.mp (List.mem_filter.mp (List.mem_of_getLast? h)).1
        exact this
    simp only [List.map_cons, List.map_nil, Nat.add_zero, List.foldl_cons, List.foldl_nil]
    simp only [ge_iff_le, decide_eq_true hle, Bool.true_and]
    rw [show (b.extract n (n + (#[10] : Array UInt8).size) == #[10]) = (b[n]? == some 10) from bext b n]
    by_cases hc : (b[n]? == some 10) = true
    · rw [if_pos hc]
      simp only [List.filter_cons, hc, if_true, List.filter_nil, List.reverse_append, List.reverse_cons, List.reverse_nil, List.nil_append, List.singleton_append, List.getLast?_append, List.getLast?_singleton, Option.some_or]
      rfl
    · rw [if_neg hc]
      simp only [List.filter_cons, hc, if_false, List.filter_nil, List.append_nil, Bool.false_eq_true]

theorem bocc_NL (b : Array UInt8) (u : List Nat) (hb : ∀ i : Nat, (b[i]? == some 10) = (u[i]? == some 10)) (p : Nat) : Bytes.occurrences b #[10] 0 p = nls u p := by
  unfold Bytes.occurrences
  dsimp only
  rw [show p + 1 - (0 + (#[10] : Array UInt8).size) = p from by show p + 1 - (0 + 1) = p; omega]
  rw [bocc_run]
  simp only [List.reverse_reverse]
  unfold nls
  exact List.filter_congr fun i _ => hb i

theorem find_rev {α : Type} (f : α → Bool) : ∀ l : List α, l.reverse.find? f = (l.filter f).getLast?
  | [] => rfl
  | a :: l => by
    rw [List.reverse_cons, List.find?_append, find_rev f l, List.filter_cons]
    by_cases h : f a = true
    · rw [if_pos h, List.getLast?_cons]
      cases (List.filter f l).getLast? with
      | none => simp [h]
      | some b => rfl
    · rw [if_neg h]
      cases (List.filter f l).getLast? with
      | none => simp [h]
      | some b => rfl

theorem brfind_NL (b : Array UInt8) (u : List Nat) (hb : ∀ i : Nat, (b[i]? == some 10) = (u[i]? == some 10)) (p : Nat) : Bytes.rfind? b #[10] 0 p = (nls u p).getLast? := by
  unfold Bytes.rfind?
  rw [show p + 1 - (0 + (#[10] : Array UInt8).size) = p from by show p + 1 - (0 + 1) = p; omega, find_rev]
  rw [show ((List.range p).map (· + 0)) = List.range p from by simp]
  refine congrArg List.getLast? ?_
  unfold nls
  refine List.filter_congr fun i _ => ?_
  rw [← hb]
  exact bext b i

/-- the rows of the text ahead of p -/
theorem parts_len (s : Str) (cuts : List Nat) : (Str.partsBetween s cuts 1).length = cuts.length + 1 := by
  unfold Str.partsBetween
  simp
theorem parts_last (s : Str) (cuts : List Nat) : (Str.partsBetween s cuts 1).getLast? = some (Str.strSub s (match cuts.getLast? with | some i => i + 1 | none => 0) s.length) := by
  unfold Str.partsBetween
  simp only [List.getLast?_map]
  have : ((0 :: cuts.map (· + 1)).zip (cuts ++ [s.length])).getLast? = some ((match cuts.getLast? with | some i => i + 1 | none => 0), s.length) := by
    rcases List.eq_nil_or_concat cuts with rfl | ⟨c, i, rfl⟩
    · rfl
    · have e1 : (0 :: (c ++ [i]).map (· + 1)) = (0 :: c.map (· + 1)) ++ [i + 1] := by simp
      rw [List.concat_eq_append, e1, List.zip_append (by simp)]
      simp
  rw [this]; rfl
end Mine
end
section
open PySem PySem.W PySem.Calls PyProof.Rows Builtin
set_option maxRecDepth 100000
namespace Mine
section
variable {prog : Program} {w : World} {A : Around} {E : Value → Shared → Prop} {s : Shared} {x : Str} {p : Nat} {t u a b : Tok} {Q : Value → Shared → Prop}
theorem count_nl (hp : p ≤ x.length) (h : ∀ t' k, Q (.int (nlc x.cps.toList p) t') { s with toks := k }) :
    wpAny (model prog w) A (call (.builtin "str.count") [.str x t, .str (Str.ofString "\n") u, .int 0 a, .int (p : Int) b]) Q E s := by
  refine str_count4 ?_
  rw [Nat.min_eq_left hp, occ_NL x p _ (Nat.lt_succ_of_le hp)]
  exact h _ _
theorem rfind_nl (hp : p ≤ x.length) (h : ∀ t' k, Q (.int ((p : Int) - colN x.cps.toList p) t') { s with toks := k }) :
    wpAny (model prog w) A (call (.builtin "str.rfind") [.str x t, .str (Str.ofString "\n") u, .int 0 a, .int (p : Int) b]) Q E s := by
  refine str_rfind4 ?_
  rw [Nat.min_eq_left hp, last_NL x p]
  exact (congrArg (fun z => Q (.int z s.toks) { s with toks := s.toks + 1 }) (rfind_col x.cps.toList p)).mpr (h _ _)
theorem in_nl (h : Q (.bool (decide (10 ∈ x.cps.toList))) s) : wpAny (model prog w) A (compareOp .In (.str (Str.ofString "\n") u) (.str x t)) Q E s := by
  refine in_str ?_
  have := StrLaws.found_one x 10
  rw [← NL_eq] at this
  rw [this]; exact h
variable {B : Array UInt8} {v : List Nat}
theorem bcount_nl (hp : p ≤ B.size) (hb : ∀ i : Nat, (B[i]? == some 10) = (v[i]? == some 10)) (h : ∀ t' k, Q (.int (nlc v p) t') { s with toks := k }) :
    wpAny (model prog w) A (call (.builtin "bytes.count") [.bytes B t, .bytes #[10] u, .int 0 a, .int (p : Int) b]) Q E s := by
  refine bytes_count4 hp rfl ?_
  have e : (if p = 0 then 0 else ((Bytes.occurrences B #[10] 0 p).length : Int)) = nlc v p := by
    rw [bocc_NL B v hb p]
    split
    · rename_i h; subst h; rfl
    · rfl
  rw [e]
  exact h _ _
theorem brfind_nl (hp : p ≤ B.size) (hb : ∀ i : Nat, (B[i]? == some 10) = (v[i]? == some 10)) (h : ∀ t' k, Q (.int ((p : Int) - colN v p) t') { s with toks := k }) :
    wpAny (model prog w) A (call (.builtin "bytes.rfind") [.bytes B t, .bytes #[10] u, .int 0 a, .int (p : Int) b]) Q E s := by
  refine bytes_rfind4 hp rfl ?_
  rw [brfind_NL B v hb p]
  have e : (if p = 0 then (-1 : Int) else (p : Int) - colN v p) = (p : Int) - colN v p := by
    split
    · rename_i h; subst h; rfl
    · rfl
  refine (congrArg (fun z => Q (.int (if p = 0 then (-1 : Int) else z) s.toks) { s with toks := s.toks + 1 }) (rfind_col v p)).mpr ?_
  rw [e]; exact h _ _
end
def peMsg (u : List Nat) (p : Nat) : Str :=
  if 10 ∈ u then Str.ofString "bad escape (end of pattern)" ++ Str.ofString " at position " ++ Str.ofString (toString (p : Int)) ++ Str.ofString " (line " ++ Str.ofString (toString ((nlc u p : Int) + 1)) ++ Str.ofString ", column " ++ Str.ofString (toString ((p : Int) - ((p : Int) - (colN u p : Int)))) ++ Str.ofString ")"
  else Str.ofString "bad escape (end of pattern)" ++ Str.ofString " at position " ++ Str.ofString (toString (p : Int))
end Mine
end
section
open PySem PySem.W PySem.Calls PyProof.Rows Builtin
set_option maxRecDepth 100000
namespace Mine
def MwP (q x : Addr) (h : Heap) : Prop := h.get? q = some (mwO x)
section
variable {prog : Program} {w : World} {A : Around} {E : Value → Shared → Prop} {s : Shared} {K : Frag} {x C q so L : Addr} {h₀ : Heap} {m : Str → Option Value} {news news' : List (Addr × Obj)} {dd : Option Addr} {a0 tb ctx c3 c4 v : Value} {env : Env} {pos : Pos} {cd : ClassData}

theorem superMethodN {pl : Sem Bool} {Q : Value × List Value → Shared → Prop} (F : Fr h₀ L s.heap m) (X₀ : K.In h₀) (N : News h₀ L s.heap news) (hso : (so, ks_superObj C x C) ∈ news) (hx : (x, excO (.ref C) dd a0 tb ctx c3 c4) ∈ news)
    (ho : nsIn K cStatics "thirdparty.any" = some none) (hc : clsIn K C = some cd) (hm : alongIn K "__init__" ((cd.mro.dropWhile (· != .ref C)).drop 1) = some (some (.builtin "Exception.__init__")))
    (hi : mroIn K C (.type "Exception") = some true)
    (h : ∀ q h' tk', Fr h₀ L h' m → News h₀ L h' ((q, mwO x) :: news) → (∀ p ∈ news, p.1 < q) → Q (.ref q, []) { s with heap := h', toks := tk' }) : wpAny (model prog w) A (getMethod (.ref so) "__init__" pl) Q E s := by
  have X : K.In s.heap := X₀.keeps F.keep
  obtain ⟨hh, g, d, t, os⟩ := s
  have hxh := (N _ hx).1
  have hxC : x ≠ C := by
    rintro rfl
    unfold clsIn at hc
    split at hc
    · rename_i c d cd' sl ho'
      have e := X _ _ ho'
      rw [hxh] at e
      cases e
    · cases hc
  refine superMethod (N _ hso).1 (looks_opaque X ho) (l₀ := cd.mro) ?_ rfl X hm hxh (looks_mroIn X hi) hxC ?_
  · exact fun A Q E s k q => wpAny_bind ((looks_clsIn X hc) A _ E s k (wpAny_pure q))
  · obtain ⟨F', N', l'⟩ := ks_newsPush (s := ⟨hh, g, d, t, os⟩) (o := mwO x) F N rfl (Heap.get?_push_at rfl rfl) (fun b o e => Heap.get?_push_of_some _ e)
    exact h _ _ _ F' N' l'

theorem callWith_mw {e : Expr} {rest : List Expr} {Q : Value → Shared → Prop} {M : Model} (_N : News h₀ L s.heap news) (_hq : (q, mwO x) ∈ news)
    (h : wpAny M A (spliced (backTo pos (starEach (e :: rest) env))) (fun vs s₁ => MwP q x s₁.heap ∧ wpAny M A (call (.ref q) ([] ++ vs)) Q E s₁) E s)
    (he : starEach (e :: rest) env = (false, eval e env) :: starEach rest env := by rfl) (hplain : (backTo pos (starEach rest env)).any (·.1) = false := by rfl) :
    wpAny M A (callWith pos (.ref q) [] (backTo pos (starEach (e :: rest) env)) []) Q E s := by
  rw [he] at h ⊢
  exact callWith_of (P := MwP q x) (by show ((false || (backTo pos (starEach rest env)).any (·.1)) || false) = false; rw [hplain]; rfl) (fun h hP => ⟨.machine, .inr (.inl rfl), (Looks.ld (part := none) hP).andThen .now⟩) (evalArgs_plain h)

theorem callMwN {t0 : Addr} {Q : Value → Shared → Prop} (F : Fr h₀ L s.heap m) (X₀ : K.In h₀) (N : News h₀ L s.heap news) (hq : (q, mwO x) ∈ news) (hc : isClsIn K C = true)
    (U : Upd x (excO (.ref C) dd (.ref t0) tb ctx c3 c4) (excO (.ref C) dd (.ref s.heap.objs.size) tb ctx c3 c4) news news')
    (h : ∀ h' b, b = s.heap.objs.size → (∀ p ∈ news, p.1 < b) → Fr h₀ L h' m → News h₀ L h' ((b, tupO [v]) :: news') → Q .none { s with heap := h' }) :
    wpAny (model prog w) A (call (.ref q) [v]) Q E s := by
  have X : K.In s.heap := X₀.keeps F.keep
  have U' := U
  obtain ⟨pre, post, rfl, rfl, a, b⟩ := U.split
  have hX : s.heap.get? x = some (excO (.ref C) dd (.ref t0) tb ctx c3 c4) := (N (x, excO (.ref C) dd (.ref t0) tb ctx c3 c4) (by simp)).1
  have lt : ∀ p ∈ (pre ++ (x, excO (.ref C) dd (.ref t0) tb ctx c3 c4) :: post), p.1 < s.heap.objs.size := fun p hp => Heap.lt_size (N p hp).1
  have F1 := F.push (tupO [v])
  have N1 := N.push F (tupO [v])
  obtain ⟨F2, N2⟩ := news_upd (f := Obj.mapFields (·.setIfInBounds 0 (.ref s.heap.objs.size))) (pre := (s.heap.objs.size, tupO [v]) :: pre) (post := post) (d := x) (o := excO (.ref C) dd (.ref t0) tb ctx c3 c4) (o' := excO (.ref C) dd (.ref s.heap.objs.size) tb ctx c3 c4) F1 N1
    (fun p hp => by rcases List.mem_cons.mp hp with rfl | hp; exact Nat.ne_of_gt (lt (x, excO (.ref C) dd (.ref t0) tb ctx c3 c4) (by simp)); exact a p hp) b rfl rfl
  obtain ⟨oc, cd, hoc, hcd⟩ : ∃ oc cd, s.heap.get? C = some oc ∧ oc.data = .cls cd := by
    unfold isClsIn clsIn at hc
    split at hc
    · rename_i c d cd' sl ho'
      exact ⟨_, cd', X _ _ ho', rfl⟩
    · cases hc
  exact callMw (N _ hq).1 hX hoc hcd (h _ _ rfl lt F2 N2)

theorem superNode {body : List Stmt} {qn : Str} {scope : Scope} {p0 p1 : Pos} {whole : Sem Value} {f cc cda dx : Addr} {fd : FuncData} {ar : Arg} {vs : Array Value} {file : Str} {tf : Tok} {oc ccl cl : Value} {od cdd cld : Option Addr} {osl ccs csl : Array (Option Value)} {cdD : ClassData} {p : Program} {loose : List Str} {mean : ExcName → Option Value} {mg mb : Str → Option Value} {es : List DictEntry} {n : Nat} {Q : Value → Shared → Prop}
    (F : Fr h₀ L s.heap m) (X₀ : K.In h₀) (N : News h₀ L s.heap news) (T : Top p loose mean mg mb h₀)
    (hf : K.lookup f = some ⟨oc, od, .func fd, osl⟩) (hp : (fd.params.posonlyargs ++ fd.params.args).head? = some ar) (hv : m ar.arg = some (.ref x)) (hx : (x, excO (.ref C) (some dx) a0 tb ctx c3 c4) ∈ news) (hdx : (dx, dictOf es n) ∈ news)
    (hcode : K.lookup cda = some ⟨ccl, cdd, .fields vs, ccs⟩) (hvs : vs[2]? = some (.str file tf)) (hfile : ((prog.main.file : Str) == file) = true)
    (hcell : K.lookup cc = some ⟨cl, cld, .cell (some (.ref C)), csl⟩) (hD : clsIn K C = some cdD) (hsub : mroIn K C (.ref C) = some true) (hsuper : nsIn K mainGlobals "super" = some none)
    (hks : scope.names.lookup ("super" : Str) = some .globalImplicit) (hkc : scope.names.lookup ("__class__" : Str) = some .free) (hka : scope.names.lookup ar.arg = some .local) (hk : scope.kind = .function)
    (htop : (prog.main.scope.names.lookup ("super" : Str)).isSome = false) (hboot : bootBuiltins "super" = some (.type "super"))
    (h : ∀ so h', Fr h₀ L h' m → News h₀ L h' ((so, ks_superObj C x C) :: news) → (∀ p ∈ news, p.1 < so) → Q (.ref so) { s with heap := h' }) :
    _root_.PySem.wpAt (model prog w) A (.func body (ksEnv qn scope L f (.ref cda) cc)) (attributeBase (.Call (.Name "super" p0) [] [] p1) "__init__" (ksEnv qn scope L f (.ref cda) cc) whole) Q E s :=
  ks_node F X₀ N T hf hp hv (excInst1 (News.get N hx) (News.get N hdx)) hcode hvs hfile hcell hD hsub hsuper (by decide +kernel) hks hkc hka hk htop hboot h
theorem getE_own {dx : Addr} {es : List DictEntry} {n : Nat} {name : Str} {expr : Bool} {attr : Option Value} {Q : Value → Shared → Prop} (F : Fr h₀ L s.heap m) (X₀ : K.In h₀) (N : News h₀ L s.heap news) (hx : (x, excO (.ref C) (some dx) a0 tb ctx c3 c4) ∈ news) (hdx : (dx, dictOf es n) ∈ news)
    (hga : findIn K (.ref C) "__getattribute__" = some (some (.builtin "BaseException.__getattribute__")))
    (hno : findIn K (.ref C) "__getattr__" = some none) (hb : mroIn K C (.type "BaseException") = some true)
    (hh : hasDictIn K C = true) (ha : findIn K (.ref C) name = some attr) (hn : noGet K attr = true) (hl : getL name es = some (some v)) (hv : handedIn v = true) (h : ∀ k, Q v { s with toks := k }) :
    wpAny (model prog w) A (getAttr (.ref x) name expr) Q E s :=
  getE_value (X₀.keeps F.keep) (excInst1 (News.get N hx) (News.get N hdx)) hga hno hb (findObj_own hh ha hn hl) hv (h _)
end
end Mine
end
section
open PySem PySem.W PySem.Calls PyProof.Rows Builtin
set_option maxRecDepth 100000
namespace Mine
theorem bfind_NL (b : Array UInt8) (u : List Nat) (hb : ∀ i : Nat, (b[i]? == some 10) = (u[i]? == some 10)) : (Bytes.find? b #[10] 0 b.size).isSome = decide (10 ∈ u) := by
  unfold Bytes.find?
  rw [show b.size + 1 - (0 + (#[10] : Array UInt8).size) = b.size from by show b.size + 1 - (0 + 1) = b.size; omega]
  rw [Bool.eq_iff_iff, List.find?_isSome, decide_eq_true_iff]
  constructor
  · rintro ⟨i, hi, e⟩
    have e' : (b[i]? == some 10) = true := by rw [← bext]; exact e
    rw [hb i, beq_iff_eq] at e'
    exact List.mem_of_getElem? e'
  · intro hm
    obtain ⟨i, hi, e⟩ := List.getElem_of_mem hm
    have e' : (u[i]? == some 10) = true := by rw [List.getElem?_eq_getElem hi, e]; rfl
    rw [← hb i] at e'
    refine ⟨i, ?_, ?_⟩
    · rw [List.mem_map]
      refine ⟨i, List.mem_range.mpr ?_, rfl⟩
      rw [beq_iff_eq] at e'
      exact (Array.getElem?_eq_some_iff.mp e').1
    · exact (bext b i).trans e'
theorem no_index_bytes : typeLookup (.type "bytes") "__index__" = pure none := by rw [typeLookup_type, builtinLookup_eq_fast]; kernel_rfl
section
variable {prog : Program} {w : World} {A : Around} {E : Value → Shared → Prop} {s : Shared} {B : Array UInt8} {t u : Tok} {v : List Nat} {hd : Option Value}
theorem asIndex_bytes {Q : Int → Shared → Prop} {c : Array UInt8} (hA : A.handled = hd) (hk : HdOk s.heap hd) (h : ∀ e h' tk, Kept [] [] s.heap h' → E e { s with heap := h', toks := tk }) : wpAny (model prog w) A (asIndex (.bytes c t)) Q E s := by
  unfold asIndex
  have e1 : asInt? (.bytes c t) = pure none := by first | rfl | kernel_rfl
  refine wpAny_bind (wpAny_of_eq e1 ?_)
  have e2 : callSpecial? (.bytes c t) "__index__" = pure none := by
    unfold callSpecial?
    rw [KBy.special_eq no_index_bytes]
    rfl
  dsimp only
  refine wpAny_bind (wpAny_of_eq e2 ?_)
  have e3 : typeNameOfCut 200 (.bytes c t) = pure "bytes" := by first | rfl | kernel_rfl
  dsimp only
  refine wpAny_bind (wpAny_of_eq e3 ?_)
  exact raiseWordsM plainExc_TypeError hA hk fun h' tk a _ => h _ h' tk a
theorem in_bnl {Q : Value → Shared → Prop} (hb : ∀ i : Nat, (B[i]? == some 10) = (v[i]? == some 10)) (hA : A.handled = hd) (hk : HdOk s.heap hd)
    (h : ∀ h' tk, Kept [] [] s.heap h' → Q (.bool (decide (10 ∈ v))) { s with heap := h', toks := tk }) : wpAny (model prog w) A (compareOp .In (.bytes #[10] u) (.bytes B t)) Q E s := by
  refine In_slot (typeIs_bytes _ _ _) FB.slot_bytes_contains (wpAny_call_entry FB.slot_bytes_contains (typeIs_bytes _ _ _) FB.entry_bytes_contains ?_ (FB.args_bytes_contains_2 _ _))
  show wpAny _ _ ((Bytes.containsIn "bytes.__contains__" (.bytes B t) (.bytes #[10] u)) >>= fun r => _) _ _ s
  refine wpAny_bind ?_
  unfold Bytes.containsIn
  refine wpAny_bind (wpAny_attempt (asIndex_bytes (hd := hd) hA hk fun e h' tk a => ?_))
  refine wpAny_bind (wpAny_of_eq KBy.buffer_eq ?_)
  dsimp only
  refine wpAny_bind (wpAny_of_eq KBy.buffer_eq ?_)
  dsimp only
  refine wpAny_bind (wpAny_rule (wpAny_pure ?_))
  refine wpAny_pure ⟨_, rfl, wpAny_truthy_bool ?_⟩
  rw [bfind_NL B v hb]
  exact h _ _ a
theorem type_bytes_count : typeOf (.builtin "bytes.count") = pure (.type "method_descriptor") := by show builtinType _ = _; rw [builtinType_eq_fast]; kernel_rfl
theorem type_bytes_rfind : typeOf (.builtin "bytes.rfind") = pure (.type "method_descriptor") := by show builtinType _ = _; rw [builtinType_eq_fast]; kernel_rfl
variable {M : Model} {pl : Sem Bool} {Q : Value × List Value → Shared → Prop} {b : Array UInt8}
theorem gm_bcount (h : Q (.builtin "bytes.count", [.bytes b t]) s) : wpAny M A (getMethod (.bytes b t) "count" pl) Q E s := by
  with_reducible exact KBd.method_of (.bytes b t) (typeIs_bytes _ _ _) slot_bytes_count type_bytes_count KBd.noRef h
theorem gm_brfind (h : Q (.builtin "bytes.rfind", [.bytes b t]) s) : wpAny M A (getMethod (.bytes b t) "rfind" pl) Q E s := by
  with_reducible exact KBd.method_of (.bytes b t) (typeIs_bytes _ _ _) slot_bytes_rfind type_bytes_rfind KBd.noRef h
end
theorem frKept {g h h' : Heap} {L : Addr} {m : Str → Option Value} {news : List (Addr × Obj)} (F : Fr g L h m) (N : News g L h news) (k : Kept [] [] h h') : Fr g L h' m ∧ News g L h' news :=
  ⟨⟨k.ns F.ns (by simp), fun b o e => k.get (F.keep b o e) (by simp) (by simp), F.above⟩, fun p hp => ⟨k.get (N p hp).1 (by simp) (by simp), (N p hp).2⟩⟩
theorem At2.keep {g h : Heap} (k : ∀ b o, g.get? b = some o → h.get? b = some o) {p : Addr} {c : Value} (x : At2 g p c) : At2 h p c := let ⟨o, vs, e, d, q⟩ := x; ⟨o, vs, k _ _ e, d, q⟩
theorem HdOk.keep {g h : Heap} (k : ∀ b o, g.get? b = some o → h.get? b = some o) {hd : Option Value} (x : HdOk g hd) : HdOk h hd := by
  rcases x with rfl | ⟨p, rfl, ⟨c, a0⟩, a | ⟨q, a, ne, ⟨c', b0⟩, b | ⟨r, b, ne', d⟩⟩⟩
  · exact .inl rfl
  · exact .inr ⟨p, rfl, ⟨c, a0.keep k⟩, .inl (a.keep k)⟩
  · exact .inr ⟨p, rfl, ⟨c, a0.keep k⟩, .inr ⟨q, a.keep k, ne, ⟨c', b0.keep k⟩, .inl (b.keep k)⟩⟩
  · exact .inr ⟨p, rfl, ⟨c, a0.keep k⟩, .inr ⟨q, a.keep k, ne, ⟨c', b0.keep k⟩, .inr ⟨r, b.keep k, ne', d.keep k⟩⟩⟩
theorem in_bnlN {prog : Program} {w : World} {A : Around} {E : Value → Shared → Prop} {s : Shared} {B : Array UInt8} {t u : Tok} {v : List Nat} {hd : Option Value} {g : Heap} {L : Addr} {m : Str → Option Value} {news : List (Addr × Obj)} {Q : Value → Shared → Prop}
    (F : Fr g L s.heap m) (N : News g L s.heap news) (hb : ∀ i : Nat, (B[i]? == some 10) = (v[i]? == some 10)) (hk : HdOk g hd) (hA : A.handled = hd)
    (h : ∀ h' tk, Fr g L h' m → News g L h' news → Q (.bool (decide (10 ∈ v))) { s with heap := h', toks := tk }) : wpAny (model prog w) A (compareOp .In (.bytes #[10] u) (.bytes B t)) Q E s :=
  in_bnl hb hA (hk.keep F.keep) fun h' tk k => let ⟨F', N'⟩ := frKept F N k; h h' tk F' N'
end Mine
end
section
open PySem PySem.W PySem.Calls PyProof.Rows
set_option maxRecDepth 100000
namespace Mine
set_option maxHeartbeats 4000000 in
theorem pct1 {prog : Program} {w : World} {A : Around} {E : Value → Shared → Prop} {s : Shared} {h₀ : Heap} {L b : Addr} {news : List (Addr × Obj)} {n : Nat} {tm tp t : Tok} {p : Nat} {K : Frag} {Q : Value → Shared → Prop} (_X : K.In h₀)
    (N : News h₀ L s.heap news) (hb : (b, ({ cls := .type "tuple", data := .seq #[.str (Str.ofString "bad escape (end of pattern)") tm, .int (p : Int) tp] n } : Obj)) ∈ news) (hp0 : (0 : Int) ≤ p) (hp1 : (p : Int) < 10000000000)
    (h : ∀ t' k, Q (.str (Str.ofString "bad escape (end of pattern)" ++ Str.ofString " at position " ++ Str.ofString (toString (p : Int))) t') { s with toks := k }) :
    wpAny (model prog w) A (binaryOp .Mod (.str (Str.ofString "%s at position %d") t) (.ref b)) Q E s := by
  k_dflt (refine' KPt.mod_tuple ?kptN ?kptb ?kptF ?kptm ?_; (case kptN => k_asm); (case kptb => assumption); (case kptF => kpt_eq); (case kptm => kpt_run))
  exact h
end Mine
end
section
open PySem PySem.W PySem.Calls PyProof.Rows
set_option maxRecDepth 100000
namespace Mine
set_option maxHeartbeats 8000000 in
theorem pct2 {prog : Program} {w : World} {A : Around} {E : Value → Shared → Prop} {s : Shared} {h₀ : Heap} {L b : Addr} {news : List (Addr × Obj)} {n : Nat} {tm tp tq t : Tok} {m : Str} {l c : Int} {K : Frag} {Q : Value → Shared → Prop} (_X : K.In h₀)
    (N : News h₀ L s.heap news) (hb : (b, ({ cls := .type "tuple", data := .seq #[.str m tm, .int l tp, .int c tq] n } : Obj)) ∈ news) (hm : m.length ≤ 1000) (hl0 : 0 ≤ l) (hl1 : l < 10000000000) (hc0 : 0 ≤ c) (hc1 : c < 10000000000)
    (h : ∀ t' k, Q (.str (m ++ Str.ofString " (line " ++ Str.ofString (toString l) ++ Str.ofString ", column " ++ Str.ofString (toString c) ++ Str.ofString ")") t') { s with toks := k }) :
    wpAny (model prog w) A (binaryOp .Mod (.str (Str.ofString "%s (line %d, column %d)") t) (.ref b)) Q E s := by
  k_dflt (refine' KPt.mod_tuple ?kptN ?kptb ?kptF ?kptm ?_; (case kptN => k_asm); (case kptb => assumption); (case kptF => kpt_eq); (case kptm => kpt_run))
  exact h
end Mine
end
section
open PySem PySem.W PySem.Calls PyProof.Rows Mine
local macro_rules | `(tactic| wtm_at "m0") => `(tactic| (dsimp only [Around.deeper, Around.under, Around.in1, Around.mark]; omega))
local macro_rules | `(tactic| wtm_at "m1") => `(tactic| (k_here; k_dflt (refine' getE_own (by k_asm) (by k_asm) (by k_asm) (by k_mem) (by k_mem) (by k_is) (by k_is) (by k_is) (by k_is) (by k_is) (by k_is) (by k_get) (by k_handed) ?_; k_whole; intro tk'; wtm_at "d")))
section
open PySem PySem.W PySem.Calls PyProof.Rows
set_option maxRecDepth 100000
namespace Mine
theorem fill2 : PySem.Challenge.rw_dw0053_01 = PySem.Challenge.rw_dw0053_01 ∧ ∀ P, Mine.hd.heap_39 P = Mine.hd.heap_39 P := by
  k_fill
  exact ⟨rfl, fun _ => rfl⟩
local macro_rules | `(tactic| k_room) => `(tactic| wtm_at "m0")
theorem excMro41 (P : Params) : excMro (Mine.hd.heap_39 P) 41 = true := by kernel_rfl
local macro_rules | `(tactic| walk_at "setAttr ref") => `(tactic| (k_here; k_dflt (first
  | (refine' setE_tok ?_; intro t' ht'; refine' setE_dict ?k1 ?k2 ?k3 ?k4 ?k4b ?k5 ?k6 ?k7 ?k8 ?k9 ?k10 ?k11 ?k12 ?_ ht'; (case k1 => k_asm); (case k2 => k_asm); (case k3 => k_asm); (case k4 => k_mem); (case k4b => k_mem); (case k5 => k_is); (case k6 => exact excMro41 _); (case k7 => k_is); (case k8 => k_is); (case k9 => k_get); (case k10 => k_put); (case k11 => k_upd); (case k12 => exact Nat.le_of_ble_eq_true rfl); k_whole; clear ht'; intro h' tk' F' N'; wtm_at "s"; wtm_at "d")
  | (refine' setE_new (by k_asm) (by k_asm) (by k_asm) (by k_upd) (by k_is) (by exact excMro41 _) (by k_is) (by k_is) ?_; k_whole; intro h' d' t' tk' e' l1 F' N'; (rw [← e'] at N'); (clear e'); (try k_lt l1); wtm_at "s"; wtm_at "d"))))
local macro_rules | `(tactic| walk_at "wpAt") => `(tactic| (first | refine ks_wpAt_execs_cons ?_ | refine ks_wpAt_MethodCall ?_))
local macro_rules | `(tactic| walk_at "wpAt") => `(tactic| (ks_step "exec Expr"; k_here; (refine' ks_wpAt_Expr_any ?_ (by (k_dflt exact rfl)) (by (k_dflt exact rfl)))))
local macro_rules | `(tactic| walk_at "wpAt") => `(tactic| (ks_step "eval Call"; k_here; k_dflt (refine' ks_wpAt_MethodCall ?_ (by (k_dflt exact rfl)))))

local macro_rules | `(tactic| walk_at "call builtin:str.count") => `(tactic| (k_here; (with_reducible refine' count_nl ?k1 ?_); (case k1 => assumption); intro t' tk'; wtm_at "d"))
local macro_rules | `(tactic| walk_at "call builtin:str.rfind") => `(tactic| (k_here; (with_reducible refine' rfind_nl ?k1 ?_); (case k1 => assumption); intro t' tk'; wtm_at "d"))
local macro_rules | `(tactic| walk_at "call builtin:bytes.count") => `(tactic| (k_here; (with_reducible refine' bcount_nl ?k1 ?k2 ?_); (case k1 => assumption); (case k2 => assumption); intro t' tk'; wtm_at "d"))
local macro_rules | `(tactic| walk_at "call builtin:bytes.rfind") => `(tactic| (k_here; (with_reducible refine' brfind_nl ?k1 ?k2 ?_); (case k1 => assumption); (case k2 => assumption); intro t' tk'; wtm_at "d"))
local macro_rules | `(tactic| walk_at "getMethod bytes") => `(tactic| (k_here; (first | with_reducible refine gm_bcount ?_ | with_reducible refine gm_brfind ?_)))
local macro_rules | `(tactic| walk_at "compareOp In bytes bytes") => `(tactic| (k_here; (k_dflt (refine' in_bnlN (by k_asm) (by k_asm) (by assumption) (by assumption) (by exact rfl) ?_)); intro h' tk' F' N'; wtm_at "s"; wtm_at "d"))
local macro_rules | `(tactic| walk_at "compareOp In str str") => `(tactic| (k_here; (with_reducible refine' in_nl ?_)))
theorem len100 (p : Nat) (h : p ≤ 100) : (Str.ofString "bad escape (end of pattern)" ++ Str.ofString " at position " ++ Str.ofString (toString (p : Int))).length ≤ 1000 := by
  have : ∀ q : Fin 101, (Str.ofString "bad escape (end of pattern)" ++ Str.ofString " at position " ++ Str.ofString (toString ((q.1 : Nat) : Int))).length ≤ 1000 := by decide +kernel
  exact this ⟨p, Nat.lt_succ_of_le h⟩
theorem pct2P {prog : Program} {w : World} {A : Around} {E : Value → Shared → Prop} {s : Shared} {h₀ : Heap} {L b : Addr} {news : List (Addr × Obj)} {n : Nat} {tm tp tq t : Tok} {p : Nat} {l c : Int} {K : Frag} {Q : Value → Shared → Prop} (X : K.In h₀)
    (N : News h₀ L s.heap news) (hb : (b, ({ cls := .type "tuple", data := .seq #[.str (Str.ofString "bad escape (end of pattern)" ++ Str.ofString " at position " ++ Str.ofString (toString (p : Int))) tm, .int l tp, .int c tq] n } : Obj)) ∈ news) (hm : p ≤ 100) (hl0 : 0 ≤ l) (hl1 : l < 10000000000) (hc0 : 0 ≤ c) (hc1 : c < 10000000000)
    (h : ∀ t' k, Q (.str (Str.ofString "bad escape (end of pattern)" ++ Str.ofString " at position " ++ Str.ofString (toString (p : Int)) ++ Str.ofString " (line " ++ Str.ofString (toString l) ++ Str.ofString ", column " ++ Str.ofString (toString c) ++ Str.ofString ")") t') { s with toks := k }) :
    wpAny (model prog w) A (binaryOp .Mod (.str (Str.ofString "%s (line %d, column %d)") t) (.ref b)) Q E s := pct2 X N hb (len100 p hm) hl0 hl1 hc0 hc1 h
local macro_rules | `(tactic| walk_at "binaryOp Mod str ref") => `(tactic| (k_here; (first
  | ((with_reducible refine' pct1 ?kX ?kN ?kb ?k0 ?k1 ?_); (case kX => k_asm); (case kN => k_asm); (case kb => k_dflt k_mem); (case k0 => assumption); (case k1 => assumption); intro t' tk'; wtm_at "d")
  | ((with_reducible refine' pct2P ?kX ?kN ?kb ?km ?k0 ?k1 ?k2 ?k3 ?_); (case kX => k_asm); (case kN => k_asm); (case kb => k_dflt k_mem); (case km => assumption); (case k0 => omega); (case k1 => omega); (case k2 => omega); (case k3 => omega); intro t' tk'; wtm_at "d"))))
local macro_rules | `(tactic| walk_at "getAttr ref") => `(tactic| wtm_at "m1")
local macro_rules | `(tactic| walk_at "wpAt") => `(tactic| (ks_step "attributeBase Call"; k_here; k_dflt (refine superNode (by k_asm) (by k_asm) (by k_asm) (by k_asm) (by k_is) (by rfl) (by rfl) (by k_mem) (by k_mem) (by k_is) (by rfl) (by first | rfl | decide +kernel) (by k_is) (by k_is) (by k_is) (by k_is) (by rfl) (by rfl) (by rfl) (by rfl) (by decide +kernel) (by first | boot_by_name | rfl | kernel_rfl) ?_; intro so' h' F' N' l1; (try k_lt l1))))
theorem along41 (P : Params) : ∀ cd, clsIn (Mine.hd.heap_39 P) 41 = some cd → alongIn (Mine.hd.heap_39 P) "__init__" ((cd.mro.dropWhile (· != .ref 41)).drop 1) = some (some (.builtin "Exception.__init__")) := by
  intro cd h
  have : ∀ o : Option ClassData, o = clsIn (Mine.hd.heap_39 P) 41 → (match o with | some cd => alongIn (Mine.hd.heap_39 P) "__init__" ((cd.mro.dropWhile (· != .ref 41)).drop 1) | none => some (some (.builtin "Exception.__init__"))) = some (some (.builtin "Exception.__init__")) := by
    rintro o rfl; kernel_rfl
  have := this (some cd) h.symm
  exact this
local macro_rules | `(tactic| walk_at "getMethod ref") => `(tactic| (k_here; k_dflt (refine' superMethodN (by k_asm) (by k_asm) (by k_asm) (by k_mem) (by k_mem) (by k_is) (by k_is) (by exact along41 _ _ (by k_is)) (by k_is) ?_; intro q' h' tk' F' N' l1; (try k_lt l1))))
local macro_rules | `(tactic| walk_at "callWith ref") => `(tactic| (k_here; k_dflt (refine' callWith_mw (by k_asm) (by k_mem) ?_ (by exact rfl) (by exact rfl))))
local macro_rules | `(tactic| walk_at "call ref") => `(tactic| (k_here; k_dflt (refine' callMwN (by k_asm) (by k_asm) (by k_asm) (by k_mem) ?k5 (by k_upd) ?_; (case k5 => k_is); intro h' b' e' l1 F' N'; (try dsimp only at e' N'); (rw [← e'] at N'); (clear e'); (try k_lt l1); wtm_at "s")))
local macro_rules | `(tactic| walk_at "MwP") => `(tactic| (k_here; k_dflt (exact News.get (by k_asm) (by k_mem))))

abbrev wBad : Str := Str.ofString "bad escape (end of pattern)"
inductive PEd (P : Params) (h : Heap) (de : Addr) (given : Value) (u : List Nat) (p : Nat) : Prop
  | mk (t1 t2 t3 t4 t5 v1 v3 v4 v5 : Tok) (q : h.get? de = some (dictOf [
  ⟨PyData.keyHash P (Str.ofString "msg"), .str (Str.ofString "msg") t1, .str (Str.ofString "bad escape (end of pattern)") v1⟩,
  ⟨PyData.keyHash P (Str.ofString "pattern"), .str (Str.ofString "pattern") t2, given⟩,
  ⟨PyData.keyHash P (Str.ofString "pos"), .str (Str.ofString "pos") t3, .int (p : Int) v3⟩,
  ⟨PyData.keyHash P (Str.ofString "lineno"), .str (Str.ofString "lineno") t4, .int ((nlc u p : Int) + 1) v4⟩,
  ⟨PyData.keyHash P (Str.ofString "colno"), .str (Str.ofString "colno") t5, .int ((p : Int) - ((p : Int) - (colN u p : Int))) v5⟩] 5)) : PEd P h de given u p
def PEt (h : Heap) (a0 : Addr) (u : List Nat) (p : Nat) : Prop := ∃ t, h.get? a0 = some (tupO [.str (peMsg u p) t])
theorem PEt.of {h : Heap} {a0 : Addr} {full : Str} {t : Tok} {u : List Nat} {p : Nat} (q : h.get? a0 = some (tupO [.str full t])) (e : full = peMsg u p) : PEt h a0 u p := ⟨t, by rw [← e]; exact q⟩
def PeInit (w : World) (given : Value) (u : List Nat) (p : Nat) : Prop :=
  ∀ {mean : ExcName → Option Value} {mg mb : Str → Option Value} {base : Heap} {s : Shared} {x t0 : Addr} {R : Result → Shared → Prop} {tm tp : Tok} {hd : Option Value} {dp un : Nat} {outer : Option (List Env)} {gd : Option (List Code)},
    BaseOk w mean mg mb base → base.StaysIn s.heap → s.heap.get? x = some (excO (.ref 41) none (.ref t0) .none .none .none (.bool false)) → base.get? x = none → dp < recursionLimit → HdOk (hideAll s.heap [x]) hd →
    (∀ h' tk de a0, Kept [x] [] s.heap h' → h'.get? x = some (excO (.ref 41) (some de) (.ref a0) .none .none .none (.bool false)) → PEd w.params h' de given u p → PEt h' a0 u p → s.heap.get? de = none → s.heap.get? a0 = none →
      R (.ok (.ret .none)) { s with heap := h', toks := tk }) →
    codeAny (model PySem.Challenge.rw_dw0053_01.row.prog w) { handled := hd, depth := dp, frames := outer, guards := gd, units := un } (.call (.ref 38) ⟨[.ref x, .str (Str.ofString "bad escape (end of pattern)") tm, given, .int (p : Int) tp], []⟩) R s
theorem hide_none {h : Heap} {x b : Addr} (e : (hideAll h [x]).get? b = none) (n : x < b) : h.get? b = none := by
  cases q : h.get? b with
  | none => rfl
  | some o => rw [hideAll_get [x] q (by simp; exact Nat.ne_of_gt n)] at e; cases e
theorem peEnd {G : Prop} {h h' : Heap} {x dx ax L : Addr} {m : Str → Option Value} {news : List (Addr × Obj)} {es : List DictEntry} {vs : List Value} (F : Fr (hideAll h [x]) L h' m) (N : News (hideAll h [x]) L h' news)
    (hx : (x, excO (.ref 41) (some dx) (.ref ax) .none .none .none (.bool false)) ∈ news) (hd : (dx, dictOf es 5) ∈ news) (ha : (ax, tupO vs) ∈ news) (n1 : x < dx) (n2 : x < ax)
    (k : Kept [x] [] h h' → h'.get? x = some (excO (.ref 41) (some dx) (.ref ax) .none .none .none (.bool false)) → h'.get? dx = some (dictOf es 5) → h'.get? ax = some (tupO vs) → h.get? dx = none → h.get? ax = none → G) : G :=
  k (exitK KtsTurn.refl F) (N _ hx).1 (N _ hd).1 (N _ ha).1 (hide_none (N _ hd).2.2 n1) (hide_none (N _ ha).2.2 n2)
theorem hM : Str.ofString "bad escape (end of pattern) at position " = Str.ofString "bad escape (end of pattern)" ++ Str.ofString " at position " := by decide +kernel
set_option maxHeartbeats 4000000 in
theorem peInitS {w : World} {T : Str} {p : Nat} {tT : Tok} (hp : p ≤ T.length) (hp0 : (0 : Int) ≤ p) (hp1 : (p : Int) < 10000000000) (hp9 : p ≤ 100) (hl9 : nlc T.cps.toList p ≤ p) (hc9 : colN T.cps.toList p ≤ p + 1) : PeInit w (.str T tT) T.cps.toList p := by
  intro mean mg mb base s x t0 R tm tp hd dp un outer gd hB st hx hxb hroom hH hR
  refine' enterS (binds := [(Str.ofString "self", .ref x), (Str.ofString "msg", .str (Str.ofString "bad escape (end of pattern)") tm), (Str.ofString "pattern", .str T tT), (Str.ofString "pos", .int (p : Int) tp)]) [x] (hB.X.keeps st) (hB.T.nolimit.keeps st) ?k3 ?k4 ?k5 ?k6 ?k7 ?h ?c1 ?c2 ?c3 ?c4
  case k3 => k_is
  case k4 => k_is
  case k5 => k_room
  case k6 => exact binds_K (hB.X.keeps st) rfl (by k_is) rfl rfl rfl
  case k7 => exact locs rfl
  case c1 => exact rfl
  case c2 => exact rfl
  case c3 => exact rfl
  case c4 => decide
  intro L' h₁ hL F' hk Q E hQ hE
  have stG : base.StaysIn (hideAll s.heap [x]) := apartNone st (by simp [hxb])
  have X' := hB.X.keeps stG
  have T' : TopM mean mg mb (hideAll s.heap [x]) := hB.T.keeps stG
  have N' : News (hideAll s.heap [x]) L' h₁ [(x, excO (.ref 41) none (.ref t0) .none .none .none (.bool false))] := by
    intro p hp
    rcases List.mem_cons.mp hp with rfl | hp
    · exact ⟨hk _ _ hx, by have := Heap.lt_size hx; subst hL; exact Nat.ne_of_lt this, hideAll_none _ (by simp)⟩
    · nomatch hp
  clear hk hx hxb
  clear hE
  k_steps
  all_goals
    refine hQ _ _ ?_
    refine' peEnd ?F ?N ?hx ?hd ?ha ?n1 ?n2 ?_
    case F => k_asm
    case N => k_asm
    case hx => k_dflt k_mem
    case hd => k_dflt k_mem
    case ha => k_dflt k_mem
    case n1 => omega
    case n2 => exact Nat.lt_of_not_le fun hh => by omega
    intro q1 q2 q3 q4 q5 q6
    refine hR _ _ _ _ q1 q2 ⟨_, _, _, _, _, _, _, _, _, q3⟩ (PEt.of q4 ?_) q5 q6
    unfold peMsg
    rw [← hM]
    first | rw [if_pos (by assumption)] | rw [if_neg (by assumption)]
set_option maxHeartbeats 4000000 in
theorem peInitB {w : World} {B : Array UInt8} {u : List Nat} {p : Nat} {tT : Tok} (hb : ∀ i : Nat, (B[i]? == some 10) = (u[i]? == some 10)) (hp : p ≤ B.size) (hp0 : (0 : Int) ≤ p) (hp1 : (p : Int) < 10000000000) (hp9 : p ≤ 100) (hl9 : nlc u p ≤ p) (hc9 : colN u p ≤ p + 1) : PeInit w (.bytes B tT) u p := by
  intro mean mg mb base s x t0 R tm tp hd dp un outer gd hB st hx hxb hroom hH hR
  refine' enterS (binds := [(Str.ofString "self", .ref x), (Str.ofString "msg", .str (Str.ofString "bad escape (end of pattern)") tm), (Str.ofString "pattern", .bytes B tT), (Str.ofString "pos", .int (p : Int) tp)]) [x] (hB.X.keeps st) (hB.T.nolimit.keeps st) ?k3 ?k4 ?k5 ?k6 ?k7 ?h ?c1 ?c2 ?c3 ?c4
  case k3 => k_is
  case k4 => k_is
  case k5 => k_room
  case k6 => exact binds_K (hB.X.keeps st) rfl (by k_is) rfl rfl rfl
  case k7 => exact locs rfl
  case c1 => exact rfl
  case c2 => exact rfl
  case c3 => exact rfl
  case c4 => decide
  intro L' h₁ hL F' hk Q E hQ hE
  have stG : base.StaysIn (hideAll s.heap [x]) := apartNone st (by simp [hxb])
  have X' := hB.X.keeps stG
  have T' : TopM mean mg mb (hideAll s.heap [x]) := hB.T.keeps stG
  have N' : News (hideAll s.heap [x]) L' h₁ [(x, excO (.ref 41) none (.ref t0) .none .none .none (.bool false))] := by
    intro p hp
    rcases List.mem_cons.mp hp with rfl | hp
    · exact ⟨hk _ _ hx, by have := Heap.lt_size hx; subst hL; exact Nat.ne_of_lt this, hideAll_none _ (by simp)⟩
    · nomatch hp
  clear hk hx hxb
  clear hE
  k_steps
  all_goals
    refine hQ _ _ ?_
    refine' peEnd ?F ?N ?hx ?hd ?ha ?n1 ?n2 ?_
    case F => k_asm
    case N => k_asm
    case hx => k_dflt k_mem
    case hd => k_dflt k_mem
    case ha => k_dflt k_mem
    case n1 => omega
    case n2 => exact Nat.lt_of_not_le fun hh => by omega
    intro q1 q2 q3 q4 q5 q6
    refine hR _ _ _ _ q1 q2 ⟨_, _, _, _, _, _, _, _, _, q3⟩ (PEt.of q4 ?_) q5 q6
    unfold peMsg
    rw [← hM]
    first | rw [if_pos (by assumption)] | rw [if_neg (by assumption)]
end Mine
end
section
open PySem PySem.W PySem.Calls PyProof.Rows
set_option maxRecDepth 100000
namespace Mine
theorem fill3 : PySem.Challenge.rw_dw0053_01 = PySem.Challenge.rw_dw0053_01 ∧ ∀ P, Mine.hd.heap_39 P = Mine.hd.heap_39 P := by
  k_fill
  exact ⟨rfl, fun _ => rfl⟩
theorem cls41 (P : Params) : ∃ nm q N bs hdct sn sub ab col dd k0 k1 k2 k3 k5, (Mine.hd.heap_39 P).lookup 41 = some (excClassObj nm q 41 N bs [.type "Exception", .type "BaseException", .type "object"] hdct sn sub ab col dd k0 k1 k2 k3 k5 "Exception.__new__") := ⟨_, _, _, _, _, _, _, _, _, _, _, _, _, _, _, by k_is⟩
theorem wTC (l : List Value) (k : List (Str × Value)) : (Code.builtin "type.__call__" ⟨.ref 41 :: l, k⟩).weight = 1 := by
  have e1 : (Code.builtin "type.__call__" ⟨.ref 41 :: l, k⟩).frames = 0 := by kernel_rfl
  have e2 : (Code.builtin "type.__call__" ⟨.ref 41 :: l, k⟩).isCreation = true := rfl
  have e3 : (Code.builtin "type.__call__" ⟨.ref 41 :: l, k⟩).isGuard = false := by show guardIds.contains "type.__call__" = false; decide +kernel
  have e4 : (Code.builtin "type.__call__" ⟨.ref 41 :: l, k⟩).isCaller = false := by kernel_rfl
  unfold Code.weight
  rw [e1, e2, e3, e4]; rfl
theorem push_none {h : Heap} {a : Addr} (q : h.objs.size ≤ a) : h.get? a = none := Heap.get?_none_of_le q
theorem mkPE {w : World} {given : Value} {u : List Nat} {p : Nat} (PI : PeInit w given u p)
    {mean : ExcName → Option Value} {mg mb : Str → Option Value} {base : Heap} {s : Shared} {R : Result → Shared → Prop} {tm tp : Tok} {hd : Option Value} {dp un : Nat} {outer : Option (List Env)} {gd : Option (List Code)}
    (hB : BaseOk w mean mg mb base) (st : base.StaysIn s.heap) (hroom : dp + 1 < recursionLimit) (hH : HdOk s.heap hd)
    (hR : ∀ h' tk e de a0, Kept [] [] s.heap h' → h'.get? e = some (excO (.ref 41) (some de) (.ref a0) .none .none .none (.bool false)) → PEd w.params h' de given u p → PEt h' a0 u p → s.heap.get? e = none → s.heap.get? de = none → s.heap.get? a0 = none →
      R (.ok (.ret (.ref e))) { s with heap := h', toks := tk }) :
    codeAny (model PySem.Challenge.rw_dw0053_01.row.prog w) { handled := hd, depth := dp, frames := outer, guards := gd, units := un } (.call (.ref 41) ⟨[.str (Str.ofString "bad escape (end of pattern)") tm, given, .int (p : Int) tp], []⟩) R s := by
  obtain ⟨hh, g, d, t, os⟩ := s
  obtain ⟨nm, q, N, bs, hdct, sn, sub, ab, col, dd, k0, k1, k2, k3, k5, ho⟩ := cls41 w.params
  have X := hB.X.keeps st
  have hC := X _ _ ho
  have k : ∀ b o, hh.get? b = some o → ((hh.push (tupO [.str (Str.ofString "bad escape (end of pattern)") tm, given, .int (p : Int) tp])).push (excO (.ref 41) none (.ref hh.objs.size) .none .none .none (.bool false))).get? b = some o := fun b o e => Heap.get?_push_of_some _ (Heap.get?_push_of_some _ e)
  have hx : ((hh.push (tupO [.str (Str.ofString "bad escape (end of pattern)") tm, given, .int (p : Int) tp])).push (excO (.ref 41) none (.ref hh.objs.size) .none .none .none (.bool false))).get? (hh.objs.size + 1) = some (excO (.ref 41) none (.ref hh.objs.size) .none .none .none (.bool false)) := by heap_get
  have sz : ((hh.push (tupO [.str (Str.ofString "bad escape (end of pattern)") tm, given, .int (p : Int) tp])).push (excO (.ref 41) none (.ref hh.objs.size) .none .none .none (.bool false))).objs.size = hh.objs.size + 2 := by rw [Heap.size_push, Heap.size_push]
  refine make_E PySem.F.excBase_Exception hC (looks_findIn X (by k_is)) (fun self => bind_fn X self (by k_is)) (by show 3 ≤ sizeLine; decide) ?_
  refine PI hB (fun b o e => k _ _ (st b o e)) hx ?_ (Nat.lt_of_le_of_lt (Nat.le_of_eq (by show dp + (Code.builtin "type.__call__" _).weight = dp + 1; rw [wTC])) hroom) (hH.keep fun b o e => hideAll_get _ (k _ _ e) ?_) ?_
  · cases e : base.get? (hh.objs.size + 1) with
    | none => rfl
    | some o => exact absurd (Heap.lt_size (st _ _ e)) (by show ¬ (hh.objs.size + 1 < hh.objs.size); omega)
  · have : b < hh.objs.size := Heap.lt_size e
    simp; exact Nat.ne_of_lt (Nat.lt_succ_of_lt this)
  · intro h' tk de a0 K1 e1 e2 e3 n1 n2
    refine ⟨rfl, ?_⟩
    have lt : ∀ b, ((hh.push (tupO [.str (Str.ofString "bad escape (end of pattern)") tm, given, .int (p : Int) tp])).push (excO (.ref 41) none (.ref hh.objs.size) .none .none .none (.bool false))).get? b = none → hh.get? b = none := fun b e => by
      cases q : hh.get? b with
      | none => rfl
      | some o => have := k _ _ q; rw [e] at this; cases this
    refine hR h' tk _ de a0 ⟨Nat.le_trans (by rw [sz]; show hh.objs.size ≤ hh.objs.size + 2; omega) K1.size, fun b o e _ => ?_⟩ e1 e2 e3 (push_none (by show hh.objs.size ≤ hh.objs.size + 1; omega)) (lt _ n1) (lt _ n2)
    have : b < hh.objs.size := Heap.lt_size e
    exact K1.keep b o (k _ _ e) (by simp; exact Nat.ne_of_lt (Nat.lt_succ_of_lt this))
end Mine
end
section
open PySem PySem.W PySem.Calls PyProof.Rows
set_option maxRecDepth 100000
namespace Mine
theorem fill4 : PySem.Challenge.rw_dw0053_01 = PySem.Challenge.rw_dw0053_01 ∧ ∀ P, Mine.hd.heap_39 P = Mine.hd.heap_39 P := by
  k_fill
  exact ⟨rfl, fun _ => rfl⟩
theorem hdCh {g h : Heap} {a : Addr} {hd : Option Value} (x : HdOk g hd) (n : g.get? a = none) (k : ∀ b o, g.get? b = some o → h.get? b = some o) : hd = none ∨ ∃ p, hd = some (.ref p) ∧ p ≠ a ∧ Ch h a p := by
  have ne : ∀ {p : Addr} {c : Value}, At2 g p c → p ≠ a := fun ⟨o, _, e, _, _⟩ q => by rw [q, n] at e; cases e
  rcases x with rfl | ⟨p, rfl, ⟨c, a0⟩, x | ⟨q, x, nq, ⟨c', b0⟩, b | ⟨r, b, nr, d⟩⟩⟩
  · exact .inl rfl
  · exact .inr ⟨p, rfl, ne a0, .inl (x.keep k)⟩
  · exact .inr ⟨p, rfl, ne a0, .inr ⟨q, x.keep k, ne b0, nq, .inl (b.keep k)⟩⟩
  · exact .inr ⟨p, rfl, ne a0, .inr ⟨q, x.keep k, ne b0, nq, .inr ⟨r, b.keep k, ne d, nr, d.keep k⟩⟩⟩
section
variable {w : World} {A : Around} {E : Value → Shared → Prop} {s : Shared} {hd : Option Value} {env : Env}
theorem Raise_PE {e : Expr} {pos pc : Pos} {kc : Nat} {Q : Flow → Shared → Prop} (hA : A.handled = hd)
    (h : wpAny (model PySem.Challenge.rw_dw0053_01.row.prog w) A (eval e env) (fun v s₁ => ∃ a de a0 g, v = .ref a ∧ (Mine.hd.heap_39 w.params).In s₁.heap ∧ s₁.heap.get? a = some (excO (.ref 41) (some de) (.ref a0) .none .none .none (.bool false)) ∧
      HdOk g hd ∧ g.get? a = none ∧ (∀ b o, g.get? b = some o → s₁.heap.get? b = some o) ∧
      ∀ h', Kept [a] [] s₁.heap h' → h'.get? a = some (excO (.ref 41) (some de) (.ref a0) .none (hd.getD .none) .none (.bool true)) → E (.ref a) { s₁ with heap := h' }) E s) :
    wpAny (model PySem.Challenge.rw_dw0053_01.row.prog w) A (exec (.Raise (some e) (some (.Constant .none kc pc)) pos) env) Q E s := by
  show wpAny _ A (do standAt pos; raiseStmt env (some (do let v ← eval e env; standAt pos; pure v)) (some (do let v ← eval (.Constant .none kc pc) env; standAt pos; pure v))) Q E s
  refine wpAny_bind (wpAny_standAt ?_)
  unfold raiseStmt
  dsimp only
  refine wpAny_bind (wpAny_bind (wpAny_mono h (fun v s₁ h₁ => wpAny_bind (wpAny_standAt (wpAny_pure ?_))) fun _ _ x => x))
  obtain ⟨a, de, a0, g, rfl, X, ha, hH, hg, hk, hE⟩ := h₁
  obtain ⟨hp, gg, d, t, os⟩ := s₁
  have L0 : Looks (model PySem.Challenge.rw_dw0053_01.row.prog w) hp (typeOf (.ref a)) (.ref 41) := (Looks.ld ha).andThen .now
  have L1 : Looks (model PySem.Challenge.rw_dw0053_01.row.prog w) hp (isInstance (.ref a) (.type "BaseException")) true := L0.andThen (looks_mroIn X (by k_is))
  have ne41 : a ≠ 41 := by
    rintro rfl
    obtain ⟨nm, q, N, bs, hdct, sn, sub, ab, col, dd, k0, k1, k2, k3, k5, ho⟩ := cls41 w.params
    have := X _ _ ho
    rw [ha] at this; cases this
  have hnt : ∀ {h' : Heap} {t' : Nat} {c1 c2 c3 c4 : Value} {Q' : Bool → Shared → Prop}, h'.get? a = some (excO (.ref 41) (some de) (.ref a0) c1 c2 c3 c4) → Q' false ⟨h', gg, d, t', os⟩ → wpAny (model PySem.Challenge.rw_dw0053_01.row.prog w) A (isType (.ref a)) Q' E ⟨h', gg, d, t', os⟩ := by
    intro h' t' c1 c2 c3 c4 Q' q hq
    simp only [isType, loadHead]
    refine wpAny_bind (wpAny_loadPart q ?_)
    exact wpAny_pure hq
  refine wpAny_bind (wpAny_holding (wpAny_bind (Constant_none (wpAny_bind (wpAny_standAt (wpAny_pure ?_))))))
  refine wpAny_bind (wpAny_pure ?_)
  dsimp only
  refine wpAny_bind (wpAny_holding ?_)
  unfold excFromValue isExcClass
  refine wpAny_bind (wpAny_bind (hnt ha ?_))
  simp only [Bool.false_eq_true, if_false]
  refine wpAny_pure ?_
  simp only [Bool.false_eq_true, if_false]
  refine wpAny_bind (L1.at ?_)
  simp only [if_true]
  refine wpAny_pure ?_
  rw [if_pos (by decide)]
  refine wpAny_bind (wpAny_pure ?_)
  have ha3 : (hp.update a (Obj.mapFields (·.setIfInBounds 3 .none))).get? a = some (excO (.ref 41) (some de) (.ref a0) .none .none .none (.bool false)) := Heap.get?_update_self _ ha rfl
  have ha4 : ((hp.update a (Obj.mapFields (·.setIfInBounds 3 .none))).update a (Obj.mapFields (·.setIfInBounds 4 (.bool true)))).get? a = some (excO (.ref 41) (some de) (.ref a0) .none .none .none (.bool true)) := Heap.get?_update_self _ ha3 rfl
  refine wpAny_bind (wpAny_setField ha rfl (by show 3 < 6; decide) ?_)
  refine wpAny_bind (wpAny_setField ha3 rfl (by show 4 < 6; decide) ?_)
  refine wpAny_bind (hnt ha4 ?_)
  simp only [Bool.false_eq_true, if_false]
  have kp : ∀ b o, hp.get? b = some o → b ≠ a → ((hp.update a (Obj.mapFields (·.setIfInBounds 3 .none))).update a (Obj.mapFields (·.setIfInBounds 4 (.bool true)))).get? b = some o := fun b o e n => by
    rw [Heap.get?_update_other _ _ (Ne.symm n), Heap.get?_update_other _ _ (Ne.symm n)]; exact e
  have L2 : Looks (model PySem.Challenge.rw_dw0053_01.row.prog w) ((hp.update a (Obj.mapFields (·.setIfInBounds 3 .none))).update a (Obj.mapFields (·.setIfInBounds 4 (.bool true)))) (typeOf (.ref a)) (.ref 41) := (Looks.ld ha4).andThen .now
  obtain ⟨nm, q, N, bs, hdct, sn, sub, ab, col, dd, k0, k1, k2, k3, k5, ho⟩ := cls41 w.params
  have L3 : Looks (model PySem.Challenge.rw_dw0053_01.row.prog w) ((hp.update a (Obj.mapFields (·.setIfInBounds 3 .none))).update a (Obj.mapFields (·.setIfInBounds 4 (.bool true)))) (typeOf (.ref 41)) (.type "type") := (Looks.ld (kp _ _ (X _ _ ho) (Ne.symm ne41))).andThen .now
  unfold raisedInstance
  refine wpAny_bind (wpAny_bind (L2.at (wpAny_bind (L3.at ?_))))
  rw [if_pos (by decide)]
  refine wpAny_pure ?_
  unfold setFlight
  refine wpAny_bind (wpAny_bind (wpAny_field ha4 rfl rfl ?_))
  rw [if_neg (by show ¬ ((Value.none != Value.none) = true); decide)]
  refine wpAny_pure ?_
  have gne : ∀ b o, g.get? b = some o → b ≠ a := fun b o e z => by rw [z, hg] at e; cases e
  refine raiseNewM hA ha4 rfl (by show 2 < 6; decide) (hdCh hH hg fun b o e => kp b o (hk b o e) (gne b o e)) ?_
  refine hE _ ⟨?_, fun b o e n => ⟨o.slots, ?_, fun _ => rfl⟩⟩ ?_
  · rcases hd with _ | v
    · show _ ≤ ((hp.update _ _).update _ _).objs.size
      rw [Heap.size_after_update, Heap.size_after_update]; exact Nat.le_refl _
    · show _ ≤ (((hp.update _ _).update _ _).update _ _).objs.size
      rw [Heap.size_after_update, Heap.size_after_update, Heap.size_after_update]; exact Nat.le_refl _
  · have n' : b ≠ a := by simpa using n
    rcases hd with _ | v
    · exact kp b o e n'
    · show (Heap.update _ _ _).get? b = _
      rw [Heap.get?_update_other _ _ (Ne.symm n')]; exact kp b o e n'
  · rcases hd with _ | v
    · exact ha4
    · exact Heap.get?_update_self _ ha4 rfl
end
end Mine
end
section
open PySem PySem.W PySem.Calls PyProof.Rows Mine
local macro_rules | `(tactic| wtm_at "m2") => `(tactic| (k_here; (first | (refine ite_neg (Bool.eq_false_iff.mp (by assumption)) ?_) | (refine ite_pos (by assumption) ?_))))
section
open PySem PySem.W PySem.Calls PyProof.Rows
set_option maxRecDepth 100000
namespace Mine
theorem fill5 : PySem.Challenge.rw_dw0053_01 = PySem.Challenge.rw_dw0053_01 ∧ ∀ P, Mine.hd.heap_39 P = Mine.hd.heap_39 P := by
  k_fill
  exact ⟨rfl, fun _ => rfl⟩
local macro_rules | `(tactic| k_room) => `(tactic| wtm_at "m0")
inductive TokAt (h : Heap) (x dx : Addr) (ist gv : Value) (T : Str) (i : Nat) (nx : Value) : Prop
  | mk (hx : h.get? x = some (instObj 133 dx)) (h1 h2 h3 h4 h5 : Int) (t1 t2 t3 t4 t5 td ti : Tok) (hd : h.get? dx = some (dictOf [⟨h1, .str (Str.ofString "istext") t1, ist⟩, ⟨h2, .str (Str.ofString "string") t2, gv⟩, ⟨h3, .str (Str.ofString "decoded_string") t3, .str T td⟩, ⟨h4, .str (Str.ofString "index") t4, .int (i : Int) ti⟩, ⟨h5, .str (Str.ofString "next") t5, nx⟩] 5)) : TokAt h x dx ist gv T i nx
theorem TokAt.of {g h : Heap} {L : Addr} {news : List (Addr × Obj)} {x dx : Addr} {ist gv : Value} {T : Str} {i : Nat} {j : Int} {nx : Value} {h1 h2 h3 h4 h5 : Int} {t1 t2 t3 t4 t5 td ti : Tok} (N : News g L h news) (hx : (x, instObj 133 dx) ∈ news)
    (hd : (dx, dictOf [⟨h1, .str (Str.ofString "istext") t1, ist⟩, ⟨h2, .str (Str.ofString "string") t2, gv⟩, ⟨h3, .str (Str.ofString "decoded_string") t3, .str T td⟩, ⟨h4, .str (Str.ofString "index") t4, .int j ti⟩, ⟨h5, .str (Str.ofString "next") t5, nx⟩] 5) ∈ news) (e : j = (i : Int)) : TokAt h x dx ist gv T i nx := by
  subst e
  exact ⟨(N _ hx).1, _, _, _, _, _, _, _, _, _, _, _, _, (N _ hd).1⟩
theorem Try_quiet {w : World} {A : Around} {E : Value → Shared → Prop} {s : Shared} {env : Env} {body : List Stmt} {h₀ : ExceptHandler} {hs : List ExceptHandler} {pos : Pos} {Q : Flow → Shared → Prop}
    (h : ∀ E', wpAny (model PySem.Challenge.rw_dw0053_01.row.prog w) A (execs body env) Q E' s) :
    wpAny (model PySem.Challenge.rw_dw0053_01.row.prog w) A (exec (.Try body (h₀ :: hs) [] [] pos) env) Q E s :=
  wpAny_Try_except (wpAny_mono (h _) (fun f s₁ q => by cases f <;> first | exact wpAny_execs_nil q | exact PyProof.Rows.execs_nil q | (show wpAny _ _ (execs [] env) _ _ _; rw [execs]; exact wpAny_pure q) | exact q) fun _ _ e => e)
theorem strItemC {prog : Program} {w : World} {A : Around} {E : Value → Shared → Prop} {s : Shared} {T : Str} {j : Int} {c : Nat} {t u : Tok} {Q : Value → Shared → Prop} (h0 : 0 ≤ j) (hc : T.cps.toList[j.toNat]? = some c) (hs : j < 1000) 
    (h : ∀ t' k, Q (.str ⟨#[c]⟩ t') { s with toks := k }) : wpAny (model prog w) A (getItem (.str T t) (.int j u)) Q E s := by
  obtain ⟨i, rfl⟩ := Int.eq_ofNat_of_zero_le h0
  rw [Int.toNat_natCast] at hc
  refine P.getItem_str (c := c) (by simp; omega) ?_ (h _ _)
  have hi : i < T.cps.size := by
    have := (List.getElem?_eq_some_iff.mp hc).1
    simpa using this
  have : seqIndex? (i : Int) T.length = some i := by
    unfold seqIndex?
    have : T.length = T.cps.size := rfl
    rw [this]
    simp; omega
  rw [this]
  simpa using hc
theorem strItemT {prog : Program} {w : World} {A : Around} {E : Value → Shared → Prop} {s : Shared} {T : Str} {j : Int} {c : Nat} {t u : Tok} {value slice : Expr} {Q : Value → Shared → Prop} (hc : T.cps.toList[j.toNat]? = some c) (h0 : 0 ≤ j) (hs : j < 1000) 
    (h : ∀ t' k, Q (.str ⟨#[c]⟩ t') { s with toks := k })
    (h1 : subscripted slice false (.str T t) (.int j u) = operate [.str T t, .int j u] (getItem (.str T t) (.int j u)) := by with_unfolding_all rfl) (h2 : ∀ r, letTemporaryGo value (.str T t) r = pure () := by intro _; with_unfolding_all rfl) :
    wpAny (model prog w) A (subscriptTail value slice (.str T t) (.int j u)) Q E s :=
  subscriptTail_builtin (typeIs_str s T t) PySem.F.slot_str_getitem.lookup (strItemC h0 hc hs h) h1 h2
local macro_rules | `(tactic| walk_at "exec Try") => `(tactic| (refine Try_quiet fun E' => ?_))
local macro_rules | `(tactic| walk_at "subscriptTail Name Name str int") => `(tactic| (k_here; k_dflt (refine' strItemT (by assumption) (by omega) (by omega) ?_); intro t' tk'; wtm_at "d"))
local macro_rules | `(tactic| walk_at "ite") => `(tactic| wtm_at "m2")
theorem chr_ne {c : Nat} (h : c ≠ 92) : ((⟨#[c]⟩ : Str) == Str.ofString "\\") = false := by
  rw [beq_eq_false_iff_ne]
  intro e
  have e' : (⟨#[c]⟩ : Str) = ⟨#[92]⟩ := e.trans (by decide +kernel)
  injection e' with e'
  simp at e'
  exact h e'
set_option maxHeartbeats 4000000 in
theorem nextPlain {w : World} {mean : ExcName → Option Value} {mg mb : Str → Option Value} {base : Heap} {s : Shared} {x dx : Addr} {R : Result → Shared → Prop}
    {ist gv nx : Value} {T : Str} {i c : Nat} 
    {hd : Option Value} {dp un : Nat} {outer : Option (List Env)} {gd : Option (List Code)}
    (hB : BaseOk w mean mg mb base) (st : base.StaysIn s.heap)
    (hT : TokAt s.heap x dx ist gv T i nx) (hxb : base.get? x = none) (hdb : base.get? dx = none) (hne : c ≠ 92)
    (hroom : dp < recursionLimit) (hc : T.cps.toList[i]? = some c) (hi : i < 900)
    (hR : ∀ h' tk t, Kept [x, dx] [] s.heap h' → TokAt h' x dx ist gv T (i + 1) (.str ⟨#[c]⟩ t) → R (.ok (.ret .none)) { s with heap := h', toks := tk }) :
    codeAny (model PySem.Challenge.rw_dw0053_01.row.prog w) { handled := hd, depth := dp, frames := outer, guards := gd, units := un } (.call (.ref 65) ⟨[.ref x], []⟩) R s := by
  obtain ⟨hx, h1, h2, h3, h4, h5, t1, t2, t3, t4, t5, td, ti, hdx⟩ := hT
  refine' enterM (binds := [(Str.ofString "self", .ref x)]) [x, dx] (hB.X.keeps st) (hB.T.nolimit.keeps st) ?k3 ?k4 ?k5 ?k6 ?k7 ?h ?c1 ?c2 ?c3 ?c4
  case k3 => k_is
  case k4 => k_is
  case k5 => k_room
  case k6 => exact BindsTo.of_eq rfl
  case k7 => exact locs rfl
  case c1 => exact rfl
  case c2 => exact rfl
  case c3 => exact rfl
  case c4 => decide
  intro L' h₁ hL F' hk Q E hQ hE
  have stG : base.StaysIn (hideAll s.heap [x, dx]) := apartNone st (by simp [hxb, hdb])
  have X' := hB.X.keeps stG
  have T' : TopM mean mg mb (hideAll s.heap [x, dx]) := hB.T.keeps stG
  have N' : News (hideAll s.heap [x, dx]) L' h₁ [(x, instObj 133 dx), (dx, dictOf [⟨h1, .str (Str.ofString "istext") t1, ist⟩, ⟨h2, .str (Str.ofString "string") t2, gv⟩, ⟨h3, .str (Str.ofString "decoded_string") t3, .str T td⟩, ⟨h4, .str (Str.ofString "index") t4, .int (i : Int) ti⟩, ⟨h5, .str (Str.ofString "next") t5, nx⟩] 5)] := by
    intro p hp
    rcases List.mem_cons.mp hp with rfl | hp
    · exact ⟨hk _ _ hx, by have := Heap.lt_size hx; subst hL; exact Nat.ne_of_lt this, hideAll_none _ (by simp)⟩
    rcases List.mem_cons.mp hp with rfl | hp
    · exact ⟨hk _ _ hdx, by have := Heap.lt_size hdx; subst hL; exact Nat.ne_of_lt this, hideAll_none _ (by simp)⟩
    · nomatch hp
  have hxd : x ≠ dx := by rintro rfl; rw [hx] at hdx; cases hdx
  have hdx' : dx ≠ x := Ne.symm hxd
  have hne2 := chr_ne hne
  have hc' : T.cps.toList[(i : Int).toNat]? = some c := hc
  clear hk hx hdx hE hxb hdb
  k_steps
  refine hQ _ _ ?_
  refine' hR _ _ _ (exitK KtsTurn.refl ?F) (TokAt.of ?N ?hx ?hd ?e)
  case F => k_asm
  case N => k_asm
  case hx => k_dflt k_mem
  case hd => k_dflt k_mem
  case e => omega
set_option maxHeartbeats 4000000 in
theorem nextPair {w : World} {mean : ExcName → Option Value} {mg mb : Str → Option Value} {base : Heap} {s : Shared} {x dx : Addr} {R : Result → Shared → Prop}
    {ist gv nx : Value} {T : Str} {i c : Nat} 
    {hd : Option Value} {dp un : Nat} {outer : Option (List Env)} {gd : Option (List Code)}
    (hB : BaseOk w mean mg mb base) (st : base.StaysIn s.heap)
    (hT : TokAt s.heap x dx ist gv T i nx) (hxb : base.get? x = none) (hdb : base.get? dx = none)
    (hroom : dp < recursionLimit) (hc : T.cps.toList[i]? = some 92) (hd1 : T.cps.toList[i + 1]? = some c) (hi : i < 900)
    (hR : ∀ h' tk t, Kept [x, dx] [] s.heap h' → TokAt h' x dx ist gv T (i + 2) (.str ⟨#[92, c]⟩ t) → R (.ok (.ret .none)) { s with heap := h', toks := tk }) :
    codeAny (model PySem.Challenge.rw_dw0053_01.row.prog w) { handled := hd, depth := dp, frames := outer, guards := gd, units := un } (.call (.ref 65) ⟨[.ref x], []⟩) R s := by
  obtain ⟨hx, h1, h2, h3, h4, h5, t1, t2, t3, t4, t5, td, ti, hdx⟩ := hT
  refine' enterM (binds := [(Str.ofString "self", .ref x)]) [x, dx] (hB.X.keeps st) (hB.T.nolimit.keeps st) ?k3 ?k4 ?k5 ?k6 ?k7 ?h ?c1 ?c2 ?c3 ?c4
  case k3 => k_is
  case k4 => k_is
  case k5 => k_room
  case k6 => exact BindsTo.of_eq rfl
  case k7 => exact locs rfl
  case c1 => exact rfl
  case c2 => exact rfl
  case c3 => exact rfl
  case c4 => decide
  intro L' h₁ hL F' hk Q E hQ hE
  have stG : base.StaysIn (hideAll s.heap [x, dx]) := apartNone st (by simp [hxb, hdb])
  have X' := hB.X.keeps stG
  have T' : TopM mean mg mb (hideAll s.heap [x, dx]) := hB.T.keeps stG
  have N' : News (hideAll s.heap [x, dx]) L' h₁ [(x, instObj 133 dx), (dx, dictOf [⟨h1, .str (Str.ofString "istext") t1, ist⟩, ⟨h2, .str (Str.ofString "string") t2, gv⟩, ⟨h3, .str (Str.ofString "decoded_string") t3, .str T td⟩, ⟨h4, .str (Str.ofString "index") t4, .int (i : Int) ti⟩, ⟨h5, .str (Str.ofString "next") t5, nx⟩] 5)] := by
    intro p hp
    rcases List.mem_cons.mp hp with rfl | hp
    · exact ⟨hk _ _ hx, by have := Heap.lt_size hx; subst hL; exact Nat.ne_of_lt this, hideAll_none _ (by simp)⟩
    rcases List.mem_cons.mp hp with rfl | hp
    · exact ⟨hk _ _ hdx, by have := Heap.lt_size hdx; subst hL; exact Nat.ne_of_lt this, hideAll_none _ (by simp)⟩
    · nomatch hp
  have hxd : x ≠ dx := by rintro rfl; rw [hx] at hdx; cases hdx
  have hdx' : dx ≠ x := Ne.symm hxd
  have heq : ((⟨#[92]⟩ : Str) == Str.ofString "\\") = true := by decide +kernel
  have hc' : T.cps.toList[(i : Int).toNat]? = some 92 := hc
  have hc2 : T.cps.toList[((i : Int) + 1).toNat]? = some c := hd1
  clear hk hx hdx hE hxb hdb
  k_steps
  refine hQ _ _ ?_
  refine' hR _ _ _ (exitK KtsTurn.refl ?F) (TokAt.of ?N ?hx ?hd ?e)
  case F => k_asm
  case N => k_asm
  case hx => k_dflt k_mem
  case hd => k_dflt k_mem
  case e => omega
end Mine
end
section
open PySem PySem.W PySem.Calls PyProof.Rows
set_option maxRecDepth 100000
namespace Mine
theorem fill5b : PySem.Challenge.rw_dw0053_01 = PySem.Challenge.rw_dw0053_01 ∧ ∀ P, Mine.hd.heap_39 P = Mine.hd.heap_39 P := by
  k_fill
  exact ⟨rfl, fun _ => rfl⟩
theorem ie_exc : isSubtype (.type "IndexError") (.type "BaseException") = pure true := by rw [isSubtype_type]; kernel_rfl
theorem ie_ie : isSubtype (.type "IndexError") (.type "IndexError") = pure true := by rw [isSubtype_type]; kernel_rfl
theorem ie_nt : isSubtype (.type ((Manifest.find? "IndexError").elim "type" fun x => x.metatype)) (.type "tuple") = pure false := by rw [isSubtype_type]; kernel_rfl
theorem exec_nilQ {w : World} {A : Around} {E : Value → Shared → Prop} {s : Shared} {env : Env} {Q : Flow → Shared → Prop} (h : Q .next s) : wpAny (model PySem.Challenge.rw_dw0053_01.row.prog w) A (execs [] env) Q E s := by
  rw [execs]; exact wpAny_pure h
def IdxName (w : World) (base : Heap) (env : Env) (L : Addr) : Prop := ∀ (np : Pos) (m : Str → Option Value) (A : Around) (g' : Heap) (s' : Shared) (Q : Value → Shared → Prop) (E : Value → Shared → Prop), base.StaysIn g' → Fr g' L s'.heap m → Q (.type "IndexError") s' → wpAny (model PySem.Challenge.rw_dw0053_01.row.prog w) A (eval (.Name (Str.ofString "IndexError") np) env) Q E s'
theorem tryIdx {w : World} {base : Heap} {env : Env} {outer : List Env} {L : Addr} {A : Around} {E : Value → Shared → Prop} {Q : Flow → Shared → Prop} {s : Shared} {g : Heap} {m : Str → Option Value} {news : List (Addr × Obj)} {ctx : Value}
    {body suite : List Stmt} {b₀ : Stmt} {np hp pos : Pos}
    (F : Fr g L s.heap m) (N : News g L s.heap news) (ff : g.FunFrames base outer) (st : base.StaysIn g)
    (hfr : A.frames = some (env :: outer)) (hf : env.frame = some L) (hk : env.scope.kind ≠ .module) (hnb : base.get? L = none)
    (hn : IdxName w base env L)
    (hbody : ∀ E', (∀ h₁ tk a a0, Fr g L h₁ m → News g L h₁ ((a, excO (.type "IndexError") none (.ref a0) .none ctx .none (.bool false)) :: news) → (∀ p ∈ news, p.1 < a) → E' (.ref a) { s with heap := h₁, toks := tk }) →
      wpAny (model PySem.Challenge.rw_dw0053_01.row.prog w) A (execs body env) Q E' s)
    (k : ∀ g' h' tk a tb a0, KtsTurn (fsOf outer) g g' → Fr g' L h' m → g'.FunFrames base outer → base.StaysIn g' → News g' L h' ((a, excO (.type "IndexError") none (.ref a0) (.ref tb) ctx .none (.bool false)) :: news) → (∀ p ∈ news, p.1 < a) →
      wpAny (model PySem.Challenge.rw_dw0053_01.row.prog w) (A.mark (some (.ref a))) (execs (b₀ :: suite) env) Q (notedBy (model PySem.Challenge.rw_dw0053_01.row.prog w) (A.mark (some (.ref a))) env (cameBackBy (model PySem.Challenge.rw_dw0053_01.row.prog w) A env E)) { s with heap := h', toks := tk }) :
    wpAny (model PySem.Challenge.rw_dw0053_01.row.prog w) A (exec (.Try body [.ExceptHandler (some (.Name (Str.ofString "IndexError") np)) none (b₀ :: suite) hp] [] [] pos) env) Q E s := by
  refine wpAny_Try_except (wpAny_mono (hbody _ ?_) (fun f s₁ q => by cases f <;> first | exact exec_nilQ q | exact q) fun _ _ e => e)
  intro h₁ tk a a0 F1 N1 l1
  have N1' := fun p hp => N1 p (List.mem_cons_of_mem _ hp)
  have ea := (N1 _ (List.mem_cons_self ..)).1
  have ga := (N1 _ (List.mem_cons_self ..)).2.2
  have La := (N1 _ (List.mem_cons_self ..)).2.1
  have fr1 : h₁.FunFrames base outer := ff.of_keeps fun b o e _ => ⟨o, F1.keep b o e, rfl⟩
  have hl : h₁.FunFrames base (env :: outer) := Heap.FunFrames.cons hk hf F1.ns hnb fr1
  refine landM (s := { s with heap := h₁, toks := tk }) hfr hl hf ea (.inl rfl) fun h2 tb e1 n1 T1 z1 no => ?_
  have lt : h₁.objs.size ≤ tb := by rcases z1 with z | z; cases z; exact z
  have tbn : h₁.get? tb = none := Heap.get?_none_of_le lt
  have gtb : g.get? tb = none := by
    cases q : g.get? tb with
    | none => rfl
    | some o => have := F1.keep _ _ q; rw [tbn] at this; cases this
  have tbL : tb ≠ L := fun z => by have := F1.ns.lt; rw [← z] at this; exact absurd this (Nat.not_lt.mpr lt)
  have K2 : Kept [a, tb] (L :: fsOf outer) h₁ h2 := by
    have := no.kept (tb := tb) (.inl rfl)
    have e : fsOf (env :: outer) = L :: fsOf outer := by unfold fsOf; rw [List.filterMap_cons, hf]
    rw [e] at this; exact this
  obtain ⟨g', tn, F', ff', st', hN⟩ := reground F1 N1 ff st K2 (by
    intro b hb
    simp only [List.mem_cons, List.not_mem_nil, or_false] at hb
    rcases hb with rfl | rfl
    · exact ⟨ga, La⟩
    · exact ⟨gtb, tbL⟩)
  have N' : News g' L h2 ((a, excO (.type "IndexError") none (.ref a0) (.ref tb) ctx .none (.bool false)) :: news) := hN _ (by
    intro p hp
    rcases List.mem_cons.mp hp with rfl | hp
    · exact .inr ⟨e1, La, ga⟩
    · refine .inl ⟨List.mem_cons_of_mem _ hp, ?_⟩
      have a1 := l1 p hp
      have a2 : p.1 < h₁.objs.size := Heap.lt_size (N1' p hp).1
      simp only [List.mem_cons, List.not_mem_nil, or_false]
      rintro (z | z)
      · exact absurd z (Nat.ne_of_lt a1)
      · exact absurd z (Nat.ne_of_lt (Nat.lt_of_lt_of_le a2 lt)))
  refine wpAny_handleBy_builtin (X := "IndexError") (T := "IndexError") (b := true) ie_exc ie_nt ie_ie ?_
  refine hn _ m _ g' _ _ _ st' F' ⟨rfl, ⟨_, e1, rfl⟩, ?_⟩
  rw [if_pos rfl]
  refine setFlightM e1 T1 none ?_
  -- the flight is noted once more
  have K3 : Kept [tb] (L :: fsOf outer) h2 (h2.update tb (Obj.mapFields (·.setIfInBounds 3 .none))) := ⟨by rw [Heap.size_after_update]; exact Nat.le_refl _, fun b o e n => ⟨o.slots, by
    rw [Heap.get?_update_other _ _ (fun z => n (by simp [z]))]; exact e, fun _ => rfl⟩⟩
  have gtb' : g'.get? tb = none := tn.none_ _ gtb
  obtain ⟨g2, tn2, F2, ff2, st2, hN2⟩ := reground F' N' ff' st' K3 (by
    intro b hb
    simp only [List.mem_cons, List.not_mem_nil, or_false] at hb
    subst hb; exact ⟨gtb', tbL⟩)
  have N2 : News g2 L (h2.update tb (Obj.mapFields (·.setIfInBounds 3 .none))) ((a, excO (.type "IndexError") none (.ref a0) (.ref tb) ctx .none (.bool false)) :: news) := hN2 _ (by
    intro p hp
    refine .inl ⟨hp, ?_⟩
    have a2 : p.1 < h₁.objs.size := by
      rcases List.mem_cons.mp hp with rfl | hp
      · exact Heap.lt_size ea
      · exact Heap.lt_size (N1' p hp).1
    simp only [List.mem_cons, List.not_mem_nil, or_false]
    exact Nat.ne_of_lt (Nat.lt_of_lt_of_le a2 lt))
  exact k _ _ tk a tb a0 (tn.trans tn2) F2 ff2 st2 N2 l1
theorem idxName_of {w : World} {mean : ExcName → Option Value} {mg mb : Str → Option Value} {base : Heap} {cn : Str} {cs : Scope} {L a : Addr} {ccd : Value} (hB : BaseOk w mean mg mb base) (hk : cs.kind = .function) (hx : (envOf cn cs L a ccd).kindOf (Str.ofString "IndexError") = some .globalImplicit) : IdxName w base (envOf cn cs L a ccd) L := by
  intro np m A g' s' Q E st' F' q
  have X' := hB.X.keeps st'
  have T' : TopM mean mg mb g' := hB.T.keeps st'
  exact nameX_B (cl := []) F' X' (by k_asm) (by k_is) (by boot_fast) (by decide) q hk hx
end Mine
end
section
open PySem PySem.W PySem.Calls PyProof.Rows
set_option maxRecDepth 100000
namespace Mine
theorem fill6 : PySem.Challenge.rw_dw0053_01 = PySem.Challenge.rw_dw0053_01 ∧ ∀ P, Mine.hd.heap_39 P = Mine.hd.heap_39 P := by
  k_fill
  exact ⟨rfl, fun _ => rfl⟩
theorem BaseOk.both {w : World} {mean : ExcName → Option Value} {mg mb : Str → Option Value} {base g : Heap} (hB : BaseOk w mean mg mb base) (st : base.StaysIn g) : (Mine.hd.heap_39 w.params).In g ∧ TopM mean mg mb g := ⟨hB.X.keeps st, hB.T.keeps st⟩
theorem strItemOut {prog : Program} {w : World} {A : Around} {E : Value → Shared → Prop} {s : Shared} {T : Str} {j : Int} {t u : Tok} {value slice : Expr} {Q : Value → Shared → Prop} {hd : Option Value} {g : Heap} {L : Addr} {m : Str → Option Value} {news : List (Addr × Obj)}
    (F : Fr g L s.heap m) (N : News g L s.heap news) (h0 : (T.length : Int) ≤ j) (hj : j < 1000) (hA : A.handled = hd) (hk : HdOk g hd)
    (hE : ∀ h₁ tk a a0, Fr g L h₁ m → News g L h₁ ((a, excO (.type "IndexError") none (.ref a0) .none (hd.getD .none) .none (.bool false)) :: news) → (∀ p ∈ news, p.1 < a) → E (.ref a) { s with heap := h₁, toks := tk })
    (h1 : subscripted slice false (.str T t) (.int j u) = operate [.str T t, .int j u] (getItem (.str T t) (.int j u)) := by with_unfolding_all rfl) (h2 : ∀ r, letTemporaryGo value (.str T t) r = pure () := by intro _; with_unfolding_all rfl) :
    wpAny (model prog w) A (subscriptTail value slice (.str T t) (.int j u)) Q E s := by
  refine subscriptTail_builtin (typeIs_str s T t) PySem.F.slot_str_getitem.lookup (strItem_out h0 (Int.lt_trans hj (by decide)) hA (hk.keep F.keep) fun h' tk k e => ?_) h1 h2
  obtain ⟨F', N'⟩ := frKept F N k
  have gn : g.get? (s.heap.objs.size + 1) = none := by
    cases q : g.get? (s.heap.objs.size + 1) with
    | none => rfl
    | some o => exact absurd (Heap.lt_size (F.keep _ _ q)) (Nat.not_lt.mpr (Nat.le_succ _))
  refine hE h' tk (s.heap.objs.size + 1) s.heap.objs.size F' (fun p hp => ?_) fun p hp => Nat.lt_succ_of_lt (Heap.lt_size (N p hp).1)
  rcases List.mem_cons.mp hp with rfl | hp
  · exact ⟨e, Nat.ne_of_gt (Nat.lt_succ_of_lt F.ns.lt), gn⟩
  · exact N' p hp
local macro_rules | `(tactic| k_room) => `(tactic| wtm_at "m0")
local macro_rules | `(tactic| walk_at "exec Try") => `(tactic| (k_here; k_dflt (refine' tryIdx (by k_asm) (by k_asm) (by assumption) (by assumption) (by exact rfl) (by exact rfl) (by (intro hh; cases hh)) (by assumption) (by exact idxName_of (by assumption) rfl rfl) ?hbody ?k; (case' hbody => (intro E' hE')); (case' k => (intro g' h' tk' a' tb' a0' tn' F' ff' st' N' l1'; (try k_lt l1'); (obtain ⟨X', T'⟩ := BaseOk.both (by assumption) st'); wtm_at "s"; wtm_at "d")))))
local macro_rules | `(tactic| walk_at "subscriptTail Name Name str int") => `(tactic| (k_here; k_dflt (refine' strItemOut (by k_asm) (by k_asm) (by omega) (by omega) ?k3 (by assumption) (by assumption); (case k3 => exact rfl))))
set_option maxHeartbeats 4000000 in
theorem nextEnd {w : World} {mean : ExcName → Option Value} {mg mb : Str → Option Value} {base : Heap} {s : Shared} {x dx : Addr} {R : Result → Shared → Prop}
    {ist gv nx : Value} {T : Str} {i : Nat} 
    {hd : Option Value} {dp un : Nat} {outer : List Env} {gd : Option (List Code)}
    (hB : BaseOk w mean mg mb base) (st : base.StaysIn s.heap)
    (hT : TokAt s.heap x dx ist gv T i nx) (hxb : base.get? x = none) (hdb : base.get? dx = none)
    (hroom : dp < recursionLimit) (hc : T.length ≤ i) (hi : i < 900) (ff : s.heap.FunFrames base outer) (hxo : x ∉ fsOf outer) (hdo : dx ∉ fsOf outer)
    (hhx : HdOk (hideAll s.heap [x, dx]) hd)
    (hR : ∀ h' tk, Kept [x, dx] (fsOf outer) s.heap h' → TokAt h' x dx ist gv T i .none → R (.ok (.ret .none)) { s with heap := h', toks := tk }) :
    codeAny (model PySem.Challenge.rw_dw0053_01.row.prog w) { handled := hd, depth := dp, frames := some outer, guards := gd, units := un } (.call (.ref 65) ⟨[.ref x], []⟩) R s := by
  obtain ⟨hx, h1, h2, h3, h4, h5, t1, t2, t3, t4, t5, td, ti, hdx⟩ := hT
  refine' enterM (binds := [(Str.ofString "self", .ref x)]) [x, dx] (hB.X.keeps st) (hB.T.nolimit.keeps st) ?k3 ?k4 ?k5 ?k6 ?k7 ?h ?c1 ?c2 ?c3 ?c4
  case k3 => k_is
  case k4 => k_is
  case k5 => k_room
  case k6 => exact BindsTo.of_eq rfl
  case k7 => exact locs rfl
  case c1 => exact rfl
  case c2 => exact rfl
  case c3 => exact rfl
  case c4 => decide
  intro L' h₁ hL F' hk Q E hQ hE
  have stG : base.StaysIn (hideAll s.heap [x, dx]) := apartNone st (by simp [hxb, hdb])
  have X' := hB.X.keeps stG
  have T' : TopM mean mg mb (hideAll s.heap [x, dx]) := hB.T.keeps stG
  have N' : News (hideAll s.heap [x, dx]) L' h₁ [(x, instObj 133 dx), (dx, dictOf [⟨h1, .str (Str.ofString "istext") t1, ist⟩, ⟨h2, .str (Str.ofString "string") t2, gv⟩, ⟨h3, .str (Str.ofString "decoded_string") t3, .str T td⟩, ⟨h4, .str (Str.ofString "index") t4, .int (i : Int) ti⟩, ⟨h5, .str (Str.ofString "next") t5, nx⟩] 5)] := by
    intro p hp
    rcases List.mem_cons.mp hp with rfl | hp
    · exact ⟨hk _ _ hx, by have := Heap.lt_size hx; subst hL; exact Nat.ne_of_lt this, hideAll_none _ (by simp)⟩
    rcases List.mem_cons.mp hp with rfl | hp
    · exact ⟨hk _ _ hdx, by have := Heap.lt_size hdx; subst hL; exact Nat.ne_of_lt this, hideAll_none _ (by simp)⟩
    · nomatch hp
  have hxd : x ≠ dx := by rintro rfl; rw [hx] at hdx; cases hdx
  have hdx' : dx ≠ x := Ne.symm hxd
  have ffG : (hideAll s.heap [x, dx]).FunFrames base outer := funHide ff (by intro b hb; rcases List.mem_cons.mp hb with rfl | hb; exact hxo; rcases List.mem_cons.mp hb with rfl | hb; exact hdo; nomatch hb)
  have hLb : base.get? L' = none := by
    cases q : base.get? L' with
    | none => rfl
    | some o => exact absurd (Heap.lt_size (st _ _ q)) (by rw [hL]; exact Nat.lt_irrefl _)
  clear hk hx hdx hE hxb hdb
  k_steps
  rename_i hh F0 N0 g' h2 tk' a' tb' a0' tn F2 ff2 st2 N2 l2 X2 T2
  clear F0 N0 X' T'
  k_steps
  refine hQ (.ret .none) _ ?_
  refine' hR _ _ (exitK tn ?F) (TokAt.of ?N ?hx ?hd ?e)
  case F => k_asm
  case N => k_asm
  case hx => k_dflt k_mem
  case hd => k_dflt k_mem
  case e => rfl
end Mine
end
section
open PySem PySem.W PySem.Calls PyProof.Rows
set_option maxRecDepth 100000
namespace Mine
theorem notFs {h base : Heap} {l : List Env} (ff : h.FunFrames base l) {e : Addr} {o : Obj} {vs : Array Value} (he : h.get? e = some o) (hd : o.data = .fields vs) : e ∉ fsOf l := fun m => by
  obtain ⟨_, o', ho, hnf⟩ := ff.mem m
  rw [he] at ho; injection ho with ho; subst ho; exact hnf _ hd
theorem Kept.trans' {X fs : List Addr} {h h1 : Heap} (k : Kept X fs h h1) (tb : Addr) (lt : h.objs.size ≤ tb) (f : Obj → Obj) : Kept X fs h (h1.update tb f) :=
  ⟨by rw [Heap.size_after_update]; exact k.size, fun b o q n => by
    obtain ⟨sl, q1, w1⟩ := k.keep b o q n
    refine ⟨sl, ?_, w1⟩
    rw [Heap.get?_update_other _ _ (fun z => by subst z; exact absurd (Heap.lt_size q) (Nat.not_lt.mpr lt))]
    exact q1⟩
theorem outPE {M : Model} {A : Around} {E : Value → Shared → Prop} {s : Shared} {base : Heap} {env : Env} {outer : List Env} {L e : Addr} {c : Value} {d : Option Addr} {a0 ctx c3 c4 : Value} {mk : Option Value} {R : Result → Shared → Prop}
    (hfr : A.frames = some (env :: outer)) (hl : s.heap.FunFrames base (env :: outer)) (hf : env.frame = some L)
    (he : s.heap.get? e = some (excO c d a0 .none ctx c3 c4))
    (hE : ∀ e s', wpAny M A (leaving env e) (fun _ s'' => R (.error e) s'') (fun e' s'' => R (.error e') s'') s' → E e s')
    (h : ∀ h' tb, h'.get? e = some (excO c d a0 (.ref tb) ctx c3 c4) → tb ≠ e → Tb h' tb .none → s.heap.get? tb = none → Kept [e] (fsOf (env :: outer)) s.heap h' → R (.error (.ref e)) { s with heap := h' }) :
    notedBy M (A.mark mk) env (cameBackBy M A env E) (.ref e) s := by
  unfold notedBy
  refine noteM (hfr : (A.mark mk).frames = some (env :: outer)) hl hf he (.inl rfl) fun h1 tb e1 n1 T1 z1 no1 => ?_
  have lt : s.heap.objs.size ≤ tb := by rcases z1 with z | z; cases z; exact z
  have k1 : Kept [e] (fsOf (env :: outer)) s.heap h1 := ⟨no1.size, fun b o q n => no1.keep b o q (fun z => n (by simp [z])) (by simp)⟩
  have ff1 : h1.FunFrames base (env :: outer) := k1.fun hl fun b hb => by
    simp only [List.mem_cons, List.not_mem_nil, or_false] at hb
    subst hb; exact notFs hl he rfl
  unfold cameBackBy
  refine wpAny_bind (wpAny_field e1 rfl rfl ?_)
  rw [if_neg (by simp)]
  rw [hf]
  refine setFlightM (s := { s with heap := h1 }) e1 T1 (some L) ?_
  have e2 : (h1.update tb (Obj.mapFields (·.setIfInBounds 3 (rawInt L)))).get? e = some (excO c d a0 (.ref tb) ctx c3 c4) := by rw [Heap.get?_update_other _ _ n1]; exact e1
  have T2 : Tb (h1.update tb (Obj.mapFields (·.setIfInBounds 3 (rawInt L)))) tb (rawInt L) := T1.set _
  have k2 : Kept [e] (fsOf (env :: outer)) s.heap (h1.update tb (Obj.mapFields (·.setIfInBounds 3 (rawInt L)))) := k1.trans' tb lt _
  have ff2 : (h1.update tb (Obj.mapFields (·.setIfInBounds 3 (rawInt L)))).FunFrames base (env :: outer) := k2.fun hl fun b hb => by
    simp only [List.mem_cons, List.not_mem_nil, or_false] at hb
    subst hb; exact notFs hl he rfl
  refine hE _ _ ?_
  refine leavingM (s := { s with heap := h1.update tb (Obj.mapFields (·.setIfInBounds 3 (rawInt L))) }) hfr ff2 hf e2 (.inr ⟨tb, _, rfl, n1, T2⟩) fun h3 tb3 e3 n3 T3 z3 no3 => ?_
  have k3 : Kept [e] (fsOf (env :: outer)) s.heap h3 := ⟨Nat.le_trans k2.size no3.size, fun b o q n => by
    obtain ⟨sl, q2, w2⟩ := k2.keep b o q n
    obtain ⟨sl3, q3, w3⟩ := no3.keep b _ q2 (fun z => n (by simp [z])) (fun z => by injection z with z; subst z; exact absurd (Heap.lt_size q) (Nat.not_lt.mpr lt))
    exact ⟨sl3, q3, fun nf => (w3 nf).trans (w2 nf)⟩⟩
  refine h h3 tb3 e3 n3 T3 ?_ k3
  rcases z3 with z | z
  · injection z with z; subst z; exact Heap.get?_none_of_le lt
  · exact Heap.get?_none_of_le (Nat.le_trans k2.size z)
end Mine
end
section
open PySem PySem.W PySem.Calls PyProof.Rows Mine
local macro_rules | `(tactic| wtm_at "m3") => `(tactic| (k_here; k_dflt (refine' strItemT (by assumption) (by omega) (by omega) ?_); intro t' tk'; wtm_at "d"))
local macro_rules | `(tactic| wtm_at "m4") => `(tactic| (k_here; k_dflt (refine' strItemOut (by k_asm) (by k_asm) (by omega) (by omega) ?k3 (by assumption) (by assumption); (case k3 => exact rfl))))
section
open PySem PySem.W PySem.Calls PyProof.Rows
set_option maxRecDepth 100000
namespace Mine
theorem fill7 : PySem.Challenge.rw_dw0053_01 = PySem.Challenge.rw_dw0053_01 ∧ ∀ P, Mine.hd.heap_39 P = Mine.hd.heap_39 P := by
  k_fill
  exact ⟨rfl, fun _ => rfl⟩
def HdSh (h : Heap) (hd : Option Value) : Prop := hd = none ∨ ∃ p, hd = some (.ref p) ∧ (∃ c, At2 h p c) ∧ (At2 h p .none ∨ ∃ q, At2 h p (.ref q) ∧ q ≠ p ∧ At2 h q .none)
theorem At2.turn {g h : Heap} (k : ∀ b o, g.get? b = some o → ∃ sl, h.get? b = some { o with slots := sl }) {p : Addr} {c : Value} (x : At2 g p c) : At2 h p c :=
  let ⟨o, vs, e, d, q⟩ := x
  let ⟨_, e'⟩ := k _ _ e
  ⟨_, vs, e', d, q⟩
theorem HdSh.turn {g h : Heap} (k : ∀ b o, g.get? b = some o → ∃ sl, h.get? b = some { o with slots := sl }) {hd : Option Value} (x : HdSh g hd) : HdSh h hd := by
  rcases x with rfl | ⟨p, rfl, ⟨c, a0⟩, a | ⟨q, a, ne, b⟩⟩
  · exact .inl rfl
  · exact .inr ⟨p, rfl, ⟨c, a0.turn k⟩, .inl (a.turn k)⟩
  · exact .inr ⟨p, rfl, ⟨c, a0.turn k⟩, .inr ⟨q, a.turn k, ne, b.turn k⟩⟩
theorem HdSh.ok {h : Heap} {hd : Option Value} (x : HdSh h hd) : HdOk h hd := by
  rcases x with rfl | ⟨p, rfl, ⟨c, a0⟩, a | ⟨q, a, ne, b⟩⟩
  · exact .inl rfl
  · exact .inr ⟨p, rfl, ⟨c, a0⟩, .inl a⟩
  · exact .inr ⟨p, rfl, ⟨c, a0⟩, .inr ⟨q, a, ne, ⟨_, b⟩, .inl b⟩⟩
theorem HdSh.more {g h : Heap} {a : Addr} {hd : Option Value} (x : HdSh g hd) (k : ∀ b o, g.get? b = some o → h.get? b = some o) (ga : g.get? a = none) (ha : At2 h a (hd.getD .none)) : HdOk h (some (.ref a)) := by
  have ne : ∀ {p : Addr} {c : Value}, At2 g p c → p ≠ a := fun ⟨o, _, e, _, _⟩ z => by rw [z, ga] at e; cases e
  rcases x with rfl | ⟨p, rfl, ⟨c, a0⟩, x | ⟨q, x, nq, b⟩⟩
  · exact .inr ⟨a, rfl, ⟨_, ha⟩, .inl ha⟩
  · exact .inr ⟨a, rfl, ⟨_, ha⟩, .inr ⟨p, ha, ne a0, ⟨_, a0.keep k⟩, .inl (x.keep k)⟩⟩
  · exact .inr ⟨a, rfl, ⟨_, ha⟩, .inr ⟨p, ha, ne a0, ⟨_, a0.keep k⟩, .inr ⟨q, x.keep k, ne b, b.keep k⟩⟩⟩
def LenIs (w : World) (gv : Value) (n : Int) : Prop := ∀ (A : Around) (s : Shared) (Q : Value → Shared → Prop) (E : Value → Shared → Prop), (∀ t' k, Q (.int n t') { s with toks := k }) → wpAny (model PySem.Challenge.rw_dw0053_01.row.prog w) A (call (.builtin "len") [gv]) Q E s
theorem LenIs.go {w : World} {gv : Value} {n : Int} (x : LenIs w gv n) {A : Around} {s : Shared} {Q : Value → Shared → Prop} {E : Value → Shared → Prop} (h : ∀ t' k, Q (.int n t') { s with toks := k }) : wpAny (model PySem.Challenge.rw_dw0053_01.row.prog w) A (call (.builtin "len") [gv]) Q E s := x A s Q E h
theorem loneRest {w : World} {mean : ExcName → Option Value} {mg mb : Str → Option Value} {base : Heap} {s : Shared} {x dx : Addr} {R : Result → Shared → Prop}
    {ist gv nx : Value} {T : Str} {i : Nat} {u : List Nat} {dp un : Nat} {outer : List Env} {gd : Option (List Code)} {hd : Option Value} {env : Env} {E : Value → Shared → Prop}
    {h1 h2 h3 h4 h5 : Int} {t1 t2 t3 t4 t5 td ti tm tp : Tok} {a i0 it L : Addr} {m : Str → Option Value} {H g' : Heap} {tk : Nat}
    (PI : PeInit w gv u i) (hB : BaseOk w mean mg mb base) (st : base.StaysIn s.heap) (F : Fr g' L H m)
    (N : News g' L H [(a, excO (.type "IndexError") none (.ref i0) (.ref it) (hd.getD .none) .none (.bool false)), (x, instObj 133 dx), (dx, dictOf [⟨h1, .str (Str.ofString "istext") t1, ist⟩, ⟨h2, .str (Str.ofString "string") t2, gv⟩, ⟨h3, .str (Str.ofString "decoded_string") t3, .str T td⟩, ⟨h4, .str (Str.ofString "index") t4, .int (i : Int) ti⟩, ⟨h5, .str (Str.ofString "next") t5, nx⟩] 5)])
    (ff : g'.FunFrames base outer) (tn : KtsTurn (fsOf outer) (hideAll s.heap [x, dx]) g') (stg : base.StaysIn g') (hhx : HdSh (hideAll s.heap [x, dx]) hd) (hL : L = s.heap.objs.size) (hLb : base.get? L = none)
    (hxo : x ∉ fsOf outer) (hdo : dx ∉ fsOf outer) (hxd : x ≠ dx) (l1 : x < a ∧ dx < a)
    (hfr : (({ handled := hd, depth := dp, frames := some outer, guards := gd, units := un } : Around).deeper env).frames = some (env :: outer)) (hf : env.frame = some L) (hkm : env.scope.kind ≠ .module)
    (hroom : dp + 1 + 1 < recursionLimit)
    (hE : ∀ e s', wpAny (model PySem.Challenge.rw_dw0053_01.row.prog w) (({ handled := hd, depth := dp, frames := some outer, guards := gd, units := un } : Around).deeper env) (leaving env e) (fun _ s'' => R (.error e) s'') (fun e' s'' => R (.error e') s'') s' → E e s')
    (hR : ∀ h' tk e de a0 tb ia i0 it, Kept [x, dx] (fsOf outer) s.heap h' → TokAt h' x dx ist gv T i nx → h'.get? e = some (excO (.ref 41) (some de) (.ref a0) (.ref tb) (.ref ia) .none (.bool true)) →
      h'.get? ia = some (excO (.type "IndexError") none (.ref i0) (.ref it) (hd.getD .none) .none (.bool false)) → Tb h' tb .none → PEd w.params h' de gv u i → PEt h' a0 u i →
      (∀ b ∈ [e, de, a0, tb, ia], s.heap.get? b = none) → tb ≠ e → tb ≠ ia → R (.error (.ref e)) { s with heap := h', toks := tk }) :
    codeAny (model PySem.Challenge.rw_dw0053_01.row.prog w) ((({ handled := hd, depth := dp, frames := some outer, guards := gd, units := un } : Around).deeper env).mark (some (.ref a))) (.call (.ref 41) ⟨[.str (Str.ofString "bad escape (end of pattern)") tm, gv, .int (i : Int) tp], []⟩)
      (fun r s' => match r with
        | .ok (.ret v) => (fun v s₁ => ∃ a1 de a0 g, v = .ref a1 ∧ (Mine.hd.heap_39 w.params).In s₁.heap ∧ s₁.heap.get? a1 = some (excO (.ref 41) (some de) (.ref a0) .none .none .none (.bool false)) ∧
            HdOk g (some (.ref a)) ∧ g.get? a1 = none ∧ (∀ b o, g.get? b = some o → s₁.heap.get? b = some o) ∧
            ∀ h', Kept [a1] [] s₁.heap h' → h'.get? a1 = some (excO (.ref 41) (some de) (.ref a0) .none (.ref a) .none (.bool true)) →
              notedBy (model PySem.Challenge.rw_dw0053_01.row.prog w) ((({ handled := hd, depth := dp, frames := some outer, guards := gd, units := un } : Around).deeper env).mark (some (.ref a))) env (cameBackBy (model PySem.Challenge.rw_dw0053_01.row.prog w) (({ handled := hd, depth := dp, frames := some outer, guards := gd, units := un } : Around).deeper env) env E) (.ref a1) { s₁ with heap := h' }) v s'
        | .ok _ => False
        | .error e => notedBy (model PySem.Challenge.rw_dw0053_01.row.prog w) ((({ handled := hd, depth := dp, frames := some outer, guards := gd, units := un } : Around).deeper env).mark (some (.ref a))) env (cameBackBy (model PySem.Challenge.rw_dw0053_01.row.prog w) (({ handled := hd, depth := dp, frames := some outer, guards := gd, units := un } : Around).deeper env) env E) e s') { s with heap := H, toks := tk } := by
  have na := N _ (List.mem_cons_self ..)
  have nx' := N _ (List.mem_cons_of_mem _ (List.mem_cons_self ..))
  have nd := N _ (List.mem_cons_of_mem _ (List.mem_cons_of_mem _ (List.mem_cons_self ..)))
  have hH : HdOk H (some (.ref a)) := (hhx.turn fun b o q => tn.up q).more F.keep na.2.2 ⟨_, _, na.1, rfl, rfl⟩
  have stH : base.StaysIn H := fun b o e => F.keep _ _ (stg _ _ e)
  have ffH : H.FunFrames base outer := ff.of_keeps fun b o e _ => ⟨o, F.keep b o e, rfl⟩
  have ffL : H.FunFrames base (env :: outer) := Heap.FunFrames.cons hkm hf F.ns hLb ffH
  have KH : Kept [x, dx] (fsOf outer) s.heap H := exitK tn F
  have up : ∀ b, H.get? b = none → s.heap.get? b = none := fun b e => by
    cases q : s.heap.get? b with
    | none => rfl
    | some o =>
      by_cases hm : b ∈ [x, dx]
      · rcases List.mem_cons.mp hm with rfl | hm
        · rw [nx'.1] at e; cases e
        · rcases List.mem_cons.mp hm with rfl | hm
          · rw [nd.1] at e; cases e
          · nomatch hm
      · obtain ⟨sl, q', _⟩ := KH.keep b o q hm
        rw [e] at q'; cases q'
  have sL : s.heap.get? L = none := Heap.get?_none_of_le (by rw [hL]; exact Nat.le_refl _)
  refine mkPE PI hB stH hroom hH fun h3 tk3 e de a0 k3 x1 x2 x3 n1 n2 n3 => ?_
  have eL : ∀ b, H.get? b = none → b ∉ L :: fsOf outer := fun b q m => by
    rcases List.mem_cons.mp m with rfl | m
    · obtain ⟨o, _, _, ho, _⟩ := F.ns; rw [q] at ho; cases ho
    · obtain ⟨_, o, ho, _⟩ := ffH.mem m; rw [q] at ho; cases ho
  refine ⟨e, de, a0, H, rfl, hB.X.keeps (fun b o q => k3.get (stH _ _ q) (by simp) (by simp)), x1, hH, n1, fun b o q => k3.get q (by simp) (by simp), fun h4 k4 x4 => ?_⟩
  have KK : Kept [e] [] H h4 := (k3.mono (by simp) (by simp)).trans k4
  have en : ∀ b ∈ [e], b ∉ fsOf (env :: outer) := fun b hb => by
    simp only [List.mem_cons, List.not_mem_nil, or_false] at hb
    subst hb
    unfold fsOf; rw [List.filterMap_cons, hf]; exact eL _ n1
  refine outPE (s := { s with heap := h4, toks := tk3 }) hfr (KK.fun ffL en) hf x4 hE fun h6 tb y1 y2 y3 y4 k5 => ?_
  have k5' : Kept [e] (L :: fsOf outer) h4 h6 := by
    have q : fsOf (env :: outer) = L :: fsOf outer := by unfold fsOf; rw [List.filterMap_cons, hf]
    rw [q] at k5; exact k5
  have K6 : Kept [e] (L :: fsOf outer) H h6 := (KK.mono (fun b m => .inl m) (by simp)).trans k5'
  have ne : ∀ {b : Addr} {o : Obj}, H.get? b = some o → b ∉ [e] := fun q m => by
    simp only [List.mem_cons, List.not_mem_nil, or_false] at m
    rw [m, n1] at q; cases q
  have k4' : Kept [e] (L :: fsOf outer) h3 h6 := (k4.mono (fun b m => .inl m) (by simp)).trans k5'
  have de' : de ∉ [e] := fun m => by
    simp only [List.mem_cons, List.not_mem_nil, or_false] at m
    obtain ⟨_, _, _, _, _, _, _, _, _, q⟩ := x2
    rw [m, x1] at q; cases q
  have a0' : a0 ∉ [e] := fun m => by
    simp only [List.mem_cons, List.not_mem_nil, or_false] at m
    obtain ⟨_, q⟩ := x3
    rw [m, x1] at q; cases q
  have tbH : H.get? tb = none := by
    cases q : H.get? tb with
    | none => rfl
    | some o =>
      obtain ⟨sl, q', _⟩ := KK.keep _ _ q (ne q)
      have y4' : h4.get? tb = none := y4
      rw [y4'] at q'; cases q'
  refine hR h6 tk3 e de a0 tb a i0 it ⟨Nat.le_trans KH.size K6.size, fun b o q nb => ?_⟩ ⟨K6.get nx'.1 (ne nx'.1) ?_, _, _, _, _, _, _, _, _, _, _, _, _, K6.get nd.1 (ne nd.1) ?_⟩ y1 (K6.get na.1 (ne na.1) ?_) y3 ?_ ?_ ?_ y2 (fun z => by rw [z, na.1] at tbH; cases tbH)
  · obtain ⟨sl, q1, w1⟩ := KH.keep b o q nb
    obtain ⟨sl2, q2, w2⟩ := K6.keep b _ q1 (ne q1)
    refine ⟨sl2, q2, fun nf => (w2 fun m => ?_).trans (w1 nf)⟩
    rcases List.mem_cons.mp m with rfl | m
    · rw [sL] at q; cases q
    · exact nf m
  · exact fun m => by
      rcases List.mem_cons.mp m with z | m
      · exact nx'.2.1 z
      · exact hxo m
  · exact fun m => by
      rcases List.mem_cons.mp m with z | m
      · exact nd.2.1 z
      · exact hdo m
  · exact fun m => by
      rcases List.mem_cons.mp m with z | m
      · exact na.2.1 z
      · exact notFs ffH na.1 rfl m
  · obtain ⟨b1, b2, b3, b4, b5, b6, b7, b8, b9, q⟩ := x2
    exact ⟨b1, b2, b3, b4, b5, b6, b7, b8, b9, k4'.get q de' (eL _ n2)⟩
  · obtain ⟨b1, q⟩ := x3
    exact ⟨b1, k4'.get q a0' (eL _ n3)⟩
  · intro b hb
    simp only [List.mem_cons, List.not_mem_nil, or_false] at hb
    rcases hb with rfl | rfl | rfl | rfl | rfl
    · exact up _ n1
    · exact up _ n2
    · exact up _ n3
    · refine up _ ?_
      cases q : H.get? b with
      | none => rfl
      | some o =>
        obtain ⟨sl, q', _⟩ := KK.keep _ _ q (ne q)
        have y4' : h4.get? b = none := y4
        rw [y4'] at q'; cases q'
    · cases q : s.heap.get? b with
      | none => rfl
      | some o =>
        have q1 := hideAll_get [x, dx] q (by
          simp only [List.mem_cons, List.not_mem_nil, or_false]
          rintro (z | z)
          · exact absurd z (Nat.ne_of_gt l1.1)
          · exact absurd z (Nat.ne_of_gt l1.2))
        obtain ⟨sl, q2⟩ := tn.up q1
        rw [na.2.2] at q2; cases q2
local macro_rules | `(tactic| k_handed) => `(tactic| assumption)
local macro_rules | `(tactic| k_room) => `(tactic| wtm_at "m0")
local macro_rules | `(tactic| walk_at "exec Try") => `(tactic| (k_here; (with_reducible show wpAny _ _ (exec (Stmt.Try [Stmt.AugAssign _ _ _ _] _ _ _ _) _) _ _ _); k_dflt (refine' tryIdx (by k_asm) (by k_asm) (by assumption) (by assumption) (by exact rfl) (by exact rfl) (by (intro hh; cases hh)) (by assumption) (by exact idxName_of (by assumption) rfl rfl) ?hbody ?k; (case' hbody => (intro E' hE')); (case' k => (intro g' h' tk' a' tb' a0' tn' F' ff' st' N' l1'; (try k_lt l1'); (obtain ⟨X', T'⟩ := BaseOk.both (by assumption) st'); wtm_at "s"; wtm_at "d")))))
local macro_rules | `(tactic| walk_at "exec Try") => `(tactic| (k_here; (with_reducible show wpAny _ _ (exec (Stmt.Try [Stmt.Assign _ _ _] _ _ _ _) _) _ _ _); (refine Try_quiet fun E' => ?_)))
local macro_rules | `(tactic| walk_at "subscriptTail Name Name str int") => `(tactic| wtm_at "m3")
local macro_rules | `(tactic| walk_at "ite") => `(tactic| wtm_at "m2")
local macro_rules | `(tactic| walk_at "exec Raise") => `(tactic| (k_here; (refine Raise_PE rfl ?_)))
local macro_rules | `(tactic| walk_at "call builtin:len") => `(tactic| (k_here; (refine LenIs.go (by assumption) fun t' tk' => ?_); wtm_at "d"))
local macro_rules | `(tactic| walk_at "call ref") => `(tactic| (fail))
local macro_rules | `(tactic| walk_at "subscriptTail Name Name str int") => `(tactic| wtm_at "m4")
set_option maxHeartbeats 4000000 in
theorem nextLone {w : World} {mean : ExcName → Option Value} {mg mb : Str → Option Value} {base : Heap} {s : Shared} {x dx : Addr} {R : Result → Shared → Prop}
    {ist gv nx : Value} {T : Str} {i : Nat} 
    {hd : Option Value} {dp un : Nat} {outer : List Env} {gd : Option (List Code)}
    (hB : BaseOk w mean mg mb base) (st : base.StaysIn s.heap)
    (hT : TokAt s.heap x dx ist gv T i nx) (hxb : base.get? x = none) (hdb : base.get? dx = none)
    (hroom : dp + 2 < recursionLimit) {u : List Nat} (PI : PeInit w gv u i) (hln : LenIs w gv ((i : Int) + 1)) (hgv : handedIn gv = true) (hc : T.cps.toList[i]? = some 92) (hlen : T.length = i + 1) (hi : i < 900) (ff : s.heap.FunFrames base outer) (hxo : x ∉ fsOf outer) (hdo : dx ∉ fsOf outer)
    (hhx : HdSh (hideAll s.heap [x, dx]) hd)
    (hR : ∀ h' tk e de a0 tb ia i0 it, Kept [x, dx] (fsOf outer) s.heap h' → TokAt h' x dx ist gv T i nx → h'.get? e = some (excO (.ref 41) (some de) (.ref a0) (.ref tb) (.ref ia) .none (.bool true)) →
      h'.get? ia = some (excO (.type "IndexError") none (.ref i0) (.ref it) (hd.getD .none) .none (.bool false)) → Tb h' tb .none → PEd w.params h' de gv u i → PEt h' a0 u i →
      (∀ b ∈ [e, de, a0, tb, ia], s.heap.get? b = none) → tb ≠ e → tb ≠ ia → R (.error (.ref e)) { s with heap := h', toks := tk }) :
    codeAny (model PySem.Challenge.rw_dw0053_01.row.prog w) { handled := hd, depth := dp, frames := some outer, guards := gd, units := un } (.call (.ref 65) ⟨[.ref x], []⟩) R s := by
  obtain ⟨hx, h1, h2, h3, h4, h5, t1, t2, t3, t4, t5, td, ti, hdx⟩ := hT
  refine' enterM (binds := [(Str.ofString "self", .ref x)]) [x, dx] (hB.X.keeps st) (hB.T.nolimit.keeps st) ?k3 ?k4 ?k5 ?k6 ?k7 ?h ?c1 ?c2 ?c3 ?c4
  case k3 => k_is
  case k4 => k_is
  case k5 => k_room
  case k6 => exact BindsTo.of_eq rfl
  case k7 => exact locs rfl
  case c1 => exact rfl
  case c2 => exact rfl
  case c3 => exact rfl
  case c4 => decide
  intro L' h₁ hL F' hk Q E hQ hE
  have stG : base.StaysIn (hideAll s.heap [x, dx]) := apartNone st (by simp [hxb, hdb])
  have X' := hB.X.keeps stG
  have T' : TopM mean mg mb (hideAll s.heap [x, dx]) := hB.T.keeps stG
  have N' : News (hideAll s.heap [x, dx]) L' h₁ [(x, instObj 133 dx), (dx, dictOf [⟨h1, .str (Str.ofString "istext") t1, ist⟩, ⟨h2, .str (Str.ofString "string") t2, gv⟩, ⟨h3, .str (Str.ofString "decoded_string") t3, .str T td⟩, ⟨h4, .str (Str.ofString "index") t4, .int (i : Int) ti⟩, ⟨h5, .str (Str.ofString "next") t5, nx⟩] 5)] := by
    intro p hp
    rcases List.mem_cons.mp hp with rfl | hp
    · exact ⟨hk _ _ hx, by have := Heap.lt_size hx; subst hL; exact Nat.ne_of_lt this, hideAll_none _ (by simp)⟩
    rcases List.mem_cons.mp hp with rfl | hp
    · exact ⟨hk _ _ hdx, by have := Heap.lt_size hdx; subst hL; exact Nat.ne_of_lt this, hideAll_none _ (by simp)⟩
    · nomatch hp
  have hH := hhx.ok
  have heq : ((⟨#[92]⟩ : Str) == Str.ofString "\\") = true := by decide +kernel
  have hc' : T.cps.toList[(i : Int).toNat]? = some 92 := hc
  have hxd : x ≠ dx := by rintro rfl; rw [hx] at hdx; cases hdx
  have hdx' : dx ≠ x := Ne.symm hxd
  have ffG : (hideAll s.heap [x, dx]).FunFrames base outer := funHide ff (by intro b hb; rcases List.mem_cons.mp hb with rfl | hb; exact hxo; rcases List.mem_cons.mp hb with rfl | hb; exact hdo; nomatch hb)
  have hLb : base.get? L' = none := by
    cases q : base.get? L' with
    | none => rfl
    | some o => exact absurd (Heap.lt_size (st _ _ q)) (by rw [hL]; exact Nat.lt_irrefl _)
  clear hk hx hdx hxb hdb
  k_steps
  rename Fr (hideAll _ _) _ _ _ => F0
  rename News (hideAll _ _) _ _ _ => N0
  clear F0 N0 X' T'
  k_steps
  rename Fr _ L' _ _ => F3
  rename News _ L' _ _ => N3
  rename Heap.FunFrames _ base outer => ff3
  rename KtsTurn _ _ _ => tn3
  rename Heap.StaysIn base _ => st3
  refine wpAny_call ?_
  have ez : ((i : Int) + 1 - 1) = (i : Int) := by omega
  rw [ez]
  refine loneRest PI hB st F3 N3 ff3 tn3 st3 hhx hL hLb hxo hdo hxd (by assumption) rfl rfl (by intro hh; cases hh) (by show dp + 1 + 1 < recursionLimit; omega) hE hR
end Mine
end
section
open PySem PySem.W PySem.Calls PyProof.Rows
set_option maxRecDepth 100000
namespace Mine
structure GivOk (w : World) (gv : Value) (T : Str) : Prop where
  pi : ∀ i, T.length = i + 1 → PeInit w gv T.cps.toList i
  len : LenIs w gv (T.length : Int)
  handed : handedIn gv = true
  short : T.length ≤ 100
def nxSign (u : List Nat) (i : Nat) : Option (List Nat) := match u[i]? with
  | none => none
  | some c => if c = 92 then (match u[i + 1]? with | some d => some [92, d] | none => none) else some [c]
def nxIdx (u : List Nat) (i : Nat) : Nat := match u[i]? with
  | none => i
  | some c => if c = 92 then (match u[i + 1]? with | some _ => i + 2 | none => i) else i + 1
def lone (u : List Nat) (i : Nat) : Prop := u[i]? = some 92 ∧ u[i + 1]? = none
def NxVal : Option (List Nat) → Value → Prop
  | none, v => v = .none
  | some l, v => ∃ t, v = .str ⟨l.toArray⟩ t
/-- what a raising __next leaves -/
inductive Loned (w : World) (gv : Value) (T : Str) (s : Shared) (x dx : Addr) (X fs : List Addr) (hd : Option Value) (i : Nat) (h' : Heap) (e : Addr) : Prop
  | mk (de a0 tb ia i0 it : Addr) (k : Kept X fs s.heap h') (q1 : h'.get? e = some (excO (.ref 41) (some de) (.ref a0) (.ref tb) (.ref ia) .none (.bool true)))
    (q2 : h'.get? ia = some (excO (.type "IndexError") none (.ref i0) (.ref it) (hd.getD .none) .none (.bool false))) (q3 : Tb h' tb .none) (q4 : PEd w.params h' de gv T.cps.toList i) (q5 : PEt h' a0 T.cps.toList i)
    (q6 : ∀ b ∈ [e, de, a0, tb, ia], s.heap.get? b = none) (q7 : tb ≠ e) (q8 : tb ≠ ia) : Loned w gv T s x dx X fs hd i h' e
theorem nextC {w : World} {mean : ExcName → Option Value} {mg mb : Str → Option Value} {base : Heap} {s : Shared} {x dx : Addr} {R : Result → Shared → Prop}
    {ist gv nx : Value} {T : Str} {i : Nat} {hd : Option Value} {dp un : Nat} {outer : List Env} {gd : Option (List Code)}
    (G : GivOk w gv T) (hB : BaseOk w mean mg mb base) (st : base.StaysIn s.heap)
    (hT : TokAt s.heap x dx ist gv T i nx) (hxb : base.get? x = none) (hdb : base.get? dx = none) (hi : i ≤ T.length)
    (hroom : dp + 2 < recursionLimit) (ff : s.heap.FunFrames base outer) (hxo : x ∉ fsOf outer) (hdo : dx ∉ fsOf outer) (hhx : HdSh (hideAll s.heap [x, dx]) hd)
    (hR : ∀ h' tk nx', ¬ lone T.cps.toList i → Kept [x, dx] (fsOf outer) s.heap h' → TokAt h' x dx ist gv T (nxIdx T.cps.toList i) nx' → NxVal (nxSign T.cps.toList i) nx' → R (.ok (.ret .none)) { s with heap := h', toks := tk })
    (hE : ∀ h' tk e, lone T.cps.toList i → TokAt h' x dx ist gv T i nx → Loned w gv T s x dx [x, dx] (fsOf outer) hd i h' e → R (.error (.ref e)) { s with heap := h', toks := tk }) :
    codeAny (model PySem.Challenge.rw_dw0053_01.row.prog w) { handled := hd, depth := dp, frames := some outer, guards := gd, units := un } (.call (.ref 65) ⟨[.ref x], []⟩) R s := by
  have tl : T.cps.toList.length = T.length := by simp [Str.length]
  have sh := G.short
  cases q : T.cps.toList[i]? with
  | none =>
    refine nextEnd hB st hT hxb hdb (by omega) ?_ (by omega) ff hxo hdo hhx.ok fun h' tk k t => ?_
    · have := List.getElem?_eq_none_iff.mp q
      omega
    · refine hR h' tk .none (fun l => by rw [l.1] at q; cases q) k ?_ ?_
      · unfold nxIdx; rw [q]; exact t
      · unfold nxSign; rw [q]; rfl
  | some c =>
    by_cases hc : c = 92
    · subst hc
      cases q1 : T.cps.toList[i + 1]? with
      | some d =>
        refine nextPair hB st hT hxb hdb (by omega) q q1 (by omega) fun h' tk t k tt => ?_
        refine hR h' tk (.str ⟨#[92, d]⟩ t) (fun l => by rw [l.2] at q1; cases q1) (k.mono (fun b m => .inl m) (fun b m => nomatch m)) ?_ ?_
        · unfold nxIdx; rw [q, q1]; exact tt
        · unfold nxSign; rw [q, q1]; exact ⟨t, rfl⟩
      | none =>
        have e1 : T.length = i + 1 := by
          have a := List.getElem?_eq_none_iff.mp q1
          have b := (List.getElem?_eq_some_iff.mp q).1
          omega
        refine nextLone hB st hT hxb hdb (by omega) (G.pi i e1) (by have := G.len; rw [e1] at this; exact this) G.handed q e1 (by omega) ff hxo hdo hhx fun h' tk e de a0 tb ia i0 it k t a1 a2 a3 a4 a5 a6 a7 a8 => ?_
        exact hE h' tk e ⟨q, q1⟩ t ⟨de, a0, tb, ia, i0, it, k, a1, a2, a3, a4, a5, a6, a7, a8⟩
    · refine nextPlain hB st hT hxb hdb hc (by omega) q (by omega) fun h' tk t k tt => ?_
      refine hR h' tk (.str ⟨#[c]⟩ t) (fun l => by rw [l.1] at q; injection q with q; exact hc q.symm) (k.mono (fun b m => .inl m) (fun b m => nomatch m)) ?_ ?_
      · unfold nxIdx; rw [q]; dsimp only; rw [if_neg hc]; exact tt
      · unfold nxSign; rw [q]; dsimp only; rw [if_neg hc]; exact ⟨t, rfl⟩
end Mine
end
section
open PySem PySem.W PySem.Calls PyProof.Rows
set_option maxRecDepth 100000
namespace Mine
theorem fill8 : PySem.Challenge.rw_dw0053_01 = PySem.Challenge.rw_dw0053_01 ∧ ∀ P, Mine.hd.heap_39 P = Mine.hd.heap_39 P := by
  k_fill
  exact ⟨rfl, fun _ => rfl⟩
local macro_rules | `(tactic| k_room) => `(tactic| wtm_at "m0")
set_option maxHeartbeats 4000000 in
theorem tellN {w : World} {mean : ExcName → Option Value} {mg mb : Str → Option Value} {base : Heap} {s : Shared} {x dx : Addr} {R : Result → Shared → Prop}
    {ist gv : Value} {T : Str} {i : Nat} 
    {hd : Option Value} {dp un : Nat} {outer : Option (List Env)} {gd : Option (List Code)}
    (hB : BaseOk w mean mg mb base) (st : base.StaysIn s.heap)
    (hT : TokAt s.heap x dx ist gv T i .none) (hxb : base.get? x = none) (hdb : base.get? dx = none)
    (hroom : dp < recursionLimit) (hi : i < 900)
    (hR : ∀ h' tk t, Kept [x, dx] [] s.heap h' → TokAt h' x dx ist gv T i .none → R (.ok (.ret (.int (i : Int) t))) { s with heap := h', toks := tk }) :
    codeAny (model PySem.Challenge.rw_dw0053_01.row.prog w) { handled := hd, depth := dp, frames := outer, guards := gd, units := un } (.call (.ref 108) ⟨[.ref x], []⟩) R s := by
  obtain ⟨hx, h1, h2, h3, h4, h5, t1, t2, t3, t4, t5, td, ti, hdx⟩ := hT
  refine' enterM (binds := [(Str.ofString "self", .ref x)]) [x, dx] (hB.X.keeps st) (hB.T.nolimit.keeps st) ?k3 ?k4 ?k5 ?k6 ?k7 ?h ?c1 ?c2 ?c3 ?c4
  case k3 => k_is
  case k4 => k_is
  case k5 => k_room
  case k6 => exact BindsTo.of_eq rfl
  case k7 => exact locs rfl
  case c1 => exact rfl
  case c2 => exact rfl
  case c3 => exact rfl
  case c4 => decide
  intro L' h₁ hL F' hk Q E hQ hE
  have stG : base.StaysIn (hideAll s.heap [x, dx]) := apartNone st (by simp [hxb, hdb])
  have X' := hB.X.keeps stG
  have T' : TopM mean mg mb (hideAll s.heap [x, dx]) := hB.T.keeps stG
  have N' : News (hideAll s.heap [x, dx]) L' h₁ [(x, instObj 133 dx), (dx, dictOf [⟨h1, .str (Str.ofString "istext") t1, ist⟩, ⟨h2, .str (Str.ofString "string") t2, gv⟩, ⟨h3, .str (Str.ofString "decoded_string") t3, .str T td⟩, ⟨h4, .str (Str.ofString "index") t4, .int (i : Int) ti⟩, ⟨h5, .str (Str.ofString "next") t5, .none⟩] 5)] := by
    intro p hp
    rcases List.mem_cons.mp hp with rfl | hp
    · exact ⟨hk _ _ hx, by have := Heap.lt_size hx; subst hL; exact Nat.ne_of_lt this, hideAll_none _ (by simp)⟩
    rcases List.mem_cons.mp hp with rfl | hp
    · exact ⟨hk _ _ hdx, by have := Heap.lt_size hdx; subst hL; exact Nat.ne_of_lt this, hideAll_none _ (by simp)⟩
    · nomatch hp
  have hxd : x ≠ dx := by rintro rfl; rw [hx] at hdx; cases hdx
  have hdx' : dx ≠ x := Ne.symm hxd
  clear hk hx hdx hE hxb hdb
  k_steps
  refine hQ (.ret _) _ ?_
  dsimp only
  have fin : ∀ (j : Int) (t : Tok) (s' : Shared), j = (i : Int) → R (.ok (.ret (.int (i : Int) t))) s' → R (.ok (.ret (.int j t))) s' := fun j t s' e r => by rw [e]; exact r
  refine' fin _ _ _ ?e (hR _ _ _ (exitK KtsTurn.refl ?F) (TokAt.of ?N ?hx ?hd rfl))
  case F => k_asm
  case N => k_asm
  case hx => k_dflt k_mem
  case hd => k_dflt k_mem
  case e => first | (show (i : Int) - 0 = _; omega) | omega | (simp; done)
set_option maxHeartbeats 4000000 in
theorem tellS {w : World} {mean : ExcName → Option Value} {mg mb : Str → Option Value} {base : Heap} {s : Shared} {x dx : Addr} {R : Result → Shared → Prop}
    {ist gv : Value} {T z : Str} {tz : Tok} {i : Nat} 
    {hd : Option Value} {dp un : Nat} {outer : Option (List Env)} {gd : Option (List Code)}
    (hB : BaseOk w mean mg mb base) (st : base.StaysIn s.heap)
    (hT : TokAt s.heap x dx ist gv T i (.str z tz)) (hxb : base.get? x = none) (hdb : base.get? dx = none)
    (hroom : dp < recursionLimit) (hi : i < 900) (hz : 0 < z.length) (hz9 : z.length < 900)
    (hR : ∀ h' tk t, Kept [x, dx] [] s.heap h' → TokAt h' x dx ist gv T i (.str z tz) → R (.ok (.ret (  .int ((i : Int) - (z.length : Int)) t))) { s with heap := h', toks := tk }) :
    codeAny (model PySem.Challenge.rw_dw0053_01.row.prog w) { handled := hd, depth := dp, frames := outer, guards := gd, units := un } (.call (.ref 108) ⟨[.ref x], []⟩) R s := by
  obtain ⟨hx, h1, h2, h3, h4, h5, t1, t2, t3, t4, t5, td, ti, hdx⟩ := hT
  refine' enterM (binds := [(Str.ofString "self", .ref x)]) [x, dx] (hB.X.keeps st) (hB.T.nolimit.keeps st) ?k3 ?k4 ?k5 ?k6 ?k7 ?h ?c1 ?c2 ?c3 ?c4
  case k3 => k_is
  case k4 => k_is
  case k5 => k_room
  case k6 => exact BindsTo.of_eq rfl
  case k7 => exact locs rfl
  case c1 => exact rfl
  case c2 => exact rfl
  case c3 => exact rfl
  case c4 => decide
  intro L' h₁ hL F' hk Q E hQ hE
  have stG : base.StaysIn (hideAll s.heap [x, dx]) := apartNone st (by simp [hxb, hdb])
  have X' := hB.X.keeps stG
  have T' : TopM mean mg mb (hideAll s.heap [x, dx]) := hB.T.keeps stG
  have N' : News (hideAll s.heap [x, dx]) L' h₁ [(x, instObj 133 dx), (dx, dictOf [⟨h1, .str (Str.ofString "istext") t1, ist⟩, ⟨h2, .str (Str.ofString "string") t2, gv⟩, ⟨h3, .str (Str.ofString "decoded_string") t3, .str T td⟩, ⟨h4, .str (Str.ofString "index") t4, .int (i : Int) ti⟩, ⟨h5, .str (Str.ofString "next") t5, .str z tz⟩] 5)] := by
    intro p hp
    rcases List.mem_cons.mp hp with rfl | hp
    · exact ⟨hk _ _ hx, by have := Heap.lt_size hx; subst hL; exact Nat.ne_of_lt this, hideAll_none _ (by simp)⟩
    rcases List.mem_cons.mp hp with rfl | hp
    · exact ⟨hk _ _ hdx, by have := Heap.lt_size hdx; subst hL; exact Nat.ne_of_lt this, hideAll_none _ (by simp)⟩
    · nomatch hp
  have hxd : x ≠ dx := by rintro rfl; rw [hx] at hdx; cases hdx
  have hdx' : dx ≠ x := Ne.symm hxd
  have hzz : (z.length != 0) = true := by rw [bne_iff_ne]; omega
  clear hk hx hdx hE hxb hdb
  k_steps
  rotate_left
  · exfalso; omega
  refine hQ (.ret _) _ ?_
  dsimp only
  have fin : ∀ (j : Int) (t : Tok) (s' : Shared), j = (i : Int) - (z.length : Int) → R (.ok (.ret (  .int ((i : Int) - (z.length : Int)) t))) s' → R (.ok (.ret (.int j t))) s' := fun j t s' e r => by rw [e]; exact r
  refine' fin _ _ _ ?e (hR _ _ _ (exitK KtsTurn.refl ?F) (TokAt.of ?N ?hx ?hd rfl))
  case F => k_asm
  case N => k_asm
  case hx => k_dflt k_mem
  case hd => k_dflt k_mem
  case e => first | rfl | omega | (simp; done)
set_option maxHeartbeats 4000000 in
theorem posS {w : World} {mean : ExcName → Option Value} {mg mb : Str → Option Value} {base : Heap} {s : Shared} {x dx : Addr} {R : Result → Shared → Prop}
    {ist gv : Value} {T z : Str} {tz : Tok} {i : Nat} 
    {hd : Option Value} {dp un : Nat} {outer : Option (List Env)} {gd : Option (List Code)}
    (hB : BaseOk w mean mg mb base) (st : base.StaysIn s.heap)
    (hT : TokAt s.heap x dx ist gv T i (.str z tz)) (hxb : base.get? x = none) (hdb : base.get? dx = none)
    (hroom : dp < recursionLimit) (hi : i < 900) (hz : 0 < z.length) (hz9 : z.length < 900)
    (hR : ∀ h' tk t, Kept [x, dx] [] s.heap h' → TokAt h' x dx ist gv T i (.str z tz) → R (.ok (.ret (  .int ((i : Int) - (z.length : Int)) t))) { s with heap := h', toks := tk }) :
    codeAny (model PySem.Challenge.rw_dw0053_01.row.prog w) { handled := hd, depth := dp, frames := outer, guards := gd, units := un } (.call (.ref 100) ⟨[.ref x], []⟩) R s := by
  obtain ⟨hx, h1, h2, h3, h4, h5, t1, t2, t3, t4, t5, td, ti, hdx⟩ := hT
  refine' enterM (binds := [(Str.ofString "self", .ref x)]) [x, dx] (hB.X.keeps st) (hB.T.nolimit.keeps st) ?k3 ?k4 ?k5 ?k6 ?k7 ?h ?c1 ?c2 ?c3 ?c4
  case k3 => k_is
  case k4 => k_is
  case k5 => k_room
  case k6 => exact BindsTo.of_eq rfl
  case k7 => exact locs rfl
  case c1 => exact rfl
  case c2 => exact rfl
  case c3 => exact rfl
  case c4 => decide
  intro L' h₁ hL F' hk Q E hQ hE
  have stG : base.StaysIn (hideAll s.heap [x, dx]) := apartNone st (by simp [hxb, hdb])
  have X' := hB.X.keeps stG
  have T' : TopM mean mg mb (hideAll s.heap [x, dx]) := hB.T.keeps stG
  have N' : News (hideAll s.heap [x, dx]) L' h₁ [(x, instObj 133 dx), (dx, dictOf [⟨h1, .str (Str.ofString "istext") t1, ist⟩, ⟨h2, .str (Str.ofString "string") t2, gv⟩, ⟨h3, .str (Str.ofString "decoded_string") t3, .str T td⟩, ⟨h4, .str (Str.ofString "index") t4, .int (i : Int) ti⟩, ⟨h5, .str (Str.ofString "next") t5, .str z tz⟩] 5)] := by
    intro p hp
    rcases List.mem_cons.mp hp with rfl | hp
    · exact ⟨hk _ _ hx, by have := Heap.lt_size hx; subst hL; exact Nat.ne_of_lt this, hideAll_none _ (by simp)⟩
    rcases List.mem_cons.mp hp with rfl | hp
    · exact ⟨hk _ _ hdx, by have := Heap.lt_size hdx; subst hL; exact Nat.ne_of_lt this, hideAll_none _ (by simp)⟩
    · nomatch hp
  have hxd : x ≠ dx := by rintro rfl; rw [hx] at hdx; cases hdx
  have hdx' : dx ≠ x := Ne.symm hxd
  have hzz : (z.length != 0) = true := by rw [bne_iff_ne]; omega
  clear hk hx hdx hE hxb hdb
  k_steps
  rotate_left
  · exfalso; omega
  refine hQ (.ret _) _ ?_
  dsimp only
  have fin : ∀ (j : Int) (t : Tok) (s' : Shared), j = (i : Int) - (z.length : Int) → R (.ok (.ret (  .int ((i : Int) - (z.length : Int)) t))) s' → R (.ok (.ret (.int j t))) s' := fun j t s' e r => by rw [e]; exact r
  refine' fin _ _ _ ?e (hR _ _ _ (exitK KtsTurn.refl ?F) (TokAt.of ?N ?hx ?hd rfl))
  case F => k_asm
  case N => k_asm
  case hx => k_dflt k_mem
  case hd => k_dflt k_mem
  case e => first | rfl | omega | (simp; done)
end Mine
end
section
open PySem PySem.W PySem.Calls PyProof.Rows Builtin
set_option maxRecDepth 100000
namespace Mine
theorem nlc_le (u : List Nat) (p : Nat) : nlc u p ≤ p := by
  unfold nlc nls
  exact Nat.le_trans (List.length_filter_le _ _) (by rw [List.length_range]; exact Nat.le_refl _)
theorem lenS (w : World) (T : Str) (t : Tok) (h : T.length ≤ 100) : LenIs w (.str T t) (T.length : Int) := fun A s Q E k =>
  P.len_str (by omega) (k _ _)
theorem lenB (w : World) (B : Array UInt8) (t : Tok) (n : Nat) (e : B.size = n) (h : n ≤ 100) : LenIs w (.bytes B t) (n : Int) := fun A s Q E k => by
  subst e
  first | exact PySem.len_bytes (by omega) (k _ _) | exact PySem.W.len_bytes (by omega) (k _ _) | exact PyProof.W.len_bytes (by omega) (k _ _) | exact len_bytes (by omega) (k _ _) | exact P.len_bytes (by omega) (k _ _)
theorem givS {w : World} {T : Str} {t : Tok} (h : T.length ≤ 100) : GivOk w (.str T t) T where
  pi := fun i e => peInitS (by omega) (by omega) (by omega) (by omega) (nlc_le _ _) (col_le _ _)
  len := lenS w T t h
  handed := rfl
  short := h
theorem givB {w : World} {T : Str} {B : Array UInt8} {t : Tok} (h : T.length ≤ 100) (e : B.size = T.length) (hb : ∀ i : Nat, (B[i]? == some 10) = (T.cps.toList[i]? == some 10)) : GivOk w (.bytes B t) T where
  pi := fun i e' => peInitB hb (by omega) (by omega) (by omega) (by omega) (nlc_le _ _) (col_le _ _)
  len := lenB w B t _ e h
  handed := rfl
  short := h
end Mine
end
section
open PySem PySem.W PySem.Calls PyProof.Rows
set_option maxRecDepth 100000
namespace Mine
theorem HdSh.keep {g h : Heap} (k : ∀ b o, g.get? b = some o → h.get? b = some o) {hd : Option Value} (x : HdSh g hd) : HdSh h hd := x.turn fun b o e => ⟨o.slots, k b o e⟩
theorem callNext {w : World} {mean : ExcName → Option Value} {mg mb : Str → Option Value} {base : Heap} {A : Around} {E : Value → Shared → Prop} {Q : Value → Shared → Prop} {s : Shared} {x dx L : Addr} {env : Env} {outer : List Env} {g : Heap} {m : Str → Option Value} {rest : List (Addr × Obj)}
    {ist gv nx : Value} {T : Str} {i : Nat} {hd : Option Value} {h1 h2 h3 h4 h5 : Int} {t1 t2 t3 t4 t5 td ti : Tok}
    (G : GivOk w gv T) (hB : BaseOk w mean mg mb base) (F : Fr g L s.heap m)
    (N : News g L s.heap ((x, instObj 133 dx) :: (dx, dictOf [⟨h1, .str (Str.ofString "istext") t1, ist⟩, ⟨h2, .str (Str.ofString "string") t2, gv⟩, ⟨h3, .str (Str.ofString "decoded_string") t3, .str T td⟩, ⟨h4, .str (Str.ofString "index") t4, .int (i : Int) ti⟩, ⟨h5, .str (Str.ofString "next") t5, nx⟩] 5) :: rest))
    (hr : ∀ p ∈ rest, p.1 ≠ x ∧ p.1 ≠ dx) (ff : g.FunFrames base outer) (stg : base.StaysIn g) (hhs : HdSh g hd) (hi : i ≤ T.length)
    (hA : A.handled = hd) (hfr : A.frames = some (env :: outer)) (hf : env.frame = some L) (hkm : env.scope.kind ≠ .module) (hnb : base.get? L = none) (hroom : A.depth + 2 < recursionLimit)
    (hR : ∀ g' h' tk nx' h1 h2 h3 h4 h5 t1 t2 t3 t4 t5 td ti, ¬ lone T.cps.toList i → KtsTurn (fsOf outer) g g' → Fr g' L h' m → g'.FunFrames base outer → base.StaysIn g' → NxVal (nxSign T.cps.toList i) nx' →
      News g' L h' ((x, instObj 133 dx) :: (dx, dictOf [⟨h1, .str (Str.ofString "istext") t1, ist⟩, ⟨h2, .str (Str.ofString "string") t2, gv⟩, ⟨h3, .str (Str.ofString "decoded_string") t3, .str T td⟩, ⟨h4, .str (Str.ofString "index") t4, .int (nxIdx T.cps.toList i : Int) ti⟩, ⟨h5, .str (Str.ofString "next") t5, nx'⟩] 5) :: rest) →
      Q .none { s with heap := h', toks := tk })
    (hE : ∀ h' tk e, lone T.cps.toList i → TokAt h' x dx ist gv T i nx → Loned w gv T s x dx [x, dx] (L :: fsOf outer) hd i h' e → E (.ref e) { s with heap := h', toks := tk }) :
    wpAny (model PySem.Challenge.rw_dw0053_01.row.prog w) A (call (.ref 65) [.ref x]) Q E s := by
  obtain ⟨a0, d0, f0, g0, u0⟩ := A
  dsimp only at hA hfr hroom
  subst hA hfr
  have ffG : s.heap.FunFrames base outer := ff.of_keeps fun b o e _ => ⟨o, F.keep b o e, rfl⟩
  have ffH : s.heap.FunFrames base (env :: outer) := Heap.FunFrames.cons hkm hf F.ns hnb ffG
  have fsE : fsOf (env :: outer) = L :: fsOf outer := by unfold fsOf; rw [List.filterMap_cons, hf]
  have nX := N _ (List.mem_cons_self ..)
  have nD := N _ (List.mem_cons_of_mem _ (List.mem_cons_self ..))
  have bn : ∀ {b : Addr}, g.get? b = none → base.get? b = none := fun {b} e => by
    cases q : base.get? b with
    | none => rfl
    | some o => rw [stg _ _ q] at e; cases e
  have nf : ∀ {b : Addr}, g.get? b = none → b ≠ L → b ∉ fsOf (env :: outer) := fun e n m => by
    rw [fsE] at m
    rcases List.mem_cons.mp m with z | m
    · exact n z
    · exact funFrames_apart ff e m
  have kHide : ∀ b o, g.get? b = some o → (hideAll s.heap [x, dx]).get? b = some o := fun b o e => hideAll_get _ (F.keep _ _ e) fun m => by
    rcases List.mem_cons.mp m with rfl | m
    · rw [nX.2.2] at e; cases e
    · rcases List.mem_cons.mp m with rfl | m
      · rw [nD.2.2] at e; cases e
      · nomatch m
  refine wpAny_call (nextC G hB (fun b o e => F.keep _ _ (stg _ _ e)) ⟨nX.1, _, _, _, _, _, _, _, _, _, _, _, _, nD.1⟩ (bn nX.2.2) (bn nD.2.2) hi hroom ffH (nf nX.2.2 nX.2.1) (nf nD.2.2 nD.2.1) (hhs.keep kHide) (fun h' tk nx' nl k t v => ?_) fun h' tk e l t ld => ?_)
  · rw [fsE] at k
    obtain ⟨g', tn, F', ff', st', hN⟩ := reground F N ff stg k (by
      intro b hb
      rcases List.mem_cons.mp hb with rfl | hb
      · exact ⟨nX.2.2, nX.2.1⟩
      · rcases List.mem_cons.mp hb with rfl | hb
        · exact ⟨nD.2.2, nD.2.1⟩
        · nomatch hb)
    obtain ⟨tx, b1, b2, b3, b4, b5, c1, c2, c3, c4, c5, cd, ci, tD⟩ := t
    refine hR g' h' tk nx' b1 b2 b3 b4 b5 c1 c2 c3 c4 c5 cd ci nl tn F' ff' st' v (hN _ ?_)
    intro p hp
    rcases List.mem_cons.mp hp with rfl | hp
    · exact .inr ⟨tx, nX.2.1, nX.2.2⟩
    rcases List.mem_cons.mp hp with rfl | hp
    · exact .inr ⟨tD, nD.2.1, nD.2.2⟩
    · refine .inl ⟨List.mem_cons_of_mem _ (List.mem_cons_of_mem _ hp), fun m => ?_⟩
      rcases List.mem_cons.mp m with z | m
      · exact (hr p hp).1 z
      · rcases List.mem_cons.mp m with z | m
        · exact (hr p hp).2 z
        · nomatch m
  · rw [fsE] at ld
    exact hE h' tk e l t ld
end Mine
end
section
open PySem PySem.W PySem.Calls PyProof.Rows
set_option maxRecDepth 100000
namespace Mine
theorem PEd.keep {P : Params} {h h' : Heap} {de : Addr} {gv : Value} {u : List Nat} {p : Nat} (x : PEd P h de gv u p) (k : ∀ o, h.get? de = some o → h'.get? de = some o) : PEd P h' de gv u p := by
  obtain ⟨b1, b2, b3, b4, b5, b6, b7, b8, b9, q⟩ := x
  exact ⟨b1, b2, b3, b4, b5, b6, b7, b8, b9, k _ q⟩
theorem PEt.keep {h h' : Heap} {a0 : Addr} {u : List Nat} {p : Nat} (x : PEt h a0 u p) (k : ∀ o, h.get? a0 = some o → h'.get? a0 = some o) : PEt h' a0 u p := let ⟨t, q⟩ := x; ⟨t, k _ q⟩
theorem TokAt.keep {h h' : Heap} {x dx : Addr} {ist gv : Value} {T : Str} {i : Nat} {nx : Value} (t : TokAt h x dx ist gv T i nx) (k1 : ∀ o, h.get? x = some o → h'.get? x = some o) (k2 : ∀ o, h.get? dx = some o → h'.get? dx = some o) : TokAt h' x dx ist gv T i nx := by
  obtain ⟨tx, b1, b2, b3, b4, b5, c1, c2, c3, c4, c5, cd, ci, tD⟩ := t
  exact ⟨k1 _ tx, b1, b2, b3, b4, b5, c1, c2, c3, c4, c5, cd, ci, k2 _ tD⟩
/-- a raising __next, seen from the def that called it -/
theorem leaveLoned {w : World} {M : Model} {A : Around} {R : Result → Shared → Prop} {base g : Heap} {env : Env} {outer : List Env} {L x dx e : Addr} {m : Str → Option Value} {s sH : Shared} {h' : Heap} {tk : Nat}
    {ist gv nx : Value} {T : Str} {i j : Nat} {hd : Option Value}
    (hfr : A.frames = some (env :: outer)) (hf : env.frame = some L) (hkm : env.scope.kind ≠ .module) (hnb : base.get? L = none)
    (F : Fr g L sH.heap m) (ff : g.FunFrames base outer) (tn : KtsTurn (fsOf outer) (hideAll s.heap [x, dx]) g) (sL : s.heap.get? L = none)
    (gx : g.get? x = none) (gd : g.get? dx = none) (xL : x ≠ L) (dL : dx ≠ L) (Hx : (sH.heap.get? x).isSome = true) (Hd : (sH.heap.get? dx).isSome = true)
    (t : TokAt h' x dx ist gv T j nx) (ld : Loned w gv T sH x dx [x, dx] (L :: fsOf outer) hd i h' e)
    (hR : ∀ h'', TokAt h'' x dx ist gv T j nx → Loned w gv T s x dx [x, dx] (fsOf outer) hd i h'' e → R (.error (.ref e)) { sH with heap := h'', toks := tk }) :
    wpAny M A (leaving env (.ref e)) (fun _ s'' => R (.error (.ref e)) s'') (fun e' s'' => R (.error e') s'') { sH with heap := h', toks := tk } := by
  obtain ⟨de, a0, tb, ia, i0, it, k, x1, x2, x3, x4, x5, fr, te, ti⟩ := ld
  have fsE : fsOf (env :: outer) = L :: fsOf outer := by unfold fsOf; rw [List.filterMap_cons, hf]
  have ffH : sH.heap.FunFrames base (env :: outer) := Heap.FunFrames.cons hkm hf F.ns hnb (ff.of_keeps fun b o q _ => ⟨o, F.keep b o q, rfl⟩)
  have nfx : ∀ b ∈ [x, dx], b ∉ fsOf (env :: outer) := fun b hb mm => by
    rw [fsE] at mm
    rcases List.mem_cons.mp hb with rfl | hb
    · rcases List.mem_cons.mp mm with z | mm
      · exact xL z
      · exact funFrames_apart ff gx mm
    · rcases List.mem_cons.mp hb with rfl | hb
      · rcases List.mem_cons.mp mm with z | mm
        · exact dL z
        · exact funFrames_apart ff gd mm
      · nomatch hb
  have ff' : h'.FunFrames base (env :: outer) := (fsE ▸ k : Kept [x, dx] (fsOf (env :: outer)) sH.heap h').fun ffH nfx
  refine leavingM hfr ff' hf x1 (.inr ⟨tb, _, rfl, te, x3⟩) fun h2 tb2 y1 y2 y3 y4 no => ?_
  have none_of : ∀ b ∈ [e, de, a0, tb, ia], b ∉ L :: fsOf outer ∧ b ≠ x ∧ b ≠ dx := fun b hb => by
    have q := fr b hb
    refine ⟨fun mm => ?_, fun z => ?_, fun z => ?_⟩
    · rw [← fsE] at mm
      obtain ⟨_, o, ho, _⟩ := ffH.mem mm
      rw [q] at ho; cases ho
    · subst z; rw [q] at Hx; cases Hx
    · subst z; rw [q] at Hd; cases Hd
  have kk : ∀ b o, h'.get? b = some o → b ≠ e → b ≠ tb → b ∉ L :: fsOf outer → h2.get? b = some o := fun b o q n1 n2 n3 => by
    obtain ⟨sl, q', w'⟩ := no.keep b o q n1 (fun z => by injection z with z; exact n2 z.symm)
    rw [w' (by rw [fsE]; exact n3)] at q'; exact q'
  have KH : Kept [x, dx] (fsOf outer) s.heap sH.heap := exitK tn F
  have up : ∀ b, sH.heap.get? b = none → s.heap.get? b = none := fun b q0 => by
    cases q : s.heap.get? b with
    | none => rfl
    | some o =>
      by_cases hm : b ∈ [x, dx]
      · rcases List.mem_cons.mp hm with rfl | hm
        · rw [q0] at Hx; cases Hx
        · rcases List.mem_cons.mp hm with rfl | hm
          · rw [q0] at Hd; cases Hd
          · nomatch hm
      · obtain ⟨sl, q', _⟩ := KH.keep b o q hm
        rw [q0] at q'; cases q'
  have me := none_of e (by simp)
  have md := none_of de (by simp)
  have ma := none_of a0 (by simp)
  have mt := none_of tb (by simp)
  have mi := none_of ia (by simp)
  have de1 : de ≠ e := fun z => by
    obtain ⟨_, _, _, _, _, _, _, _, _, q⟩ := x4
    rw [z, x1] at q; cases q
  have de2 : de ≠ tb := fun z => by
    obtain ⟨_, _, _, _, _, _, _, _, _, q⟩ := x4
    obtain ⟨o, ts, q1, d, _⟩ := x3
    rw [z, q1] at q; injection q with q; subst q; cases d
  have a1 : a0 ≠ e := fun z => by
    obtain ⟨_, q⟩ := x5
    rw [z, x1] at q; cases q
  have a2 : a0 ≠ tb := fun z => by
    obtain ⟨_, q⟩ := x5
    obtain ⟨o, ts, q1, d, _⟩ := x3
    rw [z, q1] at q; injection q with q; subst q; cases d
  have i1 : ia ≠ e := fun z => by rw [z, x1] at x2; cases x2
  have nx0 : x ∉ L :: fsOf outer := fun mm => nfx x (by simp) (by rw [fsE]; exact mm)
  have nd0 : dx ∉ L :: fsOf outer := fun mm => nfx dx (by simp) (by rw [fsE]; exact mm)
  refine hR h2 (t.keep (fun o q => kk _ o q (Ne.symm me.2.1) (Ne.symm mt.2.1) nx0) (fun o q => kk _ o q (Ne.symm me.2.2) (Ne.symm mt.2.2) nd0))
    ⟨de, a0, tb2, ia, i0, it, ⟨Nat.le_trans KH.size (Nat.le_trans k.size no.size), fun b o q nb => ?_⟩, y1, kk _ _ x2 i1 (Ne.symm ti) mi.1, y3,
      x4.keep fun o q => kk _ o q de1 de2 md.1, x5.keep fun o q => kk _ o q a1 a2 ma.1, ?_, y2, ?_⟩
  · obtain ⟨s1, q1, w1⟩ := KH.keep b o q nb
    obtain ⟨s2, q2, w2⟩ := k.keep b _ q1 nb
    have be : b ≠ e := fun z => by subst z; rw [up _ (fr _ (by simp))] at q; cases q
    have bt : b ≠ tb := fun z => by subst z; rw [up _ (fr b (by simp))] at q; cases q
    obtain ⟨s3, q3, w3⟩ := no.keep b _ q2 be (fun z => by injection z with z; exact bt z.symm)
    have bL : b ≠ L := fun z => by subst z; rw [sL] at q; cases q
    have nn : b ∉ fsOf outer → b ∉ L :: fsOf outer := fun n mm => by
      rcases List.mem_cons.mp mm with z | mm
      · exact bL z
      · exact n mm
    exact ⟨s3, q3, fun n => ((w3 (by rw [fsE]; exact nn n)).trans (w2 (nn n))).trans (w1 n)⟩
  · intro b hb
    simp only [List.mem_cons, List.not_mem_nil, or_false] at hb
    rcases hb with rfl | rfl | rfl | rfl | rfl
    · exact up _ (fr _ (by simp))
    · exact up _ (fr _ (by simp))
    · exact up _ (fr _ (by simp))
    · rcases y4 with z | z
      · injection z with z; subst z; exact up _ (fr _ (by simp))
      · exact Heap.get?_none_of_le (Nat.le_trans KH.size (Nat.le_trans k.size z))
    · exact up _ (fr _ (by simp))
  · rcases y4 with z | z
    · injection z with z; subst z; exact ti
    · exact Nat.ne_of_gt (Nat.lt_of_lt_of_le (Heap.lt_size x2) z)
end Mine
end
section
open PySem PySem.W PySem.Calls PyProof.Rows
set_option maxRecDepth 100000
namespace Mine
theorem fill9 : PySem.Challenge.rw_dw0053_01 = PySem.Challenge.rw_dw0053_01 ∧ ∀ P, Mine.hd.heap_39 P = Mine.hd.heap_39 P := by
  k_fill
  exact ⟨rfl, fun _ => rfl⟩
local macro_rules | `(tactic| k_handed) => `(tactic| assumption)
local macro_rules | `(tactic| k_room) => `(tactic| wtm_at "m0")
local macro_rules | `(tactic| walk_at "call ref") => `(tactic| (fail))
set_option maxHeartbeats 4000000 in
theorem getC {w : World} {mean : ExcName → Option Value} {mg mb : Str → Option Value} {base : Heap} {s : Shared} {x dx : Addr} {R : Result → Shared → Prop}
    {ist gv nx : Value} {T : Str} {i : Nat} 
    {hd : Option Value} {dp un : Nat} {outer : List Env} {gd : Option (List Code)}
    (hB : BaseOk w mean mg mb base) (st : base.StaysIn s.heap)
    (hT : TokAt s.heap x dx ist gv T i nx) (hxb : base.get? x = none) (hdb : base.get? dx = none)
    (G : GivOk w gv T) (hnx : handedIn nx = true) (hi : i ≤ T.length) (hroom : dp + 3 < recursionLimit) (ff : s.heap.FunFrames base outer) (hxo : x ∉ fsOf outer) (hdo : dx ∉ fsOf outer) (hhx : HdSh (hideAll s.heap [x, dx]) hd)
    (hR : ∀ h' tk nx', ¬ lone T.cps.toList i → Kept [x, dx] (fsOf outer) s.heap h' → TokAt h' x dx ist gv T (nxIdx T.cps.toList i) nx' → NxVal (nxSign T.cps.toList i) nx' → R (.ok (.ret nx)) { s with heap := h', toks := tk })
    (hErr : ∀ h' tk e, lone T.cps.toList i → TokAt h' x dx ist gv T i nx → Loned w gv T s x dx [x, dx] (fsOf outer) hd i h' e → R (.error (.ref e)) { s with heap := h', toks := tk }) :
    codeAny (model PySem.Challenge.rw_dw0053_01.row.prog w) { handled := hd, depth := dp, frames := some outer, guards := gd, units := un } (.call (.ref 79) ⟨[.ref x], []⟩) R s := by
  obtain ⟨hx, h1, h2, h3, h4, h5, t1, t2, t3, t4, t5, td, ti, hdx⟩ := hT
  refine' enterM (binds := [(Str.ofString "self", .ref x)]) [x, dx] (hB.X.keeps st) (hB.T.nolimit.keeps st) ?k3 ?k4 ?k5 ?k6 ?k7 ?h ?c1 ?c2 ?c3 ?c4
  case k3 => k_is
  case k4 => k_is
  case k5 => k_room
  case k6 => exact BindsTo.of_eq rfl
  case k7 => exact locs rfl
  case c1 => exact rfl
  case c2 => exact rfl
  case c3 => exact rfl
  case c4 => decide
  intro L' h₁ hL F' hk Q E hQ hE
  have stG : base.StaysIn (hideAll s.heap [x, dx]) := apartNone st (by simp [hxb, hdb])
  have X' := hB.X.keeps stG
  have T' : TopM mean mg mb (hideAll s.heap [x, dx]) := hB.T.keeps stG
  have N' : News (hideAll s.heap [x, dx]) L' h₁ [(x, instObj 133 dx), (dx, dictOf [⟨h1, .str (Str.ofString "istext") t1, ist⟩, ⟨h2, .str (Str.ofString "string") t2, gv⟩, ⟨h3, .str (Str.ofString "decoded_string") t3, .str T td⟩, ⟨h4, .str (Str.ofString "index") t4, .int (i : Int) ti⟩, ⟨h5, .str (Str.ofString "next") t5, nx⟩] 5)] := by
    intro p hp
    rcases List.mem_cons.mp hp with rfl | hp
    · exact ⟨hk _ _ hx, by have := Heap.lt_size hx; subst hL; exact Nat.ne_of_lt this, hideAll_none _ (by simp)⟩
    rcases List.mem_cons.mp hp with rfl | hp
    · exact ⟨hk _ _ hdx, by have := Heap.lt_size hdx; subst hL; exact Nat.ne_of_lt this, hideAll_none _ (by simp)⟩
    · nomatch hp
  have hxd : x ≠ dx := by rintro rfl; rw [hx] at hdx; cases hdx
  have hdx' : dx ≠ x := Ne.symm hxd
  have ffG : (hideAll s.heap [x, dx]).FunFrames base outer := funHide ff (by intro b hb; rcases List.mem_cons.mp hb with rfl | hb; exact hxo; rcases List.mem_cons.mp hb with rfl | hb; exact hdo; nomatch hb)
  have hLb : base.get? L' = none := by
    cases q : base.get? L' with
    | none => rfl
    | some o => exact absurd (Heap.lt_size (st _ _ q)) (by rw [hL]; exact Nat.lt_irrefl _)
  have sL : s.heap.get? L' = none := Heap.get?_none_of_le (by rw [hL]; exact Nat.le_refl _)
  clear hk hx hdx hxb hdb
  k_steps
  rename Fr _ L' _ _ => F3
  rename News _ L' _ _ => N3
  have nX := N3 _ (List.mem_cons_self ..)
  have nD := N3 _ (List.mem_cons_of_mem _ (List.mem_cons_self ..))
  show wpAny _ _ (call (.ref 65) [.ref x]) _ _ _
  refine callNext G hB F3 N3 (by intro p hp; nomatch hp) ffG stG hhx hi rfl rfl rfl (by intro hh; cases hh) hLb (by show dp + 1 + 2 < recursionLimit; omega) ?ok ?er
  case er =>
    intro h' tk e l t ld
    exact hE _ _ (leaveLoned rfl rfl (by intro hh; cases hh) hLb F3 ffG KtsTurn.refl sL nX.2.2 nD.2.2 nX.2.1 nD.2.1 (by rw [nX.1]; rfl) (by rw [nD.1]; rfl) t ld fun h'' t' l' => hErr h'' tk e l t' l')
  case ok =>
    intro g' h' tk nx' b1 b2 b3 b4 b5 c1 c2 c3 c4 c5 cd ci nl tn F4 ff4 st4 v N4
    have X4 := hB.X.keeps st4
    have T4 : TopM mean mg mb g' := hB.T.keeps st4
    clear nX nD F3 N3 X' T'
    k_steps
    refine hQ (.ret _) _ ?_
    refine' hR _ _ nx' nl (exitK tn ?F) (TokAt.of ?N ?hx ?hd rfl) v
    case F => k_asm
    case N => k_asm
    case hx => k_dflt k_mem
    case hd => k_dflt k_mem
end Mine
end
section
open PySem PySem.W PySem.Calls PyProof.Rows
set_option maxRecDepth 100000
namespace Mine
theorem fill10 : PySem.Challenge.rw_dw0053_01 = PySem.Challenge.rw_dw0053_01 ∧ ∀ P, Mine.hd.heap_39 P = Mine.hd.heap_39 P := by
  k_fill
  exact ⟨rfl, fun _ => rfl⟩
local macro_rules | `(tactic| k_handed) => `(tactic| assumption)
local macro_rules | `(tactic| k_room) => `(tactic| wtm_at "m0")
local macro_rules | `(tactic| walk_at "call ref") => `(tactic| (fail))
set_option maxHeartbeats 4000000 in
theorem seekC {w : World} {mean : ExcName → Option Value} {mg mb : Str → Option Value} {base : Heap} {s : Shared} {x dx : Addr} {R : Result → Shared → Prop}
    {ist gv nx : Value} {T : Str} {i0 i : Nat} {tj : Tok} 
    {hd : Option Value} {dp un : Nat} {outer : List Env} {gd : Option (List Code)}
    (hB : BaseOk w mean mg mb base) (st : base.StaysIn s.heap)
    (hT : TokAt s.heap x dx ist gv T i0 nx) (hxb : base.get? x = none) (hdb : base.get? dx = none)
    (G : GivOk w gv T) (hi : i ≤ T.length) (hroom : dp + 3 < recursionLimit) (ff : s.heap.FunFrames base outer) (hxo : x ∉ fsOf outer) (hdo : dx ∉ fsOf outer) (hhx : HdSh (hideAll s.heap [x, dx]) hd)
    (hR : ∀ h' tk nx', ¬ lone T.cps.toList i → Kept [x, dx] (fsOf outer) s.heap h' → TokAt h' x dx ist gv T (nxIdx T.cps.toList i) nx' → NxVal (nxSign T.cps.toList i) nx' → R (.ok (.ret .none)) { s with heap := h', toks := tk })
    (hErr : ∀ h' tk e, lone T.cps.toList i → TokAt h' x dx ist gv T i nx → Loned w gv T s x dx [x, dx] (fsOf outer) hd i h' e → R (.error (.ref e)) { s with heap := h', toks := tk }) :
    codeAny (model PySem.Challenge.rw_dw0053_01.row.prog w) { handled := hd, depth := dp, frames := some outer, guards := gd, units := un } (.call (.ref 115) ⟨[.ref x, .int (i : Int) tj], []⟩) R s := by
  obtain ⟨hx, h1, h2, h3, h4, h5, t1, t2, t3, t4, t5, td, ti, hdx⟩ := hT
  refine' enterM (binds := [(Str.ofString "self", .ref x), (Str.ofString "index", .int (i : Int) tj)]) [x, dx] (hB.X.keeps st) (hB.T.nolimit.keeps st) ?k3 ?k4 ?k5 ?k6 ?k7 ?h ?c1 ?c2 ?c3 ?c4
  case k3 => k_is
  case k4 => k_is
  case k5 => k_room
  case k6 => exact BindsTo.of_eq rfl
  case k7 => exact locs rfl
  case c1 => exact rfl
  case c2 => exact rfl
  case c3 => exact rfl
  case c4 => decide
  intro L' h₁ hL F' hk Q E hQ hE
  have stG : base.StaysIn (hideAll s.heap [x, dx]) := apartNone st (by simp [hxb, hdb])
  have X' := hB.X.keeps stG
  have T' : TopM mean mg mb (hideAll s.heap [x, dx]) := hB.T.keeps stG
  have N' : News (hideAll s.heap [x, dx]) L' h₁ [(x, instObj 133 dx), (dx, dictOf [⟨h1, .str (Str.ofString "istext") t1, ist⟩, ⟨h2, .str (Str.ofString "string") t2, gv⟩, ⟨h3, .str (Str.ofString "decoded_string") t3, .str T td⟩, ⟨h4, .str (Str.ofString "index") t4, .int (i0 : Int) ti⟩, ⟨h5, .str (Str.ofString "next") t5, nx⟩] 5)] := by
    intro p hp
    rcases List.mem_cons.mp hp with rfl | hp
    · exact ⟨hk _ _ hx, by have := Heap.lt_size hx; subst hL; exact Nat.ne_of_lt this, hideAll_none _ (by simp)⟩
    rcases List.mem_cons.mp hp with rfl | hp
    · exact ⟨hk _ _ hdx, by have := Heap.lt_size hdx; subst hL; exact Nat.ne_of_lt this, hideAll_none _ (by simp)⟩
    · nomatch hp
  have hxd : x ≠ dx := by rintro rfl; rw [hx] at hdx; cases hdx
  have hdx' : dx ≠ x := Ne.symm hxd
  have ffG : (hideAll s.heap [x, dx]).FunFrames base outer := funHide ff (by intro b hb; rcases List.mem_cons.mp hb with rfl | hb; exact hxo; rcases List.mem_cons.mp hb with rfl | hb; exact hdo; nomatch hb)
  have hLb : base.get? L' = none := by
    cases q : base.get? L' with
    | none => rfl
    | some o => exact absurd (Heap.lt_size (st _ _ q)) (by rw [hL]; exact Nat.lt_irrefl _)
  have sL : s.heap.get? L' = none := Heap.get?_none_of_le (by rw [hL]; exact Nat.le_refl _)
  clear hk hx hdx hxb hdb
  k_steps
  rename Fr _ L' _ _ => F3
  rename News _ L' _ _ => N3
  have nX := N3 _ (List.mem_cons_self ..)
  have nD := N3 _ (List.mem_cons_of_mem _ (List.mem_cons_self ..))
  show wpAny _ _ (call (.ref 65) [.ref x]) _ _ _
  refine callNext G hB F3 N3 (by intro p hp; nomatch hp) ffG stG hhx hi rfl rfl rfl (by intro hh; cases hh) hLb (by show dp + 1 + 2 < recursionLimit; omega) ?ok ?er
  case er =>
    intro h' tk e l t ld
    exact hE _ _ (leaveLoned rfl rfl (by intro hh; cases hh) hLb F3 ffG KtsTurn.refl sL nX.2.2 nD.2.2 nX.2.1 nD.2.1 (by rw [nX.1]; rfl) (by rw [nD.1]; rfl) t ld fun h'' t' l' => hErr h'' tk e l t' l')
  case ok =>
    intro g' h' tk nx' b1 b2 b3 b4 b5 c1 c2 c3 c4 c5 cd ci nl tn F4 ff4 st4 v N4
    have X4 := hB.X.keeps st4
    have T4 : TopM mean mg mb g' := hB.T.keeps st4
    clear nX nD F3 N3 X' T'
    k_steps
    refine hQ _ _ ?_
    refine' hR _ _ nx' nl (exitK tn ?F) (TokAt.of ?N ?hx ?hd rfl) v
    case F => k_asm
    case N => k_asm
    case hx => k_dflt k_mem
    case hd => k_dflt k_mem
end Mine
end
section
open PySem PySem.W PySem.Calls PyProof.Rows
set_option maxRecDepth 100000
namespace Mine
theorem fill11 : PySem.Challenge.rw_dw0053_01 = PySem.Challenge.rw_dw0053_01 ∧ ∀ P, Mine.hd.heap_39 P = Mine.hd.heap_39 P := by
  k_fill
  exact ⟨rfl, fun _ => rfl⟩
local macro_rules | `(tactic| k_room) => `(tactic| wtm_at "m0")
local macro_rules | `(tactic| walk_at "call ref") => `(tactic| (fail))
local macro_rules | `(tactic| walk_at "ite") => `(tactic| wtm_at "m2")
set_option maxHeartbeats 4000000 in
theorem matchEq {w : World} {mean : ExcName → Option Value} {mg mb : Str → Option Value} {base : Heap} {s : Shared} {x dx : Addr} {R : Result → Shared → Prop}
    {ist gv : Value} {T z zc : Str} {tz tc : Tok} {i : Nat} 
    {hd : Option Value} {dp un : Nat} {outer : List Env} {gd : Option (List Code)}
    (hB : BaseOk w mean mg mb base) (st : base.StaysIn s.heap)
    (hT : TokAt s.heap x dx ist gv T i (.str z tz)) (hxb : base.get? x = none) (hdb : base.get? dx = none)
    (G : GivOk w gv T) (hz : (zc == z) = true) (hi : i ≤ T.length) (hroom : dp + 3 < recursionLimit) (ff : s.heap.FunFrames base outer) (hxo : x ∉ fsOf outer) (hdo : dx ∉ fsOf outer) (hhx : HdSh (hideAll s.heap [x, dx]) hd)
    (hR : ∀ h' tk nx', ¬ lone T.cps.toList i → Kept [x, dx] (fsOf outer) s.heap h' → TokAt h' x dx ist gv T (nxIdx T.cps.toList i) nx' → NxVal (nxSign T.cps.toList i) nx' → R (.ok (.ret (.bool true))) { s with heap := h', toks := tk })
    (hErr : ∀ h' tk e, lone T.cps.toList i → TokAt h' x dx ist gv T i (.str z tz) → Loned w gv T s x dx [x, dx] (fsOf outer) hd i h' e → R (.error (.ref e)) { s with heap := h', toks := tk }) :
    codeAny (model PySem.Challenge.rw_dw0053_01.row.prog w) { handled := hd, depth := dp, frames := some outer, guards := gd, units := un } (.call (.ref 72) ⟨[.ref x, .str zc tc], []⟩) R s := by
  obtain ⟨hx, h1, h2, h3, h4, h5, t1, t2, t3, t4, t5, td, ti, hdx⟩ := hT
  refine' enterM (binds := [(Str.ofString "self", .ref x), (Str.ofString "char", .str zc tc)]) [x, dx] (hB.X.keeps st) (hB.T.nolimit.keeps st) ?k3 ?k4 ?k5 ?k6 ?k7 ?h ?c1 ?c2 ?c3 ?c4
  case k3 => k_is
  case k4 => k_is
  case k5 => k_room
  case k6 => exact BindsTo.of_eq rfl
  case k7 => exact locs rfl
  case c1 => exact rfl
  case c2 => exact rfl
  case c3 => exact rfl
  case c4 => decide
  intro L' h₁ hL F' hk Q E hQ hE
  have stG : base.StaysIn (hideAll s.heap [x, dx]) := apartNone st (by simp [hxb, hdb])
  have X' := hB.X.keeps stG
  have T' : TopM mean mg mb (hideAll s.heap [x, dx]) := hB.T.keeps stG
  have N' : News (hideAll s.heap [x, dx]) L' h₁ [(x, instObj 133 dx), (dx, dictOf [⟨h1, .str (Str.ofString "istext") t1, ist⟩, ⟨h2, .str (Str.ofString "string") t2, gv⟩, ⟨h3, .str (Str.ofString "decoded_string") t3, .str T td⟩, ⟨h4, .str (Str.ofString "index") t4, .int (i : Int) ti⟩, ⟨h5, .str (Str.ofString "next") t5, .str z tz⟩] 5)] := by
    intro p hp
    rcases List.mem_cons.mp hp with rfl | hp
    · exact ⟨hk _ _ hx, by have := Heap.lt_size hx; subst hL; exact Nat.ne_of_lt this, hideAll_none _ (by simp)⟩
    rcases List.mem_cons.mp hp with rfl | hp
    · exact ⟨hk _ _ hdx, by have := Heap.lt_size hdx; subst hL; exact Nat.ne_of_lt this, hideAll_none _ (by simp)⟩
    · nomatch hp
  have hxd : x ≠ dx := by rintro rfl; rw [hx] at hdx; cases hdx
  have hdx' : dx ≠ x := Ne.symm hxd
  have ffG : (hideAll s.heap [x, dx]).FunFrames base outer := funHide ff (by intro b hb; rcases List.mem_cons.mp hb with rfl | hb; exact hxo; rcases List.mem_cons.mp hb with rfl | hb; exact hdo; nomatch hb)
  have hLb : base.get? L' = none := by
    cases q : base.get? L' with
    | none => rfl
    | some o => exact absurd (Heap.lt_size (st _ _ q)) (by rw [hL]; exact Nat.lt_irrefl _)
  have sL : s.heap.get? L' = none := Heap.get?_none_of_le (by rw [hL]; exact Nat.le_refl _)
  clear hk hx hdx hxb hdb
  k_steps
  rename Fr _ L' _ _ => F3
  rename News _ L' _ _ => N3
  have nX := N3 _ (List.mem_cons_self ..)
  have nD := N3 _ (List.mem_cons_of_mem _ (List.mem_cons_self ..))
  show wpAny _ _ (call (.ref 65) [.ref x]) _ _ _
  refine callNext G hB F3 N3 (by intro p hp; nomatch hp) ffG stG hhx hi rfl rfl rfl (by intro hh; cases hh) hLb (by show dp + 1 + 2 < recursionLimit; omega) ?ok ?er
  case er =>
    intro h' tk e l t ld
    exact hE _ _ (leaveLoned rfl rfl (by intro hh; cases hh) hLb F3 ffG KtsTurn.refl sL nX.2.2 nD.2.2 nX.2.1 nD.2.1 (by rw [nX.1]; rfl) (by rw [nD.1]; rfl) t ld fun h'' t' l' => hErr h'' tk e l t' l')
  case ok =>
    intro g' h' tk nx' b1 b2 b3 b4 b5 c1 c2 c3 c4 c5 cd ci nl tn F4 ff4 st4 v N4
    have X4 := hB.X.keeps st4
    have T4 : TopM mean mg mb g' := hB.T.keeps st4
    clear nX nD F3 N3 X' T'
    k_steps
    refine hQ (.ret _) _ ?_
    refine' hR _ _ nx' nl (exitK tn ?F) (TokAt.of ?N ?hx ?hd rfl) v
    case F => k_asm
    case N => k_asm
    case hx => k_dflt k_mem
    case hd => k_dflt k_mem
set_option maxHeartbeats 4000000 in
theorem matchNe {w : World} {mean : ExcName → Option Value} {mg mb : Str → Option Value} {base : Heap} {s : Shared} {x dx : Addr} {R : Result → Shared → Prop}
    {ist gv : Value} {T z zc : Str} {tz tc : Tok} {i : Nat} 
    {hd : Option Value} {dp un : Nat} {outer : Option (List Env)} {gd : Option (List Code)}
    (hB : BaseOk w mean mg mb base) (st : base.StaysIn s.heap)
    (hT : TokAt s.heap x dx ist gv T i (.str z tz)) (hxb : base.get? x = none) (hdb : base.get? dx = none)
    (hroom : dp < recursionLimit) (hz : (zc == z) = false)
    (hR : ∀ h' tk, Kept [x, dx] [] s.heap h' → TokAt h' x dx ist gv T i (.str z tz) → R (.ok (.ret (.bool false))) { s with heap := h', toks := tk }) :
    codeAny (model PySem.Challenge.rw_dw0053_01.row.prog w) { handled := hd, depth := dp, frames := outer, guards := gd, units := un } (.call (.ref 72) ⟨[.ref x, .str zc tc], []⟩) R s := by
  obtain ⟨hx, h1, h2, h3, h4, h5, t1, t2, t3, t4, t5, td, ti, hdx⟩ := hT
  refine' enterM (binds := [(Str.ofString "self", .ref x), (Str.ofString "char", .str zc tc)]) [x, dx] (hB.X.keeps st) (hB.T.nolimit.keeps st) ?k3 ?k4 ?k5 ?k6 ?k7 ?h ?c1 ?c2 ?c3 ?c4
  case k3 => k_is
  case k4 => k_is
  case k5 => k_room
  case k6 => exact BindsTo.of_eq rfl
  case k7 => exact locs rfl
  case c1 => exact rfl
  case c2 => exact rfl
  case c3 => exact rfl
  case c4 => decide
  intro L' h₁ hL F' hk Q E hQ hE
  have stG : base.StaysIn (hideAll s.heap [x, dx]) := apartNone st (by simp [hxb, hdb])
  have X' := hB.X.keeps stG
  have T' : TopM mean mg mb (hideAll s.heap [x, dx]) := hB.T.keeps stG
  have N' : News (hideAll s.heap [x, dx]) L' h₁ [(x, instObj 133 dx), (dx, dictOf [⟨h1, .str (Str.ofString "istext") t1, ist⟩, ⟨h2, .str (Str.ofString "string") t2, gv⟩, ⟨h3, .str (Str.ofString "decoded_string") t3, .str T td⟩, ⟨h4, .str (Str.ofString "index") t4, .int (i : Int) ti⟩, ⟨h5, .str (Str.ofString "next") t5, .str z tz⟩] 5)] := by
    intro p hp
    rcases List.mem_cons.mp hp with rfl | hp
    · exact ⟨hk _ _ hx, by have := Heap.lt_size hx; subst hL; exact Nat.ne_of_lt this, hideAll_none _ (by simp)⟩
    rcases List.mem_cons.mp hp with rfl | hp
    · exact ⟨hk _ _ hdx, by have := Heap.lt_size hdx; subst hL; exact Nat.ne_of_lt this, hideAll_none _ (by simp)⟩
    · nomatch hp
  have hxd : x ≠ dx := by rintro rfl; rw [hx] at hdx; cases hdx
  have hdx' : dx ≠ x := Ne.symm hxd
  clear hk hx hdx hE hxb hdb
  k_steps
  refine hQ (.ret _) _ ?_
  refine' hR _ _ (exitK KtsTurn.refl ?F) (TokAt.of ?N ?hx ?hd rfl)
  case F => k_asm
  case N => k_asm
  case hx => k_dflt k_mem
  case hd => k_dflt k_mem
set_option maxHeartbeats 4000000 in
theorem matchNone {w : World} {mean : ExcName → Option Value} {mg mb : Str → Option Value} {base : Heap} {s : Shared} {x dx : Addr} {R : Result → Shared → Prop}
    {ist gv : Value} {T zc : Str} {tc : Tok} {i : Nat} 
    {hd : Option Value} {dp un : Nat} {outer : Option (List Env)} {gd : Option (List Code)}
    (hB : BaseOk w mean mg mb base) (st : base.StaysIn s.heap)
    (hT : TokAt s.heap x dx ist gv T i .none) (hxb : base.get? x = none) (hdb : base.get? dx = none)
    (hroom : dp < recursionLimit)
    (hR : ∀ h' tk, Kept [x, dx] [] s.heap h' → TokAt h' x dx ist gv T i .none → R (.ok (.ret (.bool false))) { s with heap := h', toks := tk }) :
    codeAny (model PySem.Challenge.rw_dw0053_01.row.prog w) { handled := hd, depth := dp, frames := outer, guards := gd, units := un } (.call (.ref 72) ⟨[.ref x, .str zc tc], []⟩) R s := by
  obtain ⟨hx, h1, h2, h3, h4, h5, t1, t2, t3, t4, t5, td, ti, hdx⟩ := hT
  refine' enterM (binds := [(Str.ofString "self", .ref x), (Str.ofString "char", .str zc tc)]) [x, dx] (hB.X.keeps st) (hB.T.nolimit.keeps st) ?k3 ?k4 ?k5 ?k6 ?k7 ?h ?c1 ?c2 ?c3 ?c4
  case k3 => k_is
  case k4 => k_is
  case k5 => k_room
  case k6 => exact BindsTo.of_eq rfl
  case k7 => exact locs rfl
  case c1 => exact rfl
  case c2 => exact rfl
  case c3 => exact rfl
  case c4 => decide
  intro L' h₁ hL F' hk Q E hQ hE
  have stG : base.StaysIn (hideAll s.heap [x, dx]) := apartNone st (by simp [hxb, hdb])
  have X' := hB.X.keeps stG
  have T' : TopM mean mg mb (hideAll s.heap [x, dx]) := hB.T.keeps stG
  have N' : News (hideAll s.heap [x, dx]) L' h₁ [(x, instObj 133 dx), (dx, dictOf [⟨h1, .str (Str.ofString "istext") t1, ist⟩, ⟨h2, .str (Str.ofString "string") t2, gv⟩, ⟨h3, .str (Str.ofString "decoded_string") t3, .str T td⟩, ⟨h4, .str (Str.ofString "index") t4, .int (i : Int) ti⟩, ⟨h5, .str (Str.ofString "next") t5, .none⟩] 5)] := by
    intro p hp
    rcases List.mem_cons.mp hp with rfl | hp
    · exact ⟨hk _ _ hx, by have := Heap.lt_size hx; subst hL; exact Nat.ne_of_lt this, hideAll_none _ (by simp)⟩
    rcases List.mem_cons.mp hp with rfl | hp
    · exact ⟨hk _ _ hdx, by have := Heap.lt_size hdx; subst hL; exact Nat.ne_of_lt this, hideAll_none _ (by simp)⟩
    · nomatch hp
  have hxd : x ≠ dx := by rintro rfl; rw [hx] at hdx; cases hdx
  have hdx' : dx ≠ x := Ne.symm hxd
  clear hk hx hdx hE hxb hdb
  k_steps
  refine hQ (.ret _) _ ?_
  refine' hR _ _ (exitK KtsTurn.refl ?F) (TokAt.of ?N ?hx ?hd rfl)
  case F => k_asm
  case N => k_asm
  case hx => k_dflt k_mem
  case hd => k_dflt k_mem
end Mine
end
section
open PySem PySem.W PySem.Calls PyProof.Rows
set_option maxRecDepth 100000
namespace Mine
theorem fill12 : PySem.Challenge.rw_dw0053_01 = PySem.Challenge.rw_dw0053_01 ∧ ∀ P, Mine.hd.heap_39 P = Mine.hd.heap_39 P := by
  k_fill
  exact ⟨rfl, fun _ => rfl⟩
local macro_rules | `(tactic| k_room) => `(tactic| wtm_at "m0")
local macro_rules | `(tactic| walk_at "call ref") => `(tactic| (fail))
set_option maxHeartbeats 4000000 in
theorem initS {w : World} {mean : ExcName → Option Value} {mg mb : Str → Option Value} {base : Heap} {s : Shared} {x dx : Addr} {R : Result → Shared → Prop}
    {T : Str} {tg : Tok} 
    {hd : Option Value} {dp un : Nat} {outer : List Env} {gd : Option (List Code)}
    (hB : BaseOk w mean mg mb base) (st : base.StaysIn s.heap)
    (hT : s.heap.get? x = some (instObj 133 dx) ∧ s.heap.get? dx = some (dictOf [] 0)) (hxb : base.get? x = none) (hdb : base.get? dx = none)
    (G : GivOk w (.str T tg) T) (hroom : dp + 3 < recursionLimit) (ff : s.heap.FunFrames base outer) (hxo : x ∉ fsOf outer) (hdo : dx ∉ fsOf outer) (hhx : HdSh (hideAll s.heap [x, dx]) hd)
    (hR : ∀ h' tk nx', ¬ lone T.cps.toList 0 → Kept [x, dx] (fsOf outer) s.heap h' → TokAt h' x dx (.bool true) (.str T tg) T (nxIdx T.cps.toList 0) nx' → NxVal (nxSign T.cps.toList 0) nx' → R (.ok (.ret .none)) { s with heap := h', toks := tk })
    (hErr : ∀ h' tk e, lone T.cps.toList 0 → TokAt h' x dx (.bool true) (.str T tg) T 0 .none → Loned w (.str T tg) T s x dx [x, dx] (fsOf outer) hd 0 h' e → R (.error (.ref e)) { s with heap := h', toks := tk }) :
    codeAny (model PySem.Challenge.rw_dw0053_01.row.prog w) { handled := hd, depth := dp, frames := some outer, guards := gd, units := un } (.call (.ref 58) ⟨[.ref x, .str T tg], []⟩) R s := by
  obtain ⟨hx, hdx⟩ := hT
  refine' enterM (binds := [(Str.ofString "self", .ref x), (Str.ofString "string", .str T tg)]) [x, dx] (hB.X.keeps st) (hB.T.nolimit.keeps st) ?k3 ?k4 ?k5 ?k6 ?k7 ?h ?c1 ?c2 ?c3 ?c4
  case k3 => k_is
  case k4 => k_is
  case k5 => k_room
  case k6 => exact BindsTo.of_eq rfl
  case k7 => exact locs rfl
  case c1 => exact rfl
  case c2 => exact rfl
  case c3 => exact rfl
  case c4 => decide
  intro L' h₁ hL F' hk Q E hQ hE
  have stG : base.StaysIn (hideAll s.heap [x, dx]) := apartNone st (by simp [hxb, hdb])
  have X' := hB.X.keeps stG
  have T' : TopM mean mg mb (hideAll s.heap [x, dx]) := hB.T.keeps stG
  have N' : News (hideAll s.heap [x, dx]) L' h₁ [(x, instObj 133 dx), (dx, dictOf [] 0)] := by
    intro p hp
    rcases List.mem_cons.mp hp with rfl | hp
    · exact ⟨hk _ _ hx, by have := Heap.lt_size hx; subst hL; exact Nat.ne_of_lt this, hideAll_none _ (by simp)⟩
    rcases List.mem_cons.mp hp with rfl | hp
    · exact ⟨hk _ _ hdx, by have := Heap.lt_size hdx; subst hL; exact Nat.ne_of_lt this, hideAll_none _ (by simp)⟩
    · nomatch hp
  have hxd : x ≠ dx := by rintro rfl; rw [hx] at hdx; cases hdx
  have hdx' : dx ≠ x := Ne.symm hxd
  have ffG : (hideAll s.heap [x, dx]).FunFrames base outer := funHide ff (by intro b hb; rcases List.mem_cons.mp hb with rfl | hb; exact hxo; rcases List.mem_cons.mp hb with rfl | hb; exact hdo; nomatch hb)
  have hLb : base.get? L' = none := by
    cases q : base.get? L' with
    | none => rfl
    | some o => exact absurd (Heap.lt_size (st _ _ q)) (by rw [hL]; exact Nat.lt_irrefl _)
  have sL : s.heap.get? L' = none := Heap.get?_none_of_le (by rw [hL]; exact Nat.le_refl _)
  clear hk hx hdx hxb hdb
  k_steps
  rename Fr _ L' _ _ => F3
  rename News _ L' _ _ => N3
  have nX := N3 _ (List.mem_cons_self ..)
  have nD := N3 _ (List.mem_cons_of_mem _ (List.mem_cons_self ..))
  show wpAny _ _ (call (.ref 65) [.ref x]) _ _ _
  refine callNext (i := 0) G hB F3 N3 (by intro p hp; nomatch hp) ffG stG hhx (Nat.zero_le _) rfl rfl rfl (by intro hh; cases hh) hLb (by show dp + 1 + 2 < recursionLimit; omega) ?ok ?er
  case er =>
    intro h' tk e l t ld
    exact hE _ _ (leaveLoned rfl rfl (by intro hh; cases hh) hLb F3 ffG KtsTurn.refl sL nX.2.2 nD.2.2 nX.2.1 nD.2.1 (by rw [nX.1]; rfl) (by rw [nD.1]; rfl) t ld fun h'' t' l' => hErr h'' tk e l t' l')
  case ok =>
    intro g' h' tk nx' b1 b2 b3 b4 b5 c1 c2 c3 c4 c5 cd ci nl tn F4 ff4 st4 v N4
    have X4 := hB.X.keeps st4
    have T4 : TopM mean mg mb g' := hB.T.keeps st4
    clear nX nD F3 N3 X' T'
    k_steps
    refine hQ _ _ ?_
    refine' hR _ _ nx' nl (exitK tn ?F) (TokAt.of ?N ?hx ?hd rfl) v
    case F => k_asm
    case N => k_asm
    case hx => k_dflt k_mem
    case hd => k_dflt k_mem
end Mine
end
section
open PySem PySem.W PySem.Calls PyProof.Rows
set_option maxRecDepth 100000
namespace Mine
theorem fill13 : PySem.Challenge.rw_dw0053_01 = PySem.Challenge.rw_dw0053_01 ∧ ∀ P, Mine.hd.heap_39 P = Mine.hd.heap_39 P := by
  k_fill
  exact ⟨rfl, fun _ => rfl⟩
local macro_rules | `(tactic| k_room) => `(tactic| wtm_at "m0")
local macro_rules | `(tactic| walk_at "call ref") => `(tactic| (fail))
def DecIs (w : World) (B : Array UInt8) (T : Str) : Prop := ∀ (A : Around) (s : Shared) (t u : Tok) (Q : Value → Shared → Prop) (E : Value → Shared → Prop), (∀ t' k, Q (.str T t') { s with toks := k }) → wpAny (model PySem.Challenge.rw_dw0053_01.row.prog w) A (call (.type "str") [.bytes B t, .str (Str.ofString "latin1") u]) Q E s
theorem DecIs.go {w : World} {B : Array UInt8} {T : Str} (x : DecIs w B T) {A : Around} {s : Shared} {t u : Tok} {Q : Value → Shared → Prop} {E : Value → Shared → Prop} (h : ∀ t' k, Q (.str T t') { s with toks := k }) : wpAny (model PySem.Challenge.rw_dw0053_01.row.prog w) A (call (.type "str") [.bytes B t, .str (Str.ofString "latin1") u]) Q E s := x A s t u Q E h
local macro_rules | `(tactic| walk_at "call type:str") => `(tactic| (k_here; (refine DecIs.go (by assumption) fun t' tk' => ?_); wtm_at "d"))
set_option maxHeartbeats 4000000 in
theorem initB {w : World} {mean : ExcName → Option Value} {mg mb : Str → Option Value} {base : Heap} {s : Shared} {x dx : Addr} {R : Result → Shared → Prop}
    {T : Str} {B : Array UInt8} {tg : Tok} (D : DecIs w B T) 
    {hd : Option Value} {dp un : Nat} {outer : List Env} {gd : Option (List Code)}
    (hB : BaseOk w mean mg mb base) (st : base.StaysIn s.heap)
    (hT : s.heap.get? x = some (instObj 133 dx) ∧ s.heap.get? dx = some (dictOf [] 0)) (hxb : base.get? x = none) (hdb : base.get? dx = none)
    (G : GivOk w (.bytes B tg) T) (hroom : dp + 3 < recursionLimit) (ff : s.heap.FunFrames base outer) (hxo : x ∉ fsOf outer) (hdo : dx ∉ fsOf outer) (hhx : HdSh (hideAll s.heap [x, dx]) hd)
    (hR : ∀ h' tk nx', ¬ lone T.cps.toList 0 → Kept [x, dx] (fsOf outer) s.heap h' → TokAt h' x dx (.bool false) (.bytes B tg) T (nxIdx T.cps.toList 0) nx' → NxVal (nxSign T.cps.toList 0) nx' → R (.ok (.ret .none)) { s with heap := h', toks := tk })
    (hErr : ∀ h' tk e, lone T.cps.toList 0 → TokAt h' x dx (.bool false) (.bytes B tg) T 0 .none → Loned w (.bytes B tg) T s x dx [x, dx] (fsOf outer) hd 0 h' e → R (.error (.ref e)) { s with heap := h', toks := tk }) :
    codeAny (model PySem.Challenge.rw_dw0053_01.row.prog w) { handled := hd, depth := dp, frames := some outer, guards := gd, units := un } (.call (.ref 58) ⟨[.ref x, .bytes B tg], []⟩) R s := by
  obtain ⟨hx, hdx⟩ := hT
  refine' enterM (binds := [(Str.ofString "self", .ref x), (Str.ofString "string", .bytes B tg)]) [x, dx] (hB.X.keeps st) (hB.T.nolimit.keeps st) ?k3 ?k4 ?k5 ?k6 ?k7 ?h ?c1 ?c2 ?c3 ?c4
  case k3 => k_is
  case k4 => k_is
  case k5 => k_room
  case k6 => exact BindsTo.of_eq rfl
  case k7 => exact locs rfl
  case c1 => exact rfl
  case c2 => exact rfl
  case c3 => exact rfl
  case c4 => decide
  intro L' h₁ hL F' hk Q E hQ hE
  have stG : base.StaysIn (hideAll s.heap [x, dx]) := apartNone st (by simp [hxb, hdb])
  have X' := hB.X.keeps stG
  have T' : TopM mean mg mb (hideAll s.heap [x, dx]) := hB.T.keeps stG
  have N' : News (hideAll s.heap [x, dx]) L' h₁ [(x, instObj 133 dx), (dx, dictOf [] 0)] := by
    intro p hp
    rcases List.mem_cons.mp hp with rfl | hp
    · exact ⟨hk _ _ hx, by have := Heap.lt_size hx; subst hL; exact Nat.ne_of_lt this, hideAll_none _ (by simp)⟩
    rcases List.mem_cons.mp hp with rfl | hp
    · exact ⟨hk _ _ hdx, by have := Heap.lt_size hdx; subst hL; exact Nat.ne_of_lt this, hideAll_none _ (by simp)⟩
    · nomatch hp
  have hxd : x ≠ dx := by rintro rfl; rw [hx] at hdx; cases hdx
  have hdx' : dx ≠ x := Ne.symm hxd
  have ffG : (hideAll s.heap [x, dx]).FunFrames base outer := funHide ff (by intro b hb; rcases List.mem_cons.mp hb with rfl | hb; exact hxo; rcases List.mem_cons.mp hb with rfl | hb; exact hdo; nomatch hb)
  have hLb : base.get? L' = none := by
    cases q : base.get? L' with
    | none => rfl
    | some o => exact absurd (Heap.lt_size (st _ _ q)) (by rw [hL]; exact Nat.lt_irrefl _)
  have sL : s.heap.get? L' = none := Heap.get?_none_of_le (by rw [hL]; exact Nat.le_refl _)
  clear hk hx hdx hxb hdb
  k_steps
  rename Fr _ L' _ _ => F3
  rename News _ L' _ _ => N3
  have nX := N3 _ (List.mem_cons_self ..)
  have nD := N3 _ (List.mem_cons_of_mem _ (List.mem_cons_self ..))
  show wpAny _ _ (call (.ref 65) [.ref x]) _ _ _
  refine callNext (i := 0) G hB F3 N3 (by intro p hp; nomatch hp) ffG stG hhx (Nat.zero_le _) rfl rfl rfl (by intro hh; cases hh) hLb (by show dp + 1 + 2 < recursionLimit; omega) ?ok ?er
  case er =>
    intro h' tk e l t ld
    exact hE _ _ (leaveLoned rfl rfl (by intro hh; cases hh) hLb F3 ffG KtsTurn.refl sL nX.2.2 nD.2.2 nX.2.1 nD.2.1 (by rw [nX.1]; rfl) (by rw [nD.1]; rfl) t ld fun h'' t' l' => hErr h'' tk e l t' l')
  case ok =>
    intro g' h' tk nx' b1 b2 b3 b4 b5 c1 c2 c3 c4 c5 cd ci nl tn F4 ff4 st4 v N4
    have X4 := hB.X.keeps st4
    have T4 : TopM mean mg mb g' := hB.T.keeps st4
    clear nX nD F3 N3 X' T'
    k_steps
    refine hQ _ _ ?_
    refine' hR _ _ nx' nl (exitK tn ?F) (TokAt.of ?N ?hx ?hd rfl) v
    case F => k_asm
    case N => k_asm
    case hx => k_dflt k_mem
    case hd => k_dflt k_mem
end Mine
end
section
open PySem PySem.W PySem.Calls PyProof.Rows Builtin
set_option maxRecDepth 100000
namespace Mine
def l1 (b : Array UInt8) : Array Nat := b.map (·.toNat)
theorem take_l1 (b : Array UInt8) (p : Nat) (hp : p < b.size) : ((b.toList.take p).map (·.toNat)).toArray ++ [(b.getD p 0).toNat].toArray = ((b.toList.take (p + 1)).map (·.toNat)).toArray := by
  have e : b.getD p 0 = b[p] := by simp [Array.getD, hp]
  rw [e, List.take_add_one, List.getElem?_eq_getElem (by simpa using hp)]
  simp
theorem run_l1 (id : String) (b : Array UInt8) (hb : b.size ≤ 1000) : _codecs.runDecoder id _codecs.latin1Decoder none true b 0 [] = pure (l1 b, b.size) := by
  unfold _codecs.runDecoder
  dsimp only
  rw [Std.Legacy.Range.forIn_eq_forIn_range']
  simp only [Std.Legacy.Range.size, Nat.sub_zero, Nat.add_sub_cancel, Nat.div_one]
  have sl : (1000 : Nat) ≤ sizeLine := by decide
  have key : ∀ (k a p : Nat) (f : Nat → (Nat × Array Nat × _codecs.Faults) → Sem (ForInStep (Nat × Array Nat × _codecs.Faults))),
      (∀ j q, q < b.size → f j (q, ((b.toList.take q).map (·.toNat)).toArray, { held := [] }) = pure (.yield (q + 1, ((b.toList.take (q + 1)).map (·.toNat)).toArray, { held := [] }))) →
      p + k = b.size → forIn (List.range' a k 1) (p, ((b.toList.take p).map (·.toNat)).toArray, ({ held := [] } : _codecs.Faults)) f = pure (b.size, ((b.toList.take b.size).map (·.toNat)).toArray, { held := [] }) := by
    intro k
    induction k with
    | zero => intro a p f _ e; have : p = b.size := by omega
              subst this; rfl
    | succ k ih =>
      intro a p f hf e
      rw [List.range'_succ, List.forIn_cons, hf a p (by omega), pure_bind]
      exact ih (a + 1) (p + 1) f hf (by omega)
  refine Eq.trans (congrArg (fun z => z >>= fun (r : Nat × Array Nat × _codecs.Faults) => (pure (r.2.1, r.1) : Sem (Array Nat × Nat))) (key b.size 0 0 _ ?_ (by omega))) ?_
  rotate_left
  · rw [pure_bind]
    have e : ((b.toList.take b.size).map (·.toNat)).toArray = l1 b := by
      rw [List.take_of_length_le (by simp)]
      unfold l1
      rw [← Array.toList_map]
    rw [e]
  · intro j q hq
    have h1 : ¬ (((b.toList.take q).map (·.toNat)).toArray.size > sizeLine) := by
      simp; omega
    rw [if_neg h1, if_neg (by omega)]
    show pure (ForInStep.yield (q + 1, ((b.toList.take q).map (·.toNat)).toArray ++ [(b.getD q 0).toNat].toArray, _)) = _
    rw [take_l1 b q hq]
end Mine
end
section
open PySem PySem.W PySem.Calls PyProof.Rows Builtin
set_option maxRecDepth 100000
namespace Mine
theorem str_new2 (B : Array UInt8) (t u : Tok) : «str.__new__» ⟨[.type "str", .bytes B t, .str (PySem.Str.ofString "latin1") u], []⟩ =
    (mkStr (PySem.Str.ofString "latin1") >>= fun e => isInstance (.bytes B t) (.type "bytes") >>= fun b => if b then (rule "str.__new__.decode-bytes" >>= fun _ => call (.builtin "bytes.decode") [.bytes B t] [(PySem.Str.ofString "encoding", e)] >>= fun v => ret v) else unsupported "x") := by
  kernel_rfl
theorem bdec2 (c : UInt8) (cs : List UInt8) (t u : Tok) : «bytes.decode» ⟨[.bytes (c :: cs).toArray t], [(PySem.Str.ofString "encoding", .str (PySem.Str.ofString "latin1") u)]⟩ = (mkStr (PySem.Str.ofString "utf-8") >>= fun _ => mkStr (PySem.Str.ofString "latin1") >>= fun e => mkStr (PySem.Str.ofString "bytes.decode") >>= fun d =>
    call (.builtin "_codecs.decode.text") [.bytes (c :: cs).toArray t, e, .none, d] >>= fun v => ret v) := by kernel_rfl
theorem l1_road (id : String) (B : Array UInt8) : _codecs.decodeRoad id B (PySem.Str.ofString "latin1") none [] = (_codecs.runDecoder id _codecs.latin1Decoder none true B 0 [] >>= fun r => mkStr ⟨r.1⟩) := by kernel_rfl
end Mine
end
section
open PySem PySem.W PySem.Calls PyProof.Rows Builtin
set_option maxRecDepth 100000
namespace Mine
theorem bdec0 (t u : Tok) : «bytes.decode» ⟨[.bytes #[] t], [(PySem.Str.ofString "encoding", .str (PySem.Str.ofString "latin1") u)]⟩ = (rule "bytes.decode.empty" >>= fun _ => retStr Str.empty) := by kernel_rfl
theorem l1_nil : (⟨l1 ⟨[]⟩⟩ : Str) = Str.empty := by decide +kernel
theorem call_meets_kw {prog : Program} {w : World} {A : Around} {E : Value → Shared → Prop} {s : Shared} {T : String} {name : Str} {id : String} {B : Builtin} {self : Value} {rest : List Value} {kw : List (Str × Value)} {S : PySem.Spec} {Q : Value → Shared → Prop} (slot : Slot T name id) (hT : s.TypeIs self T)
    (entry : entryFor table id = some B) (args : argsOk id ⟨self :: rest, kw⟩) (g : Meets (B ⟨self :: rest, kw⟩) S) (h : S A (wants Q E) s) :
    wpAny (model prog w) A (call (.builtin id) (self :: rest) kw) Q E s :=
  wpAny_call (codeAny_call_builtin slot.plain entry (slot.check _ _ _ _ _ _ _ _ hT args (g prog w A (wants Q E) s h)))
theorem args_dec2 (a e : Value) : argsOk "bytes.decode" ⟨[a], [(PySem.Str.ofString "encoding", e)]⟩ := by
  unfold argsOk; rw [signature?_of (id := "bytes.decode") (n := ['e', 'd', 'o', 'c', 'e', 'd']) (o := ['s', 'e', 't', 'y', 'b']) (by kernel_rfl) FB.owner_bytes]; kernel_rfl
theorem str_typeCall_2 (a b : Value) : checkTypeCall "str" ⟨[a, b], []⟩ = pure () := by kernel_rfl
theorem str_newCall_2 (a b : Value) : checkBuiltinCall "str.__new__" ⟨[.type "str", a, b], []⟩ = pure () := by kernel_rfl
theorem isI_bytes (B : Array UInt8) (t : Tok) : isInstance (.bytes B t) (.type "bytes") = pure true := by
  unfold isInstance
  show (typeOf (.bytes B t) >>= fun T => isSubtype T (.type "bytes")) = _
  rw [show typeOf (.bytes B t) = pure (.type "bytes") from rfl, pure_bind]
  exact PySem.F.bm_sub
section
variable {B : Array UInt8} {t : Tok}
theorem meets_l1 {t1 t2 : Tok} {d : PySem.Str} (hb : B.size ≤ 1000) :
    Meets («_codecs.decode.text» ⟨[.bytes B t, .str (PySem.Str.ofString "latin1") t1, .none, .str d t2], []⟩) (fun _ R s => ∀ t' k, R (.ok (.ret (.str ⟨l1 B⟩ t'))) { s with toks := k }) := by
  refine .of_wp fun prog w A R s h => ?_
  show wpAny _ _ (Bytes.bytesLike _ (.bytes B t) >>= fun r => _) _ _ s
  refine wpAny_bind (wpAny_of_eq KBd.like_eq ?_)
  refine wpAny_bind (wpAny_of_eq KBd.held_eq ?_)
  show wpAny _ _ (_codecs.decodeRoad _ B (PySem.Str.ofString "latin1") none [] >>= fun v => _) _ _ s
  rw [l1_road, run_l1 _ _ hb]
  refine wpAny_bind (wpAny_bind (wpAny_pure ?_))
  refine wpAny_mkStr (wpAny_pure ⟨_, rfl, h _ _⟩) ?_
  show (l1 B).size ≤ sizeLine
  rw [sizeLine_eq]
  unfold l1
  rw [Array.size_map]; omega
theorem meets_dec2 (hb : B.size ≤ 1000) {u : Tok} :
    Meets («bytes.decode» ⟨[.bytes B t], [(PySem.Str.ofString "encoding", .str (PySem.Str.ofString "latin1") u)]⟩) (fun _ R s => ∀ t' k, R (.ok (.ret (.str ⟨l1 B⟩ t'))) { s with toks := k }) := by
  refine .of_wp fun prog w A R s h => ?_
  obtain ⟨l⟩ := B
  cases l with
  | nil =>
    rw [l1_nil] at h
    rw [bdec0]
    refine wpAny_bind (wpAny_rule ?_)
    unfold retStr
    exact wpAny_bind (wpAny_mkStr (wpAny_pure ⟨_, rfl, h _ _⟩) (by decide))
  | cons c cs =>
    rw [bdec2]
    refine wpAny_bind (wpAny_mkStr ?_ (by decide))
    refine wpAny_bind (wpAny_mkStr ?_ (by decide))
    refine wpAny_bind (wpAny_mkStr ?_ (by decide))
    exact wpAny_bind (call_function_meets KBd.kind_text KBd.plain_text KBd.entry_text (KBd.args_text _ _ _ _) (meets_l1 hb) fun t' k => wpAny_pure ⟨_, rfl, h t' _⟩)
theorem meets_str2 (hb : B.size ≤ 1000) {u : Tok} :
    Meets («str.__new__» ⟨[.type "str", .bytes B t, .str (PySem.Str.ofString "latin1") u], []⟩) (fun _ R s => ∀ t' k, R (.ok (.ret (.str ⟨l1 B⟩ t'))) { s with toks := k }) := by
  refine .of_wp fun prog w A R s h => ?_
  rw [str_new2]
  refine wpAny_bind (wpAny_mkStr ?_ (by decide))
  rw [isI_bytes]
  refine wpAny_bind (wpAny_pure ?_)
  rw [if_pos rfl]
  refine wpAny_bind (wpAny_rule ?_)
  refine wpAny_bind ?_
  exact call_meets_kw FB.slot_bytes_decode (typeIs_bytes _ _ _) FB.entry_bytes_decode (args_dec2 _ _) (meets_dec2 hb) fun t' k => wpAny_pure ⟨_, rfl, h t' k⟩
end
theorem decIs (w : World) (B : Array UInt8) (hb : B.size ≤ 1000) : DecIs w B ⟨l1 B⟩ := fun A s t u Q E h =>
  callType_new PySem.F.called_str (by decide) (str_typeCall_2 _ _) (str_newCall_2 _ _) (fun obj => F.initArgs_range_2 obj _ _) PySem.F.entry_str_new (meets_str2 hb) fun t' k => ⟨typeIs_str _ _ _, h t' k⟩
end Mine
end
section
open PySem PySem.W PySem.Calls PyProof.Rows
set_option maxRecDepth 100000
namespace Mine

/-- the ground of a walk: frame, ledger, the frames below -/
structure Gnd (base : Heap) (outer : List Env) (L : Addr) (g0 g h : Heap) (m : Str → Option Value) (news : List (Addr × Obj)) : Prop where
  F : Fr g L h m
  N : News g L h news
  ff : g.FunFrames base outer
  st : base.StaysIn g
  tn : KtsTurn (fsOf outer) g0 g

abbrev rgO (x left c : Int) : Obj := { cls := .type "range_iterator", data := .fields #[rawInt x, rawInt left, rawInt c] }
abbrev lsO (l : Addr) (i : Nat) : Obj := { cls := .type "list_iterator", data := .fields #[.ref l, rawInt (i : Int)] }

inductive LEnd (base : Heap) (outer : List Env) (L : Addr) (g0 : Heap) (s : Shared) (it : Addr × Obj) (Jn : (Str → Option Value) → List (Addr × Obj) → Prop) (s' : Shared) : Prop
  | mk (g h : Heap) (tk : Nat) (m : Str → Option Value) (rest : List (Addr × Obj)) (e : s' = { s with heap := h, toks := tk }) (G : Gnd base outer L g0 g h m (it :: rest)) (j : Jn m rest) : LEnd base outer L g0 s it Jn s'
def LoopEnd (base : Heap) (outer : List Env) (L : Addr) (g0 : Heap) (s : Shared) (it : Addr × Obj) (Jn : (Str → Option Value) → List (Addr × Obj) → Prop) (Q : Flow → Shared → Prop) (f : Flow) (s' : Shared) : Prop :=
  match f with
  | .ret v => Q (.ret v) s'
  | .brk => Q .next s'
  | _ => LEnd base outer L g0 s it Jn s'

section
variable {prog : Program} {w : World} {A : Around} {E : Value → Shared → Prop} {Q : Flow → Shared → Prop} {s : Shared} {env : Env} {base g0 g : Heap} {outer : List Env} {L : Addr} {m : Str → Option Value} {news : List (Addr × Obj)} {x : Str} {px : Pos} {body : List Stmt}

theorem Gnd.upd {h h' : Heap} {it : Addr} {o o' : Obj} {rest : List (Addr × Obj)} (G : Gnd base outer L g0 g h m ((it, o) :: rest)) (sb : Heap.ExtBut it h h') (ho : h'.get? it = some o') (hr : ∀ p ∈ rest, p.1 ≠ it) : Gnd base outer L g0 g h' m ((it, o') :: rest) := by
  have P := G.N _ (List.mem_cons_self ..)
  refine ⟨⟨G.F.ns.extBut sb (Ne.symm P.2.1), fun b q e => sb b q (fun z => by rw [z, P.2.2] at e; cases e) (G.F.keep b q e), G.F.above⟩, ?_, G.ff, G.st, G.tn⟩
  intro p hp
  rcases List.mem_cons.mp hp with rfl | hp
  · exact ⟨ho, P.2⟩
  · have Pp := G.N p (List.mem_cons_of_mem _ hp)
    exact ⟨sb _ _ (hr p hp) Pp.1, Pp.2⟩
theorem Gnd.drop {h : Heap} {p : Addr × Obj} {rest : List (Addr × Obj)} (G : Gnd base outer L g0 g h m (p :: rest)) : Gnd base outer L g0 g h m rest := ⟨G.F, fun q hq => G.N q (List.mem_cons_of_mem _ hq), G.ff, G.st, G.tn⟩

inductive RInv (base : Heap) (outer : List Env) (L : Addr) (g0 : Heap) (s : Shared) (a c : Int) (I : Addr) (J : Nat → (Str → Option Value) → List (Addr × Obj) → Prop) (n k : Nat) (s' : Shared) : Prop
  | mk (g' h : Heap) (tk : Nat) (m' : Str → Option Value) (rest : List (Addr × Obj)) (i : Nat) (e : s' = { s with heap := h, toks := tk }) (G : Gnd base outer L g0 g' h m' ((I, rgO (a + ((i : Nat) : Int) * c) ((n : Int) - ((i : Nat) : Int)) c) :: rest)) (j : J i m' rest) (ne : ∀ p ∈ rest, p.1 ≠ I) (hi : i ≤ n) (hk : k = n + 1 - i) : RInv base outer L g0 s a c I J n k s'
inductive LInv (base : Heap) (outer : List Env) (L : Addr) (g0 : Heap) (s : Shared) (l I : Addr) (J : Nat → (Str → Option Value) → List (Addr × Obj) → Prop) (n k : Nat) (s' : Shared) : Prop
  | mk (g' h : Heap) (tk : Nat) (m' : Str → Option Value) (rest : List (Addr × Obj)) (i : Nat) (o : Obj) (e : s' = { s with heap := h, toks := tk }) (G : Gnd base outer L g0 g' h m' ((I, o) :: rest)) (it : h.IsListIter I l i) (j : J i m' rest) (ne : ∀ p ∈ rest, p.1 ≠ I) (hi : i ≤ n) (hk : k = n + 1 - i) : LInv base outer L g0 s l I J n k s'
theorem forRangeG {r : Addr} {a b c : Int} {t u v : Tok} {n : Nat} (J : Nat → (Str → Option Value) → List (Addr × Obj) → Prop)
    (hh : A.handled = none) (hr : IsRange s.heap r a b c t u v) (hsmall : Builtin.Range.small a b c = true) (hn : Builtin.Range.rangeSize a b c = (n : Int))
    (hx : env.kindOf x = some .local) (hp : (env.scope.kind == .class || (env.scope.kind == .module && env.locals != env.globals)) = false) (hL : env.locals = L)
    (G : Gnd base outer L g0 g s.heap m news) (hj : J 0 m news)
    (turn : ∀ (i : Nat) g' h tk m' rest it t', i < n → J i m' rest → (∀ p ∈ rest, p.1 ≠ it) → (∀ p ∈ news, p.1 < it) → Gnd base outer L g0 g' h (fun y => if y = x then some (.int (a + (i : Int) * c) t') else m' y) ((it, rgO (a + ((i + 1 : Nat) : Int) * c) ((n : Int) - ((i + 1 : Nat) : Int)) c) :: rest) →
      wpAny (model prog w) A (execs body env) (LoopEnd base outer L g0 s (it, rgO (a + ((i + 1 : Nat) : Int) * c) ((n : Int) - ((i + 1 : Nat) : Int)) c) (fun m rest => J (i + 1) m rest ∧ ∀ p ∈ rest, p.1 ≠ it) Q) E { s with heap := h, toks := tk })
    (done : ∀ g' h tk m' rest, J n m' rest → Gnd base outer L g0 g' h m' rest → Q .next { s with heap := h, toks := tk })
    (hE : PassesOwn (model prog w) A env E) :
    wpAny (model prog w) A (pyIter (.ref r)) (fun it s₂ => codeAny (model prog w) A (.forLoop (.Name x px) it body [] env) (fun r s' => match r with | .ok f => Q f s' | .error e => cameBackBy (model prog w) A env E e s') s₂) E s := by
  refine wpAny_pyIter_range hr hsmall ?_
  rw [hn]
  have lt : ∀ p ∈ news, p.1 < s.heap.objs.size := fun p hp => Heap.lt_size (G.N p hp).1
  have G1 : Gnd base outer L g0 g (s.heap.push (rgO a (n : Int) c)) m ((s.heap.objs.size, rgO a (n : Int) c) :: news) := ⟨G.F.push _, G.N.push G.F _, G.ff, G.st, G.tn⟩
  generalize hI : s.heap.objs.size = I at G1 lt ⊢
  refine codeAny_forLoop_any (RInv base outer L g0 s a c I J n) ?_ (n + 1)
    ⟨g, _, s.toks, m, news, 0, rfl, by simpa using G1, hj, fun p hp => Nat.ne_of_lt (lt p hp), Nat.zero_le _, rfl⟩
  rintro k s' ⟨g', h, tk, m', rest, i, rfl, Gi, hJ, hne, hi, rfl⟩
  have hIL : I ≠ L := (Gi.N _ (List.mem_cons_self ..)).2.1
  have hit : IsRangeIter h I (a + ((i : Nat) : Int) * c) ((n : Int) - ((i : Nat) : Int)) c := (Gi.N _ (List.mem_cons_self ..)).1
  by_cases hlt : i < n
  · refine wpAny_pyNext_range_item (s := { s with heap := h, toks := tk }) hit (by omega) fun h₁ hit₁ sb₁ => ?_
    have e1 : a + ((i + 1 : Nat) : Int) * c = a + (i : Int) * c + c := by push_cast; rw [Int.add_mul, Int.one_mul, Int.add_assoc]
    have e2 : (n : Int) - ((i + 1 : Nat) : Int) = (n : Int) - (i : Int) - 1 := by push_cast; omega
    have G2 : Gnd base outer L g0 g' h₁ m' ((I, rgO (a + ((i + 1 : Nat) : Int) * c) ((n : Int) - ((i + 1 : Nat) : Int)) c) :: rest) := Gi.upd sb₁.extBut (by rw [e1, e2]; exact hit₁) hne
    dsimp only
    refine wpAny_of_eq (show letOwnedTupleGo (.Name x px) (.ref I) (.int (a + (i : Int) * c) tk) = pure () from rfl) ?_
    refine wpAny_assign_Name (wpAny_storeName_local hx (by rw [hL]; exact G2.F.ns) (fun h₂ hn₂ hs₂ => ?_) hp)
    rw [hL] at hn₂ hs₂
    have G3 : Gnd base outer L g0 g' h₂ (fun y => if y = x then some (.int (a + (i : Int) * c) tk) else m' y) ((I, rgO (a + ((i + 1 : Nat) : Int) * c) ((n : Int) - ((i + 1 : Nat) : Int)) c) :: rest) := ⟨G2.F.set hn₂ hs₂, G2.N.set hs₂, G2.ff, G2.st, G2.tn⟩
    refine wpAny_mono (turn i g' h₂ (tk + 1 + 1) m' rest I tk hlt hJ hne lt G3) (fun f s₃ h₃ => ?_) hE
    cases f with
    | ret v => exact h₃
    | brk => exact h₃
    | next =>
      obtain ⟨g3, h3, tk3, m3, rest3, rfl, G4, J4, ne4⟩ := h₃
      exact ⟨n + 1 - (i + 1), by omega, g3, h3, tk3, m3, rest3, i + 1, rfl, G4, J4, ne4, hlt, rfl⟩
    | cont =>
      obtain ⟨g3, h3, tk3, m3, rest3, rfl, G4, J4, ne4⟩ := h₃
      exact ⟨n + 1 - (i + 1), by omega, g3, h3, tk3, m3, rest3, i + 1, rfl, G4, J4, ne4, hlt, rfl⟩
  · have hin : i = n := by omega
    subst hin
    refine wpAny_pyNext_range_end (s := { s with heap := h, toks := tk }) hh hit (by omega) fun h₁ he₁ => ?_
    refine wpAny_execs_nil ?_
    have hk : ∀ b o, b ≠ I → h.get? b = some o → h₁.get? b = some o := he₁
    have P := Gi.N _ (List.mem_cons_self ..)
    refine done g' h₁ tk m' rest hJ ⟨⟨Gi.F.ns.extBut he₁ (Ne.symm hIL), fun b o e => he₁ b o (fun z => by rw [z, P.2.2] at e; cases e) (Gi.F.keep b o e), Gi.F.above⟩, fun p hp => ?_, Gi.ff, Gi.st, Gi.tn⟩
    have Pp := Gi.N p (List.mem_cons_of_mem _ hp)
    exact ⟨he₁ _ _ (hne p hp) Pp.1, Pp.2⟩

/-- a for over a list of the ledger -/
theorem forListG {l : Addr} {its : List Value} {oL : Obj} (J : Nat → (Str → Option Value) → List (Addr × Obj) → Prop)
    (hh : A.handled = none) (hoL : (l, oL) ∈ news) (hl : ∀ h : Heap, h.get? l = some oL → h.IsList l its.toArray) (hkeep : ∀ i m' rest, J i m' rest → (l, oL) ∈ rest)
    (hx : env.kindOf x = some .local) (hp : (env.scope.kind == .class || (env.scope.kind == .module && env.locals != env.globals)) = false) (hL : env.locals = L)
    (G : Gnd base outer L g0 g s.heap m news) (hj : J 0 m news)
    (turn : ∀ (i : Nat) g' h tk m' rest it ito v, its[i]? = some v → J i m' rest → (∀ p ∈ rest, p.1 ≠ it) → (∀ p ∈ news, p.1 < it) → Gnd base outer L g0 g' h (fun y => if y = x then some v else m' y) ((it, ito) :: rest) →
      wpAny (model prog w) A (execs body env) (LoopEnd base outer L g0 s (it, ito) (fun m rest => J (i + 1) m rest ∧ ∀ p ∈ rest, p.1 ≠ it) Q) E { s with heap := h, toks := tk })
    (done : ∀ g' h tk m' rest, J its.length m' rest → Gnd base outer L g0 g' h m' rest → Q .next { s with heap := h, toks := tk })
    (hE : PassesOwn (model prog w) A env E) :
    wpAny (model prog w) A (pyIter (.ref l)) (fun it s₂ => codeAny (model prog w) A (.forLoop (.Name x px) it body [] env) (fun r s' => match r with | .ok f => Q f s' | .error e => cameBackBy (model prog w) A env E e s') s₂) E s := by
  have hls : s.heap.IsList l its.toArray := hl _ (G.N _ hoL).1
  refine wpAny_pyIter_list hls ?_
  have lt : ∀ p ∈ news, p.1 < s.heap.objs.size := fun p hp => Heap.lt_size (G.N p hp).1
  have itI : (s.heap.push { cls := .type "list_iterator", data := .fields #[.ref l, .int 0 0] }).IsListIter s.heap.objs.size l 0 := ⟨_, Heap.get?_push_size _ rfl, rfl, rfl⟩
  have G1 : ∃ o, (s.heap.push { cls := .type "list_iterator", data := .fields #[.ref l, .int 0 0] }).get? s.heap.objs.size = some o ∧ Gnd base outer L g0 g (s.heap.push { cls := .type "list_iterator", data := .fields #[.ref l, .int 0 0] }) m ((s.heap.objs.size, o) :: news) :=
    ⟨_, Heap.get?_push_size _ rfl, G.F.push _, G.N.push G.F _, G.ff, G.st, G.tn⟩
  obtain ⟨o1, ho1, G1⟩ := G1
  generalize hI : s.heap.objs.size = I at G1 lt itI ho1 ⊢
  refine codeAny_forLoop_any (LInv base outer L g0 s l I J its.length) ?_ (its.length + 1)
    ⟨g, _, s.toks, m, news, 0, o1, rfl, G1, itI, hj, fun p hp => Nat.ne_of_lt (lt p hp), Nat.zero_le _, rfl⟩
  rintro k s' ⟨g', h, tk, m', rest, i, o, rfl, Gi, hit, hJ, hne, hi, rfl⟩
  have P := Gi.N _ (List.mem_cons_self ..)
  have hIL : I ≠ L := P.2.1
  have hl' : h.IsList l its.toArray := hl _ (Gi.N _ (List.mem_cons_of_mem _ (hkeep _ _ _ hJ))).1
  cases hv : its[i]? with
  | some v =>
    have hlt : i < its.length := (List.getElem?_eq_some_iff.mp hv).1
    refine wpAny_pyNext_list_item (s := { s with heap := h, toks := tk }) hit hl' (x := v) (by simpa using hv) fun h₁ hit₁ sb₁ => ?_
    obtain ⟨o₁, ho₁, hc₁, hd₁⟩ := id hit₁
    have G2 : Gnd base outer L g0 g' h₁ m' ((I, o₁) :: rest) := Gi.upd sb₁.extBut ho₁ hne
    dsimp only
    refine wpAny_of_eq (show letOwnedTupleGo (.Name x px) (.ref I) v = pure () from rfl) ?_
    refine wpAny_assign_Name (wpAny_storeName_local hx (by rw [hL]; exact G2.F.ns) (fun h₂ hn₂ hs₂ => ?_) hp)
    rw [hL] at hn₂ hs₂
    have G3 : Gnd base outer L g0 g' h₂ (fun y => if y = x then some v else m' y) ((I, o₁) :: rest) := ⟨G2.F.set hn₂ hs₂, G2.N.set hs₂, G2.ff, G2.st, G2.tn⟩
    refine wpAny_mono (turn i g' h₂ (tk + 1) m' rest I o₁ v hv hJ hne lt G3) (fun f s₃ h₃ => ?_) hE
    have fin : LEnd base outer L g0 s (I, o₁) (fun m rest => J (i + 1) m rest ∧ ∀ p ∈ rest, p.1 ≠ I) s₃ → ∃ k, k < its.length + 1 - i ∧ LInv base outer L g0 s l I J its.length k s₃ := by
      rintro ⟨g3, h3, tk3, m3, rest3, rfl, G4, J4, ne4⟩
      exact ⟨its.length + 1 - (i + 1), by omega, g3, h3, tk3, m3, rest3, i + 1, o₁, rfl, G4, ⟨_, (G4.N _ (List.mem_cons_self ..)).1, hc₁, hd₁⟩, J4, ne4, hlt, rfl⟩
    cases f with
    | ret v => exact h₃
    | brk => exact h₃
    | next => exact fin h₃
    | cont => exact fin h₃
  | none =>
    have hin : i = its.length := by
      have := List.getElem?_eq_none_iff.mp hv
      omega
    refine wpAny_pyNext_list_end (s := { s with heap := h, toks := tk }) hh hit hl' (by simpa using hv) fun h₁ he₁ => ?_
    refine wpAny_execs_nil ?_
    refine done g' h₁ tk m' rest (hin ▸ hJ) ⟨⟨Gi.F.ns.extBut he₁ (Ne.symm hIL), fun b o e => he₁ b o (fun z => by rw [z, P.2.2] at e; cases e) (Gi.F.keep b o e), Gi.F.above⟩, fun p hp => ?_, Gi.ff, Gi.st, Gi.tn⟩
    have Pp := Gi.N p (List.mem_cons_of_mem _ hp)
    exact ⟨he₁ _ _ (hne p hp) Pp.1, Pp.2⟩

inductive SEnd (base : Heap) (outer : List Env) (L : Addr) (g0 : Heap) (s : Shared) (it : Addr × Obj) (x : Str) (S : List Str) (m : Str → Option Value) (Jn : List (Addr × Obj) → Prop) (s' : Shared) : Prop
  | mk (g h : Heap) (tk : Nat) (m' : Str → Option Value) (rest : List (Addr × Obj)) (e : s' = { s with heap := h, toks := tk }) (G : Gnd base outer L g0 g h m' (it :: rest)) (j : Jn rest) (n : ∀ p ∈ rest, p.1 ≠ it.1) (q : ∀ z, z ≠ x → S.contains z = false → m' z = m z) : SEnd base outer L g0 s it x S m Jn s'
def LoopEndS (base : Heap) (outer : List Env) (L : Addr) (g0 : Heap) (s : Shared) (it : Addr × Obj) (x : Str) (S : List Str) (m : Str → Option Value) (Jn : List (Addr × Obj) → Prop) (Q : Flow → Shared → Prop) (f : Flow) (s' : Shared) : Prop :=
  match f with
  | .ret v => Q (.ret v) s'
  | .brk => Q .next s'
  | _ => SEnd base outer L g0 s it x S m Jn s'
theorem LoopEndS.go {it : Addr × Obj} {S : List Str} {Jn : List (Addr × Obj) → Prop} {Jn' : (Str → Option Value) → List (Addr × Obj) → Prop} (h : ∀ m' rest, Jn rest → (∀ p ∈ rest, p.1 ≠ it.1) → (∀ z, z ≠ x → S.contains z = false → m' z = m z) → Jn' m' rest) (f : Flow) (s' : Shared)
    (e : LoopEndS base outer L g0 s it x S m Jn Q f s') : LoopEnd base outer L g0 s it Jn' Q f s' := by
  cases f with
  | ret v => exact e
  | brk => exact e
  | next =>
    obtain ⟨g, h', tk, m', rest, e1, G, j, n, q⟩ := e
    exact ⟨g, h', tk, m', rest, e1, G, h _ _ j n q⟩
  | cont =>
    obtain ⟨g, h', tk, m', rest, e1, G, j, n, q⟩ := e
    exact ⟨g, h', tk, m', rest, e1, G, h _ _ j n q⟩
theorem map_norm {m m' : Str → Option Value} {S : List Str} {v : Option Value} (q : ∀ z, z ≠ x → S.contains z = false → m' z = m z) : (fun y => if y = x then v else m' y) = fun y => if y = x then v else if S.contains y then m' y else m y := by
  funext y
  by_cases h : y = x
  · simp [h]
  · simp only [if_neg h]
    cases h2 : S.contains y with
    | true => simp
    | false => simp only [Bool.false_eq_true, if_false]; exact q y h h2
theorem map_norm' {m m' : Str → Option Value} {S : List Str} (q : ∀ z, z ≠ x → S.contains z = false → m' z = m z) : m' = fun y => if y = x then m' x else if S.contains y then m' y else m y := by
  funext y
  by_cases h : y = x
  · simp [h]
  · simp only [if_neg h]
    cases h2 : S.contains y with
    | true => simp
    | false => simp only [Bool.false_eq_true, if_false]; exact q y h h2

theorem forRangeS {r : Addr} {a b c : Int} {t u v : Tok} {n : Nat} (S : List Str) (J : Nat → List (Addr × Obj) → Prop)
    (hh : A.handled = none) (hr : IsRange s.heap r a b c t u v) (hsmall : Builtin.Range.small a b c = true) (hn : Builtin.Range.rangeSize a b c = (n : Int))
    (hx : env.kindOf x = some .local) (hp : (env.scope.kind == .class || (env.scope.kind == .module && env.locals != env.globals)) = false) (hL : env.locals = L)
    (G : Gnd base outer L g0 g s.heap m news) (hj : J 0 news)
    (turn : ∀ (i : Nat) g' h tk (um : Str → Option Value) rest it t', i < n → J i rest → (∀ p ∈ rest, p.1 ≠ it) → (∀ p ∈ news, p.1 < it) → Gnd base outer L g0 g' h (fun y => if y = x then some (.int (a + (i : Int) * c) t') else if S.contains y then um y else m y) ((it, rgO (a + ((i + 1 : Nat) : Int) * c) ((n : Int) - ((i + 1 : Nat) : Int)) c) :: rest) →
      wpAny (model prog w) A (execs body env) (LoopEndS base outer L g0 s (it, rgO (a + ((i + 1 : Nat) : Int) * c) ((n : Int) - ((i + 1 : Nat) : Int)) c) x S m (J (i + 1)) Q) E { s with heap := h, toks := tk })
    (done : ∀ g' h tk (um : Str → Option Value) v rest, J n rest → Gnd base outer L g0 g' h (fun y => if y = x then v else if S.contains y then um y else m y) rest → Q .next { s with heap := h, toks := tk })
    (hE : PassesOwn (model prog w) A env E) :
    wpAny (model prog w) A (pyIter (.ref r)) (fun it s₂ => codeAny (model prog w) A (.forLoop (.Name x px) it body [] env) (fun r s' => match r with | .ok f => Q f s' | .error e => cameBackBy (model prog w) A env E e s') s₂) E s := by
  refine forRangeG (fun i m' rest => J i rest ∧ ∀ z, z ≠ x → S.contains z = false → m' z = m z) hh hr hsmall hn hx hp hL G ⟨hj, fun _ _ _ => rfl⟩ ?_ ?_ hE
  · rintro i g' h tk m' rest it t' hlt ⟨hJ, hm⟩ ne lt G'
    rw [map_norm hm] at G'
    exact wpAny_mono (turn i g' h tk m' rest it t' hlt hJ ne lt G') (LoopEndS.go fun m' rest j n q => ⟨⟨j, q⟩, n⟩) fun _ _ e => e
  · rintro g' h tk m' rest ⟨hJ, hm⟩ G'
    rw [map_norm' hm] at G'
    exact done g' h tk m' _ rest hJ G'

theorem forListS {l : Addr} {its : List Value} {oL : Obj} (S : List Str) (J : Nat → List (Addr × Obj) → Prop)
    (hh : A.handled = none) (hoL : (l, oL) ∈ news) (hl : ∀ h : Heap, h.get? l = some oL → h.IsList l its.toArray) (hkeep : ∀ i rest, J i rest → (l, oL) ∈ rest)
    (hx : env.kindOf x = some .local) (hp : (env.scope.kind == .class || (env.scope.kind == .module && env.locals != env.globals)) = false) (hL : env.locals = L)
    (G : Gnd base outer L g0 g s.heap m news) (hj : J 0 news)
    (turn : ∀ (i : Nat) g' h tk (um : Str → Option Value) rest it ito v, its[i]? = some v → J i rest → (∀ p ∈ rest, p.1 ≠ it) → (∀ p ∈ news, p.1 < it) → Gnd base outer L g0 g' h (fun y => if y = x then some v else if S.contains y then um y else m y) ((it, ito) :: rest) →
      wpAny (model prog w) A (execs body env) (LoopEndS base outer L g0 s (it, ito) x S m (J (i + 1)) Q) E { s with heap := h, toks := tk })
    (done : ∀ g' h tk (um : Str → Option Value) v rest, J its.length rest → Gnd base outer L g0 g' h (fun y => if y = x then v else if S.contains y then um y else m y) rest → Q .next { s with heap := h, toks := tk })
    (hE : PassesOwn (model prog w) A env E) :
    wpAny (model prog w) A (pyIter (.ref l)) (fun it s₂ => codeAny (model prog w) A (.forLoop (.Name x px) it body [] env) (fun r s' => match r with | .ok f => Q f s' | .error e => cameBackBy (model prog w) A env E e s') s₂) E s := by
  refine forListG (fun i m' rest => J i rest ∧ ∀ z, z ≠ x → S.contains z = false → m' z = m z) hh hoL hl (fun i m' rest j => hkeep i rest j.1) hx hp hL G ⟨hj, fun _ _ _ => rfl⟩ ?_ ?_ hE
  · rintro i g' h tk m' rest it ito v hv ⟨hJ, hm⟩ ne lt G'
    rw [map_norm hm] at G'
    exact wpAny_mono (turn i g' h tk m' rest it ito v hv hJ ne lt G') (LoopEndS.go fun m' rest j n q => ⟨⟨j, q⟩, n⟩) fun _ _ e => e
  · rintro g' h tk m' rest ⟨hJ, hm⟩ G'
    rw [map_norm' hm] at G'
    exact done g' h tk m' _ rest hJ G'
end
def WhInt (h₀ : Heap) (L : Addr) (s : Shared) (x : Str) (M : Str → Option Value) (news : List (Addr × Obj)) (I : Int → Prop) (μ : Int → Nat) (Q : Flow → Shared → Prop) (r : Int) (f : Flow) (s₃ : Shared) : Prop :=
  match f with
  | .next | .cont => ∃ h' tk m' r' t, s₃ = { s with heap := h', toks := tk } ∧ Fr h₀ L h' m' ∧ m' x = some (.int r' t) ∧ (∀ z, z ≠ x → m' z = M z) ∧ News h₀ L h' news ∧ I r' ∧ μ r' < μ r
  | .brk => Q .next s₃
  | .ret v => Q (.ret v) s₃
def WhEnd (h₀ : Heap) (L : Addr) (s : Shared) (x : Str) (M : Str → Option Value) (news : List (Addr × Obj)) (I : Int → Prop) (f : Flow) (s₃ : Shared) : Prop :=
  f = .next ∧ ∃ h' tk r t, s₃ = { s with heap := h', toks := tk } ∧ Fr h₀ L h' (fun y => if y = x then some (.int r t) else M y) ∧ News h₀ L h' news ∧ I r
theorem map_one {x : Str} {m' M : Str → Option Value} {v : Option Value} (h1 : m' x = v) (h2 : ∀ z, z ≠ x → m' z = M z) : m' = fun y => if y = x then v else M y := by
  funext y
  by_cases h : y = x
  · subst h; simp [h1]
  · simp only [if_neg h]; exact h2 y h
/-- a while over one int -/
theorem whileInt {prog : Program} {w : World} {A : Around} {E : Value → Shared → Prop} {Q : Flow → Shared → Prop} {s : Shared} {env : Env} {h₀ : Heap} {L : Addr} {test : Expr} {body : List Stmt} {pos : Pos} {x : Str} {M : Str → Option Value} {news : List (Addr × Obj)} {r0 : Int} {t0 : Tok} (I : Int → Prop) (μ : Int → Nat)
    (F : Fr h₀ L s.heap (fun y => if y = x then some (.int r0 t0) else M y)) (N : News h₀ L s.heap news) (h0 : I r0)
    (turn : ∀ r t h tk, I r → Fr h₀ L h (fun y => if y = x then some (.int r t) else M y) → News h₀ L h news →
      wpAny (model prog w) A (isTrue test env (eval test env)) (fun b s₂ => if b = true then wpAny (model prog w) A (execs body env) (WhInt h₀ L s x M news I μ Q r) E s₂ else Q .next s₂) E { s with heap := h, toks := tk })
    (hE : PassesOwn (model prog w) A env E) :
    wpAny (model prog w) A (exec (.While test body [] pos) env) Q E s := by
  refine While_inv2 (L := L) (fun n m nx => nx = news ∧ ∃ r t, m = (fun y => if y = x then some (.int r t) else M y) ∧ I r ∧ μ r = n) F N ⟨rfl, r0, t0, rfl, h0, rfl⟩ ?_ hE
  rintro n m₁ nx h tk F₁ N₁ ⟨rfl, r, t, rfl, hI, rfl⟩
  refine wpAny_mono (turn r t h tk hI F₁ N₁) (fun b s₂ p => ?_) fun _ _ x => x
  cases b with
  | false => simpa using p
  | true =>
    simp only [if_true] at p ⊢
    refine wpAny_mono p (fun f s₃ q => ?_) fun _ _ x => x
    cases f with
    | ret v => exact q
    | brk => exact q
    | next =>
      obtain ⟨h', tk', m', r', t', e1, F', q1, q2, N', i1, lt⟩ := q
      exact ⟨h', tk', m', nx, μ r', e1, F', N', lt, rfl, r', t', map_one q1 q2, i1, rfl⟩
    | cont =>
      obtain ⟨h', tk', m', r', t', e1, F', q1, q2, N', i1, lt⟩ := q
      exact ⟨h', tk', m', nx, μ r', e1, F', N', lt, rfl, r', t', map_one q1 q2, i1, rfl⟩
theorem whileIntEnd {prog : Program} {w : World} {A : Around} {E : Value → Shared → Prop} {Q : Flow → Shared → Prop} {s : Shared} {env : Env} {h₀ : Heap} {L : Addr} {test : Expr} {body : List Stmt} {pos : Pos} {x : Str} {M : Str → Option Value} {news : List (Addr × Obj)} {r0 : Int} {t0 : Tok} (I If : Int → Prop) (μ : Int → Nat)
    (F : Fr h₀ L s.heap (fun y => if y = x then some (.int r0 t0) else M y)) (N : News h₀ L s.heap news) (h0 : I r0)
    (turn : ∀ r t h tk, I r → Fr h₀ L h (fun y => if y = x then some (.int r t) else M y) → News h₀ L h news →
      wpAny (model prog w) A (isTrue test env (eval test env)) (fun b s₂ => if b = true then wpAny (model prog w) A (execs body env) (WhInt h₀ L s x M news I μ (WhEnd h₀ L s x M news If) r) (fun _ _ => False) s₂ else WhEnd h₀ L s x M news If .next s₂) (fun _ _ => False) { s with heap := h, toks := tk })
    (k : ∀ h tk r t, Fr h₀ L h (fun y => if y = x then some (.int r t) else M y) → News h₀ L h news → If r → Q .next { s with heap := h, toks := tk }) :
    wpAny (model prog w) A (exec (.While test body [] pos) env) Q E s := by
  refine wpAny_mono (whileInt I μ F N h0 turn PassesOwn.never) (fun f s' q => ?_) (fun _ _ z => z.elim)
  obtain ⟨rfl, h', tk, r, t, rfl, F', N', i⟩ := q
  exact k h' tk r t F' N' i
theorem WhEnd.intro {h₀ : Heap} {L : Addr} {s : Shared} {x : Str} {M m' : Str → Option Value} {news : List (Addr × Obj)} {I : Int → Prop} {h' : Heap} {tk : Nat} {r : Int} {t : Tok} (F : Fr h₀ L h' m') (N : News h₀ L h' news) (i : I r) (q1 : m' x = some (.int r t)) (q2 : ∀ z, z ≠ x → m' z = M z) :
    WhEnd h₀ L s x M news I .next { s with heap := h', toks := tk } := ⟨rfl, h', tk, r, t, rfl, by rw [← map_one q1 q2]; exact F, N, i⟩
def Stop (p : Prop) : Prop := p
theorem stop {p : Prop} (h : Stop p) : p := h
end Mine
end
section
open PySem PySem.W PySem.Calls PyProof.Rows
set_option maxRecDepth 100000
namespace Mine
inductive Off (x dx : Addr) : List (Addr × Obj) → List (Addr × Obj) → Prop
  | nil : Off x dx [] []
  | skipx {o r r'} : Off x dx r r' → Off x dx ((x, o) :: r) r'
  | skipd {o r r'} : Off x dx r r' → Off x dx ((dx, o) :: r) r'
  | keep {p r r'} : p.1 ≠ x → p.1 ≠ dx → Off x dx r r' → Off x dx (p :: r) (p :: r')
theorem Off.sub {x dx : Addr} {l l' : List (Addr × Obj)} (o : Off x dx l l') : ∀ p ∈ l', p ∈ l ∧ p.1 ≠ x ∧ p.1 ≠ dx := by
  induction o with
  | nil => intro p hp; nomatch hp
  | skipx _ ih => intro p hp; exact ⟨List.mem_cons_of_mem _ (ih p hp).1, (ih p hp).2⟩
  | skipd _ ih => intro p hp; exact ⟨List.mem_cons_of_mem _ (ih p hp).1, (ih p hp).2⟩
  | keep a b _ ih =>
    intro p hp
    rcases List.mem_cons.mp hp with rfl | hp
    · exact ⟨List.mem_cons_self .., a, b⟩
    · exact ⟨List.mem_cons_of_mem _ (ih p hp).1, (ih p hp).2⟩
set_option genSizeOf false in
set_option genInjectivity false in
structure TkP where
  h1 : Int
  h2 : Int
  h3 : Int
  h4 : Int
  h5 : Int
  t1 : Tok
  t2 : Tok
  t3 : Tok
  t4 : Tok
  t5 : Tok
  td : Tok
  ti : Tok
abbrev tkD (k : TkP) (ist gv : Value) (T : Str) (i : Int) (nx : Value) : Obj := dictOf [⟨k.h1, .str (Str.ofString "istext") k.t1, ist⟩, ⟨k.h2, .str (Str.ofString "string") k.t2, gv⟩, ⟨k.h3, .str (Str.ofString "decoded_string") k.t3, .str T k.td⟩, ⟨k.h4, .str (Str.ofString "index") k.t4, .int i k.ti⟩, ⟨k.h5, .str (Str.ofString "next") k.t5, nx⟩] 5
section
variable {w : World} {mean : ExcName → Option Value} {mg mb : Str → Option Value} {base g0 g : Heap} {A : Around} {E : Value → Shared → Prop} {Q : Value → Shared → Prop} {s : Shared} {x dx L : Addr} {env : Env} {outer : List Env} {m : Str → Option Value} {news rest : List (Addr × Obj)}
  {ist gv nx : Value} {T : Str} {i : Nat} {hd : Option Value} {kk : TkP}

/-- the ground behind anything that keeps all but X and may turn the frames' slots -/
theorem Gnd.turn {h h' : Heap} {X : List Addr} {news' : List (Addr × Obj)} (G : Gnd base outer L g0 g h m news) (k : Kept X (L :: fsOf outer) h h') (hX : ∀ b ∈ X, g.get? b = none ∧ b ≠ L)
    (hn : ∀ p ∈ news', (p ∈ news ∧ p.1 ∉ X) ∨ (h'.get? p.1 = some p.2 ∧ p.1 ≠ L ∧ g.get? p.1 = none)) : ∃ g', Gnd base outer L g0 g' h' m news' := by
  obtain ⟨g', tn, F', ff', st', hN⟩ := reground G.F G.N G.ff G.st k hX
  exact ⟨g', F', hN _ hn, ff', st', G.tn.trans tn⟩
theorem Gnd.mem {h : Heap} {news' : List (Addr × Obj)} (G : Gnd base outer L g0 g h m news) (hn : ∀ p ∈ news', p ∈ news) : Gnd base outer L g0 g h m news' := ⟨G.F, fun p hp => G.N p (hn p hp), G.ff, G.st, G.tn⟩
theorem Gnd.fresh {h : Heap} (G : Gnd base outer L g0 g h m news) {b : Addr} (e : h.get? b = none) : g.get? b = none ∧ b ≠ L := by
  refine ⟨?_, fun z => ?_⟩
  · cases q : g.get? b with
    | none => rfl
    | some o => rw [G.F.keep _ _ q] at e; cases e
  · obtain ⟨o, _, _, ho, _⟩ := G.F.ns
    rw [← z, e] at ho; cases ho

theorem tokBack {h h' : Heap} (G : Gnd base outer L g0 g h m news) (off : Off x dx news rest) (hx : (x, instObj 133 dx) ∈ news) {od : Obj} (hdx : (dx, od) ∈ news)
    (k : Kept [x, dx] (L :: fsOf outer) h h') (t : TokAt h' x dx ist gv T i nx) :
    ∃ g' kk, Gnd base outer L g0 g' h' m ((x, instObj 133 dx) :: (dx, tkD kk ist gv T (i : Int) nx) :: rest) := by
  obtain ⟨tx, b1, b2, b3, b4, b5, c1, c2, c3, c4, c5, cd, ci, tD⟩ := t
  have nX := G.N _ hx
  have nD := G.N _ hdx
  obtain ⟨g', G'⟩ := G.turn (news' := (x, instObj 133 dx) :: (dx, tkD ⟨b1, b2, b3, b4, b5, c1, c2, c3, c4, c5, cd, ci⟩ ist gv T (i : Int) nx) :: rest) k (by
    intro b hb
    rcases List.mem_cons.mp hb with rfl | hb
    · exact ⟨nX.2.2, nX.2.1⟩
    · rcases List.mem_cons.mp hb with rfl | hb
      · exact ⟨nD.2.2, nD.2.1⟩
      · nomatch hb) (by
    intro p hp
    rcases List.mem_cons.mp hp with rfl | hp
    · exact .inr ⟨tx, nX.2.1, nX.2.2⟩
    rcases List.mem_cons.mp hp with rfl | hp
    · exact .inr ⟨tD, nD.2.1, nD.2.2⟩
    · obtain ⟨a, b, c⟩ := off.sub p hp
      refine .inl ⟨a, fun mm => ?_⟩
      rcases List.mem_cons.mp mm with z | mm
      · exact b z
      · rcases List.mem_cons.mp mm with z | mm
        · exact c z
        · nomatch mm)
  exact ⟨g', ⟨b1, b2, b3, b4, b5, c1, c2, c3, c4, c5, cd, ci⟩, G'⟩

/-- what the rules of the tokenizer's methods need of the place where they are called -/
structure At (base : Heap) (outer : List Env) (L : Addr) (g0 g : Heap) (A : Around) (env : Env) (hd : Option Value) (s : Shared) (m : Str → Option Value) (news : List (Addr × Obj)) : Prop where
  G : Gnd base outer L g0 g s.heap m news
  hA : A.handled = hd
  hfr : A.frames = some (env :: outer)
  hf : env.frame = some L
  hkm : env.scope.kind ≠ .module
  hnb : base.get? L = none
  hroom : A.depth + 3 < recursionLimit
  hhs : HdSh s.heap hd

theorem At.fs (a : At base outer L g0 g A env hd s m news) : fsOf (env :: outer) = L :: fsOf outer := by unfold fsOf; rw [List.filterMap_cons, a.hf]
theorem At.ffH (a : At base outer L g0 g A env hd s m news) : s.heap.FunFrames base (env :: outer) := Heap.FunFrames.cons a.hkm a.hf a.G.F.ns a.hnb (a.G.ff.of_keeps fun b o e _ => ⟨o, a.G.F.keep b o e, rfl⟩)
theorem At.bn (a : At base outer L g0 g A env hd s m news) {b : Addr} (e : g.get? b = none) : base.get? b = none := by
  cases q : base.get? b with
  | none => rfl
  | some o => rw [a.G.st _ _ q] at e; cases e
theorem At.nf (a : At base outer L g0 g A env hd s m news) {b : Addr} (e : g.get? b = none) (n : b ≠ L) : b ∉ fsOf (env :: outer) := fun mm => by
  rw [a.fs] at mm
  rcases List.mem_cons.mp mm with z | mm
  · exact n z
  · exact funFrames_apart a.G.ff e mm
theorem At.st (a : At base outer L g0 g A env hd s m news) : base.StaysIn s.heap := fun _ _ e => a.G.F.keep _ _ (a.G.st _ _ e)
theorem HdSh.hide {h : Heap} {hd : Option Value} {X : List Addr} (x : HdSh h hd) (hX : ∀ b ∈ X, ∃ o, h.get? b = some o ∧ ∀ vs, o.data ≠ .fields vs) : HdSh (hideAll h X) hd := by
  have k : ∀ {p : Addr} {c : Value}, At2 h p c → At2 (hideAll h X) p c := fun {p c} ⟨o, vs, e, d, q⟩ => ⟨o, vs, hideAll_get _ e fun mm => by
    obtain ⟨o', e', n⟩ := hX p mm
    rw [e] at e'; injection e' with e'; subst e'; exact n _ d, d, q⟩
  rcases x with rfl | ⟨p, rfl, ⟨c, a0⟩, a | ⟨q, a, ne, b⟩⟩
  · exact .inl rfl
  · exact .inr ⟨p, rfl, ⟨c, k a0⟩, .inl (k a)⟩
  · exact .inr ⟨p, rfl, ⟨c, k a0⟩, .inr ⟨q, k a, ne, k b⟩⟩
theorem At.hide (a : At base outer L g0 g A env hd s m news) {X : List Addr} (hX : ∀ b ∈ X, ∃ o, s.heap.get? b = some o ∧ ∀ vs, o.data ≠ .fields vs) : HdSh (hideAll s.heap X) hd := a.hhs.hide hX
theorem two {P : Addr → Prop} {x dx : Addr} (a : P x) (b : P dx) : ∀ c ∈ [x, dx], P c := by
  intro c hc
  rcases List.mem_cons.mp hc with rfl | hc
  · exact a
  · rcases List.mem_cons.mp hc with rfl | hc
    · exact b
    · nomatch hc
theorem Kept.nil {X fs : List Addr} {h h' : Heap} (k : Kept X [] h h') : Kept X fs h h' := k.mono (fun b m => .inl m) (fun b m => nomatch m)

abbrev TokPost (base : Heap) (outer : List Env) (L : Addr) (g0 : Heap) (m : Str → Option Value) (rest : List (Addr × Obj)) (x dx : Addr) (ist gv : Value) (T : Str) (i : Nat) (nx : Value) (P : Heap → Nat → Prop) : Prop :=
  ∀ g' h' tk kk, Gnd base outer L g0 g' h' m ((x, instObj 133 dx) :: (dx, tkD kk ist gv T (i : Int) nx) :: rest) → P h' tk

theorem callTellS {z : Str} {tz : Tok} (hB : BaseOk w mean mg mb base) (a : At base outer L g0 g A env hd s m news) (off : Off x dx news rest) (hx : (x, instObj 133 dx) ∈ news) (hdx : (dx, tkD kk ist gv T (i : Int) (.str z tz)) ∈ news)
    (hi : i < 900) (hz : 0 < z.length) (hz9 : z.length < 900)
    (h : TokPost base outer L g0 m rest x dx ist gv T i (.str z tz) fun h' tk => ∀ t, Q (.int ((i : Int) - (z.length : Int)) t) { s with heap := h', toks := tk }) :
    wpAny (model PySem.Challenge.rw_dw0053_01.row.prog w) A (call (.ref 108) [.ref x]) Q E s := by
  obtain ⟨a0, d0, f0, gd0, u0⟩ := A
  have nX := a.G.N _ hx
  have nD := a.G.N _ hdx
  refine wpAny_call (tellS hB a.st ⟨nX.1, _, _, _, _, _, _, _, _, _, _, _, _, nD.1⟩ (a.bn nX.2.2) (a.bn nD.2.2) (by have := a.hroom; dsimp only at this; omega) hi hz hz9 fun h' tk t k tt => ?_)
  obtain ⟨g', kk', G'⟩ := tokBack a.G off hx hdx k.nil tt
  exact h g' h' tk kk' G' t
theorem callTellN (hB : BaseOk w mean mg mb base) (a : At base outer L g0 g A env hd s m news) (off : Off x dx news rest) (hx : (x, instObj 133 dx) ∈ news) (hdx : (dx, tkD kk ist gv T (i : Int) .none) ∈ news)
    (hi : i < 900)
    (h : TokPost base outer L g0 m rest x dx ist gv T i .none fun h' tk => ∀ t, Q (.int (i : Int) t) { s with heap := h', toks := tk }) :
    wpAny (model PySem.Challenge.rw_dw0053_01.row.prog w) A (call (.ref 108) [.ref x]) Q E s := by
  obtain ⟨a0, d0, f0, gd0, u0⟩ := A
  have nX := a.G.N _ hx
  have nD := a.G.N _ hdx
  refine wpAny_call (tellN hB a.st ⟨nX.1, _, _, _, _, _, _, _, _, _, _, _, _, nD.1⟩ (a.bn nX.2.2) (a.bn nD.2.2) (by have := a.hroom; dsimp only at this; omega) hi fun h' tk t k tt => ?_)
  obtain ⟨g', kk', G'⟩ := tokBack a.G off hx hdx k.nil tt
  exact h g' h' tk kk' G' t
theorem callPosS {z : Str} {tz : Tok} {R : Result → Shared → Prop} (hB : BaseOk w mean mg mb base) (a : At base outer L g0 g A env hd s m news) (off : Off x dx news rest) (hx : (x, instObj 133 dx) ∈ news) (hdx : (dx, tkD kk ist gv T (i : Int) (.str z tz)) ∈ news)
    (hi : i < 900) (hz : 0 < z.length) (hz9 : z.length < 900)
    (h : TokPost base outer L g0 m rest x dx ist gv T i (.str z tz) fun h' tk => ∀ t, R (.ok (.ret (.int ((i : Int) - (z.length : Int)) t))) { s with heap := h', toks := tk }) :
    codeAny (model PySem.Challenge.rw_dw0053_01.row.prog w) A (.call (.ref 100) ⟨[.ref x], []⟩) R s := by
  obtain ⟨a0, d0, f0, gd0, u0⟩ := A
  have nX := a.G.N _ hx
  have nD := a.G.N _ hdx
  refine posS hB a.st ⟨nX.1, _, _, _, _, _, _, _, _, _, _, _, _, nD.1⟩ (a.bn nX.2.2) (a.bn nD.2.2) (by have := a.hroom; dsimp only at this; omega) hi hz hz9 fun h' tk t k tt => ?_
  obtain ⟨g', kk', G'⟩ := tokBack a.G off hx hdx k.nil tt
  exact h g' h' tk kk' G' t
theorem callMatchNe {z zc : Str} {tz tc : Tok} (hB : BaseOk w mean mg mb base) (a : At base outer L g0 g A env hd s m news) (off : Off x dx news rest) (hx : (x, instObj 133 dx) ∈ news) (hdx : (dx, tkD kk ist gv T (i : Int) (.str z tz)) ∈ news)
    (hz : (zc == z) = false)
    (h : TokPost base outer L g0 m rest x dx ist gv T i (.str z tz) fun h' tk => Q (.bool false) { s with heap := h', toks := tk }) :
    wpAny (model PySem.Challenge.rw_dw0053_01.row.prog w) A (call (.ref 72) [.ref x, .str zc tc]) Q E s := by
  obtain ⟨a0, d0, f0, gd0, u0⟩ := A
  have nX := a.G.N _ hx
  have nD := a.G.N _ hdx
  refine wpAny_call (matchNe hB a.st ⟨nX.1, _, _, _, _, _, _, _, _, _, _, _, _, nD.1⟩ (a.bn nX.2.2) (a.bn nD.2.2) (by have := a.hroom; dsimp only at this; omega) hz fun h' tk k tt => ?_)
  obtain ⟨g', kk', G'⟩ := tokBack a.G off hx hdx k.nil tt
  exact h g' h' tk kk' G'
theorem callMatchNone {zc : Str} {tc : Tok} (hB : BaseOk w mean mg mb base) (a : At base outer L g0 g A env hd s m news) (off : Off x dx news rest) (hx : (x, instObj 133 dx) ∈ news) (hdx : (dx, tkD kk ist gv T (i : Int) .none) ∈ news)
    (h : TokPost base outer L g0 m rest x dx ist gv T i .none fun h' tk => Q (.bool false) { s with heap := h', toks := tk }) :
    wpAny (model PySem.Challenge.rw_dw0053_01.row.prog w) A (call (.ref 72) [.ref x, .str zc tc]) Q E s := by
  obtain ⟨a0, d0, f0, gd0, u0⟩ := A
  have nX := a.G.N _ hx
  have nD := a.G.N _ hdx
  refine wpAny_call (matchNone hB a.st ⟨nX.1, _, _, _, _, _, _, _, _, _, _, _, _, nD.1⟩ (a.bn nX.2.2) (a.bn nD.2.2) (by have := a.hroom; dsimp only at this; omega) fun h' tk k tt => ?_)
  obtain ⟨g', kk', G'⟩ := tokBack a.G off hx hdx k.nil tt
  exact h g' h' tk kk' G'
theorem callMatchEq {z zc : Str} {tz tc : Tok} (V : GivOk w gv T) (hB : BaseOk w mean mg mb base) (a : At base outer L g0 g A env hd s m news) (off : Off x dx news rest) (hx : (x, instObj 133 dx) ∈ news) (hdx : (dx, tkD kk ist gv T (i : Int) (.str z tz)) ∈ news)
    (hz : (zc == z) = true) (hi : i ≤ T.length)
    (h : ¬ lone T.cps.toList i → ∀ nx', NxVal (nxSign T.cps.toList i) nx' → TokPost base outer L g0 m rest x dx ist gv T (nxIdx T.cps.toList i) nx' fun h' tk => Q (.bool true) { s with heap := h', toks := tk })
    (hE : ∀ h' tk e, lone T.cps.toList i → TokAt h' x dx ist gv T i (.str z tz) → Loned w gv T s x dx [x, dx] (L :: fsOf outer) hd i h' e → E (.ref e) { s with heap := h', toks := tk }) :
    wpAny (model PySem.Challenge.rw_dw0053_01.row.prog w) A (call (.ref 72) [.ref x, .str zc tc]) Q E s := by
  obtain ⟨a0, d0, f0, gd0, u0⟩ := A
  have nX := a.G.N _ hx
  have nD := a.G.N _ hdx
  have hA := a.hA
  have hfr := a.hfr
  dsimp only at hA hfr
  subst hA hfr
  refine wpAny_call (matchEq hB a.st ⟨nX.1, _, _, _, _, _, _, _, _, _, _, _, _, nD.1⟩ (a.bn nX.2.2) (a.bn nD.2.2) V hz hi a.hroom a.ffH (a.nf nX.2.2 nX.2.1) (a.nf nD.2.2 nD.2.1) (a.hide (two ⟨_, nX.1, fun _ z => by cases z⟩ ⟨_, nD.1, fun _ z => by cases z⟩)) (fun h' tk nx' nl k tt v => ?_) fun h' tk e l tt ld => ?_)
  · rw [a.fs] at k
    obtain ⟨g', kk', G'⟩ := tokBack a.G off hx hdx k tt
    exact h nl nx' v g' h' tk kk' G'
  · rw [a.fs] at ld
    exact hE h' tk e l tt ld
theorem callGet (V : GivOk w gv T) (hB : BaseOk w mean mg mb base) (a : At base outer L g0 g A env hd s m news) (off : Off x dx news rest) (hx : (x, instObj 133 dx) ∈ news) (hdx : (dx, tkD kk ist gv T (i : Int) nx) ∈ news)
    (hnx : handedIn nx = true) (hi : i ≤ T.length)
    (h : ¬ lone T.cps.toList i → ∀ nx', NxVal (nxSign T.cps.toList i) nx' → TokPost base outer L g0 m rest x dx ist gv T (nxIdx T.cps.toList i) nx' fun h' tk => Q nx { s with heap := h', toks := tk })
    (hE : ∀ h' tk e, lone T.cps.toList i → TokAt h' x dx ist gv T i nx → Loned w gv T s x dx [x, dx] (L :: fsOf outer) hd i h' e → E (.ref e) { s with heap := h', toks := tk }) :
    wpAny (model PySem.Challenge.rw_dw0053_01.row.prog w) A (call (.ref 79) [.ref x]) Q E s := by
  obtain ⟨a0, d0, f0, gd0, u0⟩ := A
  have nX := a.G.N _ hx
  have nD := a.G.N _ hdx
  have hA := a.hA
  have hfr := a.hfr
  dsimp only at hA hfr
  subst hA hfr
  refine wpAny_call (getC hB a.st ⟨nX.1, _, _, _, _, _, _, _, _, _, _, _, _, nD.1⟩ (a.bn nX.2.2) (a.bn nD.2.2) V hnx hi a.hroom a.ffH (a.nf nX.2.2 nX.2.1) (a.nf nD.2.2 nD.2.1) (a.hide (two ⟨_, nX.1, fun _ z => by cases z⟩ ⟨_, nD.1, fun _ z => by cases z⟩)) (fun h' tk nx' nl k tt v => ?_) fun h' tk e l tt ld => ?_)
  · rw [a.fs] at k
    obtain ⟨g', kk', G'⟩ := tokBack a.G off hx hdx k tt
    exact h nl nx' v g' h' tk kk' G'
  · rw [a.fs] at ld
    exact hE h' tk e l tt ld
theorem callSeek {i0 : Int} {j : Int} {tj : Tok} (V : GivOk w gv T) (hB : BaseOk w mean mg mb base) (a : At base outer L g0 g A env hd s m news) (off : Off x dx news rest) (hx : (x, instObj 133 dx) ∈ news) (hdx : (dx, tkD kk ist gv T i0 nx) ∈ news)
    (hi0 : 0 ≤ i0) (hj : j = (i : Int)) (hi : i ≤ T.length) (hnl : ¬ lone T.cps.toList i)
    (h : ∀ nx', NxVal (nxSign T.cps.toList i) nx' → TokPost base outer L g0 m rest x dx ist gv T (nxIdx T.cps.toList i) nx' fun h' tk => Q .none { s with heap := h', toks := tk }) :
    wpAny (model PySem.Challenge.rw_dw0053_01.row.prog w) A (call (.ref 115) [.ref x, .int j tj]) Q E s := by
  obtain ⟨a0, d0, f0, gd0, u0⟩ := A
  have nX := a.G.N _ hx
  have nD := a.G.N _ hdx
  have hA := a.hA
  have hfr := a.hfr
  dsimp only at hA hfr
  subst hA hfr hj
  obtain ⟨i1, rfl⟩ := Int.eq_ofNat_of_zero_le hi0
  refine wpAny_call (seekC hB a.st ⟨nX.1, _, _, _, _, _, _, _, _, _, _, _, _, nD.1⟩ (a.bn nX.2.2) (a.bn nD.2.2) V hi a.hroom a.ffH (a.nf nX.2.2 nX.2.1) (a.nf nD.2.2 nD.2.1) (a.hide (two ⟨_, nX.1, fun _ z => by cases z⟩ ⟨_, nD.1, fun _ z => by cases z⟩)) (fun h' tk nx' nl k tt v => ?_) fun h' tk e l tt ld => (hnl l).elim)
  rw [a.fs] at k
  obtain ⟨g', kk', G'⟩ := tokBack a.G off hx hdx k tt
  exact h nx' v g' h' tk kk' G'
end
end Mine
end
section
open PySem PySem.W PySem.Calls PyProof.Rows
set_option maxRecDepth 100000
namespace Mine
theorem fill14 : PySem.Challenge.rw_dw0053_01 = PySem.Challenge.rw_dw0053_01 ∧ ∀ P, Mine.hd.heap_39 P = Mine.hd.heap_39 P := by
  k_fill
  exact ⟨rfl, fun _ => rfl⟩
theorem wTC133 (l : List Value) (k : List (Str × Value)) : (Code.builtin "type.__call__" ⟨.ref 133 :: l, k⟩).weight = 1 := by
  have e1 : (Code.builtin "type.__call__" ⟨.ref 133 :: l, k⟩).frames = 0 := by kernel_rfl
  have e2 : (Code.builtin "type.__call__" ⟨.ref 133 :: l, k⟩).isCreation = true := rfl
  have e3 : (Code.builtin "type.__call__" ⟨.ref 133 :: l, k⟩).isGuard = false := by show guardIds.contains "type.__call__" = false; decide +kernel
  have e4 : (Code.builtin "type.__call__" ⟨.ref 133 :: l, k⟩).isCaller = false := by kernel_rfl
  unfold Code.weight
  rw [e1, e2, e3, e4]; rfl
theorem cls133 (P : Params) : makesIn (Mine.hd.heap_39 P) 133 = true ∧ findIn (Mine.hd.heap_39 P) (.ref 133) "__init__" = some (some (.ref 58)) ∧ isFn (Mine.hd.heap_39 P) (.ref 58) = true := ⟨by k_is, by k_is, by k_is⟩
/-- Tokenizer.__init__ of given -/
def TokInit (w : World) (gv ist : Value) (T : Str) : Prop := ∀ {mean : ExcName → Option Value} {mg mb : Str → Option Value} {base : Heap} {s : Shared} {x dx : Addr} {R : Result → Shared → Prop}
    {hd : Option Value} {dp un : Nat} {outer : List Env} {gd : Option (List Code)}
    (_hB : BaseOk w mean mg mb base) (_st : base.StaysIn s.heap)
    (_hT : s.heap.get? x = some (instObj 133 dx) ∧ s.heap.get? dx = some (dictOf [] 0)) (_hxb : base.get? x = none) (_hdb : base.get? dx = none)
    (_hroom : dp + 3 < recursionLimit) (_ff : s.heap.FunFrames base outer) (_hxo : x ∉ fsOf outer) (_hdo : dx ∉ fsOf outer) (_hhx : HdSh (hideAll s.heap [x, dx]) hd)
    (_hR : ∀ h' tk nx', ¬ lone T.cps.toList 0 → Kept [x, dx] (fsOf outer) s.heap h' → TokAt h' x dx ist gv T (nxIdx T.cps.toList 0) nx' → NxVal (nxSign T.cps.toList 0) nx' → R (.ok (.ret .none)) { s with heap := h', toks := tk })
    (_hErr : ∀ h' tk e, lone T.cps.toList 0 → TokAt h' x dx ist gv T 0 .none → Loned w gv T s x dx [x, dx] (fsOf outer) hd 0 h' e → R (.error (.ref e)) { s with heap := h', toks := tk }),
    codeAny (model PySem.Challenge.rw_dw0053_01.row.prog w) { handled := hd, depth := dp, frames := some outer, guards := gd, units := un } (.call (.ref 58) ⟨[.ref x, gv], []⟩) R s
theorem tokInitS {w : World} {T : Str} {tg : Tok} (h : T.length ≤ 100) : TokInit w (.str T tg) (.bool true) T := fun hB st hT hxb hdb hroom ff hxo hdo hhx hR hErr => initS hB st hT hxb hdb (givS h) hroom ff hxo hdo hhx hR hErr
theorem tokInitB {w : World} {T : Str} {B : Array UInt8} {tg : Tok} (D : DecIs w B T) (h : T.length ≤ 100) (e : B.size = T.length) (hb : ∀ i : Nat, (B[i]? == some 10) = (T.cps.toList[i]? == some 10)) : TokInit w (.bytes B tg) (.bool false) T := fun hB st hT hxb hdb hroom ff hxo hdo hhx hR hErr => initB D hB st hT hxb hdb (givB h e hb) hroom ff hxo hdo hhx hR hErr
theorem mkTok {w : World} {gv ist : Value} {T : Str} (TI : TokInit w gv ist T) {mean : ExcName → Option Value} {mg mb : Str → Option Value} {base : Heap} {s : Shared} {R : Result → Shared → Prop}
    {hd : Option Value} {dp un : Nat} {outer : List Env} {gd : Option (List Code)}
    (hB : BaseOk w mean mg mb base) (st : base.StaysIn s.heap) (hroom : dp + 4 < recursionLimit) (ff : s.heap.FunFrames base outer) (hhx : HdSh s.heap hd)
    (hR : ∀ h' tk x dx nx', ¬ lone T.cps.toList 0 → Kept [] (fsOf outer) s.heap h' → TokAt h' x dx ist gv T (nxIdx T.cps.toList 0) nx' → NxVal (nxSign T.cps.toList 0) nx' → s.heap.objs.size ≤ dx → dx < x → R (.ok (.ret (.ref x))) { s with heap := h', toks := tk })
    (hErr : ∀ h' tk e, lone T.cps.toList 0 → Loned w gv T s 0 0 [] (fsOf outer) hd 0 h' e → R (.error (.ref e)) { s with heap := h', toks := tk }) :
    codeAny (model PySem.Challenge.rw_dw0053_01.row.prog w) { handled := hd, depth := dp, frames := some outer, guards := gd, units := un } (.call (.ref 133) ⟨[gv], []⟩) R s := by
  obtain ⟨hh, g, d, t, os⟩ := s
  have X := hB.X.keeps st
  obtain ⟨c1, c2, c3⟩ := cls133 w.params
  have k : ∀ b o, hh.get? b = some o → ((hh.push emptyDict).push (instObj 133 hh.objs.size)).get? b = some o := fun b o e => Heap.get?_push_of_some _ (Heap.get?_push_of_some _ e)
  have hx : ((hh.push emptyDict).push (instObj 133 hh.objs.size)).get? (hh.objs.size + 1) = some (instObj 133 hh.objs.size) := by heap_get
  have hdx : ((hh.push emptyDict).push (instObj 133 hh.objs.size)).get? hh.objs.size = some emptyDict := by heap_get
  have sz : ((hh.push emptyDict).push (instObj 133 hh.objs.size)).objs.size = hh.objs.size + 2 := by rw [Heap.size_push, Heap.size_push]
  have nb : ∀ {b}, hh.objs.size ≤ b → base.get? b = none := fun {b} q => by
    cases e : base.get? b with
    | none => rfl
    | some o => exact absurd (Heap.lt_size (st _ _ e)) (Nat.not_lt.mpr q)
  have nn : ∀ {b}, hh.objs.size ≤ b → hh.get? b = none := fun q => Heap.get?_none_of_le q
  have ff' : ((hh.push emptyDict).push (instObj 133 hh.objs.size)).FunFrames base outer := ff.of_keeps fun b o e _ => ⟨o, k _ _ e, rfl⟩
  have nf : ∀ {b}, hh.objs.size ≤ b → b ∉ fsOf outer := fun q m => by
    obtain ⟨_, o, ho, _⟩ := ff.mem m
    exact absurd (Heap.lt_size ho) (Nat.not_lt.mpr q)
  have K0 : ∀ {h'}, Kept [hh.objs.size + 1, hh.objs.size] (fsOf outer) ((hh.push emptyDict).push (instObj 133 hh.objs.size)) h' → Kept [] (fsOf outer) hh h' := fun {h'} K1 =>
    ⟨Nat.le_trans (by rw [sz]; omega) K1.size, fun b o e _ => K1.keep b o (k _ _ e) (by
      have : b < hh.objs.size := Heap.lt_size e
      simp only [List.mem_cons, List.not_mem_nil, or_false]
      rintro (z | z)
      · exact absurd z (Nat.ne_of_lt (Nat.lt_succ_of_lt this))
      · exact absurd z (Nat.ne_of_lt this))⟩
  refine make_core (makes_of X c1) (looks_findIn X c2) (fun self => bind_fn X self (beq_iff_eq.mp c3)) (.inl rfl) ?_
  refine TI hB (fun b o e => k _ _ (st b o e)) ⟨hx, hdx⟩ (nb (by omega)) (nb (by omega)) (Nat.lt_of_le_of_lt (Nat.le_of_eq (by show dp + (Code.builtin "type.__call__" _).weight + 3 = dp + 4; rw [wTC133])) hroom) ff' (nf (by omega)) (nf (by omega)) (hhx.keep fun b o e => hideAll_get _ (k _ _ e) ?_) (fun h' tk nx' nl K1 tt v => ?_) fun h' tk e l tt ld => ?_
  · have : b < hh.objs.size := Heap.lt_size e
    simp only [List.mem_cons, List.not_mem_nil, or_false]
    rintro (z | z)
    · exact absurd z (Nat.ne_of_lt (Nat.lt_succ_of_lt this))
    · exact absurd z (Nat.ne_of_lt this)
  · exact ⟨rfl, hR h' tk _ _ nx' nl (K0 K1) tt v (Nat.le_refl _) (Nat.lt_succ_self _)⟩
  · obtain ⟨de, a0, tb, ia, i0, it, K1, q1, q2, q3, q4, q5, q6, q7, q8⟩ := ld
    refine hErr h' tk e l ⟨de, a0, tb, ia, i0, it, K0 K1, q1, q2, q3, q4, q5, fun b hb => ?_, q7, q8⟩
    have := q6 b hb
    cases q : hh.get? b with
    | none => rfl
    | some o => have z := k _ _ q; dsimp only at this; rw [this] at z; cases z
section
variable {w : World} {mean : ExcName → Option Value} {mg mb : Str → Option Value} {base g0 g : Heap} {A : Around} {E : Value → Shared → Prop} {Q : Value → Shared → Prop} {s : Shared} {L : Addr} {env : Env} {outer : List Env} {m : Str → Option Value} {news : List (Addr × Obj)}
  {ist gv : Value} {T : Str} {hd : Option Value}
theorem callTok (TI : TokInit w gv ist T) (hB : BaseOk w mean mg mb base) (a : At base outer L g0 g A env hd s m news) (hroom : A.depth + 4 < recursionLimit)
    (h : ¬ lone T.cps.toList 0 → ∀ nx' x dx, NxVal (nxSign T.cps.toList 0) nx' → (∀ p ∈ news, p.1 < dx) → dx < x → TokPost base outer L g0 m news x dx ist gv T (nxIdx T.cps.toList 0) nx' fun h' tk => Q (.ref x) { s with heap := h', toks := tk })
    (hE : ∀ h' tk e, lone T.cps.toList 0 → Loned w gv T s 0 0 [] (L :: fsOf outer) hd 0 h' e → E (.ref e) { s with heap := h', toks := tk }) :
    wpAny (model PySem.Challenge.rw_dw0053_01.row.prog w) A (call (.ref 133) [gv]) Q E s := by
  obtain ⟨a0, d0, f0, gd0, u0⟩ := A
  have hA := a.hA
  have hfr := a.hfr
  dsimp only at hA hfr
  subst hA hfr
  refine wpAny_call (mkTok TI hB a.st hroom a.ffH a.hhs (fun h' tk x dx nx' nl k tt v l1 l2 => ?_) fun h' tk e l ld => ?_)
  · rw [a.fs] at k
    obtain ⟨tx, b1, b2, b3, b4, b5, c1, c2, c3, c4, c5, cd, ci, tD⟩ := tt
    have nd := a.G.fresh (Heap.get?_none_of_le (h := s.heap) (a := dx) l1)
    have nx := a.G.fresh (Heap.get?_none_of_le (h := s.heap) (a := x) (Nat.le_of_lt (Nat.lt_of_le_of_lt l1 l2)))
    obtain ⟨g', G'⟩ := a.G.turn (news' := (x, instObj 133 dx) :: (dx, tkD ⟨b1, b2, b3, b4, b5, c1, c2, c3, c4, c5, cd, ci⟩ ist gv T (nxIdx T.cps.toList 0 : Int) nx') :: news) k (fun b hb => nomatch hb) (by
      intro p hp
      rcases List.mem_cons.mp hp with rfl | hp
      · exact .inr ⟨tx, nx.2, nx.1⟩
      rcases List.mem_cons.mp hp with rfl | hp
      · exact .inr ⟨tD, nd.2, nd.1⟩
      · exact .inl ⟨hp, fun mm => nomatch mm⟩)
    exact h nl nx' x dx v (fun p hp => Nat.lt_of_lt_of_le (Heap.lt_size (a.G.N p hp).1) l1) l2 g' h' tk ⟨b1, b2, b3, b4, b5, c1, c2, c3, c4, c5, cd, ci⟩ G'
  · rw [a.fs] at ld
    exact hE h' tk e l ld
end
end Mine
end
section
open PySem PySem.W PySem.Calls PyProof.Rows
set_option maxRecDepth 100000
namespace Mine
abbrev peO (de a0 tb ia : Addr) : Obj := excO (.ref 41) (some de) (.ref a0) (.ref tb) (.ref ia) .none (.bool true)
abbrev ieO (i0 it : Addr) (c : Value) : Obj := excO (.type "IndexError") none (.ref i0) (.ref it) c .none (.bool false)
set_option genSizeOf false in
set_option genInjectivity false in
structure PeP where
  t1 : Tok
  t2 : Tok
  t3 : Tok
  t4 : Tok
  t5 : Tok
  v1 : Tok
  v3 : Tok
  v4 : Tok
  v5 : Tok
abbrev peD (P : Params) (k : PeP) (given : Value) (u : List Nat) (p : Nat) : Obj := dictOf [
  ⟨PyData.keyHash P (Str.ofString "msg"), .str (Str.ofString "msg") k.t1, .str (Str.ofString "bad escape (end of pattern)") k.v1⟩,
  ⟨PyData.keyHash P (Str.ofString "pattern"), .str (Str.ofString "pattern") k.t2, given⟩,
  ⟨PyData.keyHash P (Str.ofString "pos"), .str (Str.ofString "pos") k.t3, .int (p : Int) k.v3⟩,
  ⟨PyData.keyHash P (Str.ofString "lineno"), .str (Str.ofString "lineno") k.t4, .int ((nlc u p : Int) + 1) k.v4⟩,
  ⟨PyData.keyHash P (Str.ofString "colno"), .str (Str.ofString "colno") k.t5, .int ((p : Int) - ((p : Int) - (colN u p : Int))) k.v5⟩] 5

inductive RaisedPE (w : World) (base : Heap) (outer : List Env) (L : Addr) (g0 : Heap) (gv : Value) (u : List Nat) (i : Nat) (hd : Option Value) (s0 : Shared) (J : (Str → Option Value) → List (Addr × Obj) → Prop) (ev : Value) (s' : Shared) : Prop
  | mk (g h : Heap) (tk : Nat) (m : Str → Option Value) (rest : List (Addr × Obj)) (e ia de a0 tb i0 it : Addr) (pk : PeP) (tm : Tok) (fl : Value) (e1 : ev = .ref e) (e2 : s' = { s0 with heap := h, toks := tk }) (j : J m rest)
    (G : Gnd base outer L g0 g h m ((e, peO de a0 tb ia) :: (ia, ieO i0 it (hd.getD .none)) :: (de, peD w.params pk gv u i) :: (a0, tupO [.str (peMsg u i) tm]) :: rest))
    (T : Tb h tb fl) (gt : g.get? tb = none) (tL : tb ≠ L) (ne : ∀ p ∈ (ia, ieO i0 it (hd.getD .none)) :: (de, peD w.params pk gv u i) :: (a0, tupO [.str (peMsg u i) tm]) :: rest, p.1 ≠ tb ∧ p.1 ≠ e) (nte : tb ≠ e)
    (nr : ∀ p ∈ rest, p.1 ≠ ia ∧ p.1 ≠ de ∧ p.1 ≠ a0) : RaisedPE w base outer L g0 gv u i hd s0 J ev s'

section
variable {w : World} {mean : ExcName → Option Value} {mg mb : Str → Option Value} {base g0 g : Heap} {A : Around} {E : Value → Shared → Prop} {s s0 : Shared} {x dx L : Addr} {env : Env} {outer : List Env} {m : Str → Option Value} {news rest : List (Addr × Obj)}
  {ist gv nx : Value} {T : Str} {i j : Nat} {hd : Option Value} {J : (Str → Option Value) → List (Addr × Obj) → Prop}

theorem Tb.neD {h : Heap} {tb b : Addr} {fl : Value} {o : Obj} (x : Tb h tb fl) (e : h.get? b = some o) (n : ∀ ts, o.data ≠ .fields ts) : b ≠ tb := fun z => by
  obtain ⟨o', ts, q, d, _⟩ := x
  rw [z, q] at e; injection e with e; subst e; exact n _ d

theorem raised0 {X : List Addr} {new : List (Addr × Obj)} {h' : Heap} {tk : Nat} {e : Addr} {x' dx' : Addr} (a : At base outer L g0 g A env hd s m news) (hs : ∃ h0 tk0, s = { s0 with heap := h0, toks := tk0 })
    (ld : Loned w gv T s x' dx' X (L :: fsOf outer) hd i h' e) (hX : ∀ b ∈ X, g.get? b = none ∧ b ≠ L)
    (hn : ∀ p ∈ new, (p ∈ news ∧ p.1 ∉ X) ∨ (h'.get? p.1 = some p.2 ∧ p.1 ≠ L ∧ g.get? p.1 = none))
    (hold : ∀ p ∈ new, (s.heap.get? p.1).isSome = true)
    (hJ : J m new) : RaisedPE w base outer L g0 gv T.cps.toList i hd s0 J (.ref e) { s with heap := h', toks := tk } := by
  obtain ⟨de, a0, tb, ia, i0, it, k, q1, q2, q3, ⟨t1, t2, t3, t4, t5, v1, v3, v4, v5, q4⟩, ⟨tm, q5⟩, q6, q7, q8⟩ := ld
  obtain ⟨h0, tk0, rfl⟩ := hs
  have fr : ∀ b ∈ [e, de, a0, tb, ia], g.get? b = none ∧ b ≠ L := fun b hb => a.G.fresh (q6 b hb)
  have fe := fr e (by simp)
  have fd := fr de (by simp)
  have fa := fr a0 (by simp)
  have ft := fr tb (by simp)
  have fi := fr ia (by simp)
  obtain ⟨g', G'⟩ := a.G.turn (news' := (e, peO de a0 tb ia) :: (ia, ieO i0 it (hd.getD .none)) :: (de, peD w.params ⟨t1, t2, t3, t4, t5, v1, v3, v4, v5⟩ gv T.cps.toList i) :: (a0, tupO [.str (peMsg T.cps.toList i) tm]) :: new) k hX (by
    intro p hp
    rcases List.mem_cons.mp hp with rfl | hp
    · exact .inr ⟨q1, fe.2, fe.1⟩
    rcases List.mem_cons.mp hp with rfl | hp
    · exact .inr ⟨q2, fi.2, fi.1⟩
    rcases List.mem_cons.mp hp with rfl | hp
    · exact .inr ⟨q4, fd.2, fd.1⟩
    rcases List.mem_cons.mp hp with rfl | hp
    · exact .inr ⟨q5, fa.2, fa.1⟩
    · exact hn p hp)
  have ftb : g'.get? tb = none := by
    cases q : g'.get? tb with
    | none => rfl
    | some o =>
      exfalso
      have z := G'.tn.none_
      obtain ⟨g2, tn2, _⟩ := reground a.G.F a.G.N a.G.ff a.G.st k hX
      have : g0.get? tb = none := by
        cases q0 : g0.get? tb with
        | none => rfl
        | some o0 =>
          obtain ⟨sl, q9⟩ := a.G.tn.up q0
          rw [ft.1] at q9; cases q9
      rw [z _ this] at q; cases q
  have nn : ∀ {b c : Addr}, h0.get? b = none → (h0.get? c).isSome = true → c ≠ b := fun q r z => by rw [z, q] at r; cases r
  have ne : ∀ {b : Addr} {o : Obj}, h'.get? b = some o → o.cls ≠ .ref 41 → b ≠ e := fun q n z => by rw [z, q1] at q; injection q with q; subst q; exact n rfl
  refine ⟨g', h', tk, m, new, e, ia, de, a0, tb, i0, it, ⟨t1, t2, t3, t4, t5, v1, v3, v4, v5⟩, tm, .none, rfl, rfl, hJ, G', q3, ftb, ft.2, ?_, q7, ?_⟩
  · intro p hp
    rcases List.mem_cons.mp hp with rfl | hp
    · exact ⟨Ne.symm q8, ne q2 (by intro z; cases z)⟩
    rcases List.mem_cons.mp hp with rfl | hp
    · exact ⟨q3.neD q4 (fun _ z => by cases z), ne q4 (by intro z; cases z)⟩
    rcases List.mem_cons.mp hp with rfl | hp
    · exact ⟨q3.neD q5 (fun _ z => by cases z), ne q5 (by intro z; cases z)⟩
    · exact ⟨nn (q6 tb (by simp)) (hold p hp), nn (q6 e (by simp)) (hold p hp)⟩
  · intro p hp
    exact ⟨nn (q6 ia (by simp)) (hold p hp), nn (q6 de (by simp)) (hold p hp), nn (q6 a0 (by simp)) (hold p hp)⟩

/-- a method of the tokenizer has raised -/
theorem raisedTok {h' : Heap} {tk : Nat} {e : Addr} {od : Obj} (a : At base outer L g0 g A env hd s m news) (hs : ∃ h0 tk0, s = { s0 with heap := h0, toks := tk0 }) (off : Off x dx news rest) (hx : (x, instObj 133 dx) ∈ news) (hdx : (dx, od) ∈ news)
    (t : TokAt h' x dx ist gv T j nx) (ld : Loned w gv T s x dx [x, dx] (L :: fsOf outer) hd i h' e)
    (hJ : ∀ kk, J m ((x, instObj 133 dx) :: (dx, tkD kk ist gv T (j : Int) nx) :: rest)) :
    RaisedPE w base outer L g0 gv T.cps.toList i hd s0 J (.ref e) { s with heap := h', toks := tk } := by
  obtain ⟨tx, b1, b2, b3, b4, b5, c1, c2, c3, c4, c5, cd, ci, tD⟩ := t
  have nX := a.G.N _ hx
  have nD := a.G.N _ hdx
  refine raised0 a hs ld (two ⟨nX.2.2, nX.2.1⟩ ⟨nD.2.2, nD.2.1⟩) (new := (x, instObj 133 dx) :: (dx, tkD ⟨b1, b2, b3, b4, b5, c1, c2, c3, c4, c5, cd, ci⟩ ist gv T (j : Int) nx) :: rest) ?_ ?_ (hJ _)
  · intro p hp
    rcases List.mem_cons.mp hp with rfl | hp
    · exact .inr ⟨tx, nX.2.1, nX.2.2⟩
    rcases List.mem_cons.mp hp with rfl | hp
    · exact .inr ⟨tD, nD.2.1, nD.2.2⟩
    · obtain ⟨a, b, c⟩ := off.sub p hp
      exact .inl ⟨a, fun mm => by
        rcases List.mem_cons.mp mm with z | mm
        · exact b z
        · rcases List.mem_cons.mp mm with z | mm
          · exact c z
          · nomatch mm⟩
  · intro p hp
    rcases List.mem_cons.mp hp with rfl | hp
    · rw [nX.1]; rfl
    rcases List.mem_cons.mp hp with rfl | hp
    · rw [nD.1]; rfl
    · rw [(a.G.N p (off.sub p hp).1).1]; rfl
/-- the call of Tokenizer has raised -/
theorem raisedNew {h' : Heap} {tk : Nat} {e : Addr} (a : At base outer L g0 g A env hd s m news) (hs : ∃ h0 tk0, s = { s0 with heap := h0, toks := tk0 }) (ld : Loned w gv T s 0 0 [] (L :: fsOf outer) hd i h' e) (hJ : J m news) :
    RaisedPE w base outer L g0 gv T.cps.toList i hd s0 J (.ref e) { s with heap := h', toks := tk } :=
  raised0 a hs ld (fun _ hb => nomatch hb) (fun _ hp => .inl ⟨hp, fun mm => nomatch mm⟩) (fun p hp => by rw [(a.G.N p hp).1]; rfl) hJ

/-- a frame is noted on the exception: the ground behind -/
theorem peTurn {h h2 : Heap} {e de a0 tb tb1 ia : Addr} {fl : Value} (G : Gnd base outer L g0 g h m ((e, peO de a0 tb ia) :: news)) (T0 : Tb h tb fl) (gt : g.get? tb = none) (tL : tb ≠ L) (ne : ∀ p ∈ news, p.1 ≠ tb ∧ p.1 ≠ e)
    (k : Kept [e, tb, tb1] (L :: fsOf outer) h h2) (e2 : h2.get? e = some (peO de a0 tb1 ia)) (z : Value.ref tb = .ref tb1 ∨ h.objs.size ≤ tb1) :
    ∃ g', Gnd base outer L g0 g' h2 m ((e, peO de a0 tb1 ia) :: news) ∧ g'.get? tb1 = none ∧ tb1 ≠ L ∧ ∀ p ∈ news, p.1 ≠ tb1 ∧ p.1 ≠ e := by
  have P := G.N _ (List.mem_cons_self ..)
  have f1 : g.get? tb1 = none ∧ tb1 ≠ L ∧ ∀ p ∈ news, p.1 ≠ tb1 := by
    rcases z with z | z
    · injection z with z; subst z; exact ⟨gt, tL, fun p hp => (ne p hp).1⟩
    · have := G.fresh (Heap.get?_none_of_le z)
      exact ⟨this.1, this.2, fun p hp => Nat.ne_of_lt (Nat.lt_of_lt_of_le (Heap.lt_size (G.N p (List.mem_cons_of_mem _ hp)).1) z)⟩
  have hX : ∀ b ∈ [e, tb, tb1], g.get? b = none ∧ b ≠ L := by
    intro b hb
    simp only [List.mem_cons, List.not_mem_nil, or_false] at hb
    rcases hb with rfl | rfl | rfl
    · exact ⟨P.2.2, P.2.1⟩
    · exact ⟨gt, tL⟩
    · exact ⟨f1.1, f1.2.1⟩
  obtain ⟨g', tn, F', ff', st', hN⟩ := reground G.F G.N G.ff G.st k hX
  refine ⟨g', ⟨F', hN _ ?_, ff', st', G.tn.trans tn⟩, tn.none_ _ f1.1, f1.2.1, fun p hp => ⟨f1.2.2 p hp, (ne p hp).2⟩⟩
  intro p hp
  rcases List.mem_cons.mp hp with rfl | hp
  · exact .inr ⟨e2, P.2.1, P.2.2⟩
  · refine .inl ⟨List.mem_cons_of_mem _ hp, ?_⟩
    simp only [List.mem_cons, List.not_mem_nil, or_false, not_or]
    exact ⟨(ne p hp).2, (ne p hp).1, f1.2.2 p hp⟩
theorem Noted.kept3 {fs : List Addr} {h h' : Heap} {e tb tb1 : Addr} (x : Noted fs h h' e (.ref tb)) : Kept [e, tb, tb1] fs h h' :=
  ⟨x.size, fun b o q n => x.keep b o q (fun z => n (by simp [z])) (fun z => by injection z with z; exact n (by simp [z]))⟩

/-- what is raised passes through a loop of this frame -/
theorem raisedPasses (hA : A.frames = some (env :: outer)) (hf : env.frame = some L) (hkm : env.scope.kind ≠ .module) (hnb : base.get? L = none) (u : List Nat) :
    PassesOwn (model PySem.Challenge.rw_dw0053_01.row.prog w) A env (RaisedPE w base outer L g0 gv u i hd s0 J) := by
  rintro ev s' ⟨g, h, tk, m, rest, e, ia, de, a0, tb, i0, it, pk, tm, fl, rfl, rfl, hJ, G, T0, gt, tL, ne, nte, nr⟩
  have fsE : fsOf (env :: outer) = L :: fsOf outer := by unfold fsOf; rw [List.filterMap_cons, hf]
  have P := G.N _ (List.mem_cons_self ..)
  have ffH : h.FunFrames base (env :: outer) := Heap.FunFrames.cons hkm hf G.F.ns hnb (G.ff.of_keeps fun b o e _ => ⟨o, G.F.keep b o e, rfl⟩)
  unfold notedBy
  refine noteM (s := { s0 with heap := h, toks := tk }) hA ffH hf P.1 (.inr ⟨tb, fl, rfl, nte, T0⟩) fun h1 tb1 e1 n1 T1 z1 no1 => ?_
  rw [fsE] at no1
  unfold cameBackBy
  refine wpAny_bind (wpAny_field e1 rfl rfl ?_)
  rw [if_neg (by simp)]
  rw [hf]
  refine setFlightM (s := { s0 with heap := h1, toks := tk }) e1 T1 (some L) ?_
  have e2 : (h1.update tb1 (Obj.mapFields (·.setIfInBounds 3 (rawInt L)))).get? e = some (peO de a0 tb1 ia) := by rw [Heap.get?_update_other _ _ n1]; exact e1
  have k2 : Kept [e, tb, tb1] (L :: fsOf outer) h (h1.update tb1 (Obj.mapFields (·.setIfInBounds 3 (rawInt L)))) := by
    have k1 : Kept [e, tb, tb1] (L :: fsOf outer) h h1 := no1.kept3
    exact ⟨by rw [Heap.size_after_update]; exact k1.size, fun b o q n => by
      obtain ⟨sl, q1, w1⟩ := k1.keep b o q n
      refine ⟨sl, ?_, w1⟩
      rw [Heap.get?_update_other _ _ (fun z => n (by simp [z]))]
      exact q1⟩
  obtain ⟨g', G', a1, a2, a3⟩ := peTurn G T0 gt tL ne k2 e2 z1
  exact ⟨g', _, tk, m, rest, e, ia, de, a0, tb1, i0, it, pk, tm, rawInt L, rfl, rfl, hJ, G', T1.set _, a1, a2, a3, n1, nr⟩
end
end Mine
end
section
open PySem PySem.W PySem.Calls PyProof.Rows
set_option maxRecDepth 100000
namespace Mine
theorem fill15 : PySem.Challenge.rw_dw0053_01 = PySem.Challenge.rw_dw0053_01 ∧ ∀ P, Mine.hd.heap_39 P = Mine.hd.heap_39 P := by
  k_fill
  exact ⟨rfl, fun _ => rfl⟩
def ClsName (w : World) (base : Heap) (env : Env) (L : Addr) : Prop := ∀ (np : Pos) (m : Str → Option Value) (A : Around) (g' : Heap) (s' : Shared) (Q : Value → Shared → Prop) (E : Value → Shared → Prop), base.StaysIn g' → Fr g' L s'.heap m → Q (.ref 41) s' → wpAny (model PySem.Challenge.rw_dw0053_01.row.prog w) A (eval (.Name (Str.ofString "PatternError") np) env) Q E s'
theorem clsName_of {w : World} {mean : ExcName → Option Value} {mg mb : Str → Option Value} {base : Heap} {cn : Str} {cs : Scope} {L a : Addr} {ccd : Value} (hB : BaseOk w mean mg mb base) (hk : cs.kind = .function) (hx : (envOf cn cs L a ccd).kindOf (Str.ofString "PatternError") = some .globalImplicit) : ClsName w base (envOf cn cs L a ccd) L := by
  intro np m A g' s' Q E st' F' q
  have X' := hB.X.keeps st'
  have T' : TopM mean mg mb g' := hB.T.keeps st'
  exact name_K F' X' (by k_asm) (by k_is) q hk hx
section
variable {w : World} {mean : ExcName → Option Value} {mg mb : Str → Option Value} {base g0 g : Heap} {A : Around} {E : Value → Shared → Prop} {Q : Flow → Shared → Prop} {s s0 : Shared} {L : Addr} {env : Env} {outer : List Env} {m : Str → Option Value} {news : List (Addr × Obj)}
  {gv : Value} {u : List Nat} {i : Nat} {hd : Option Value} {J : (Str → Option Value) → List (Addr × Obj) → Prop}

theorem tryPE {body suite : List Stmt} {b₀ : Stmt} {np hp pos : Pos} {n : Str} (hB : BaseOk w mean mg mb base)
    (hfr : A.frames = some (env :: outer)) (hf : env.frame = some L) (hkm : env.scope.kind ≠ .module) (hnb : base.get? L = none) (hL : env.locals = L)
    (hx : env.kindOf n = some .local) (hpp : (env.scope.kind == .class || (env.scope.kind == .module && env.locals != env.globals)) = false)
    (hn : ClsName w base env L)
    (hbody : wpAny (model PySem.Challenge.rw_dw0053_01.row.prog w) A (execs body env) Q (RaisedPE w base outer L g0 gv u i hd s0 J) s)
    (k : ∀ g h tk m rest e ia de a0 tb i0 it pk tm, J m rest → (∀ p ∈ rest, p.1 ≠ e ∧ p.1 ≠ ia ∧ p.1 ≠ de ∧ p.1 ≠ a0) →
      Gnd base outer L g0 g h (fun y => if y = n then some (.ref e) else m y) ((e, peO de a0 tb ia) :: (ia, ieO i0 it (hd.getD .none)) :: (de, peD w.params pk gv u i) :: (a0, tupO [.str (peMsg u i) tm]) :: rest) →
      wpAny (model PySem.Challenge.rw_dw0053_01.row.prog w) (A.mark (some (.ref e))) (execs (b₀ :: suite) env) (fun f s₄ => wpAny (model PySem.Challenge.rw_dw0053_01.row.prog w) A (do bindName env n .none; unbindBehindTheSuite env n hp) (fun _ s₅ => Q f s₅) E s₄) (fun _ _ => False) { s0 with heap := h, toks := tk }) :
    wpAny (model PySem.Challenge.rw_dw0053_01.row.prog w) A (exec (.Try body [.ExceptHandler (some (.Name (Str.ofString "PatternError") np)) (some n) (b₀ :: suite) hp] [] [] pos) env) Q E s := by
  refine wpAny_Try_except (wpAny_mono hbody (fun f s₁ q => by cases f <;> first | exact exec_nilQ q | exact q) ?_)
  rintro ev s' ⟨g, h, tk, m, rest, e, ia, de, a0, tb, i0, it, pk, tm, fl, rfl, rfl, hJ, G, T0, gt, tL, ne, nte, nr⟩
  have fsE : fsOf (env :: outer) = L :: fsOf outer := by unfold fsOf; rw [List.filterMap_cons, hf]
  have P := G.N _ (List.mem_cons_self ..)
  have ffH : h.FunFrames base (env :: outer) := Heap.FunFrames.cons hkm hf G.F.ns hnb (G.ff.of_keeps fun b o e _ => ⟨o, G.F.keep b o e, rfl⟩)
  refine landM (s := { s0 with heap := h, toks := tk }) hfr ffH hf P.1 (.inr ⟨tb, fl, rfl, nte, T0⟩) fun h2 tb1 e1 n1 T1 z1 no => ?_
  rw [fsE] at no
  obtain ⟨g', G', a1, a2, a3⟩ := peTurn G T0 gt tL ne no.kept3 e1 z1
  obtain ⟨nm, q, N, bs, hdct, sn, sub, ab, col, dd, k0, k1, k2, k3, k5, ho⟩ := cls41 w.params
  have hC := (hB.X.keeps fun b o z => G'.F.keep _ _ (G'.st _ _ z)) _ _ ho
  refine wpAny_handleBy_cons (codeAny_handlers_test ?_) (by intro q; cases q)
  refine hn _ m _ g' _ _ _ G'.st G'.F ?_
  refine wpAny_excMatches_sub_self hC e1 rfl (by decide +kernel) (codeAny_handlers_suite_as ?_)
  refine setFlightM (s := { s0 with heap := h2, toks := tk }) e1 T1 none ?_
  have k3 : Kept [tb1] (L :: fsOf outer) h2 (h2.update tb1 (Obj.mapFields (·.setIfInBounds 3 .none))) := ⟨by rw [Heap.size_after_update]; exact Nat.le_refl _, fun b o e n => ⟨o.slots, by
    rw [Heap.get?_update_other _ _ (fun z => n (by simp [z]))]; exact e, fun _ => rfl⟩⟩
  obtain ⟨g3, G3⟩ := G'.turn (news' := (e, peO de a0 tb1 ia) :: (ia, ieO i0 it (hd.getD .none)) :: (de, peD w.params pk gv u i) :: (a0, tupO [.str (peMsg u i) tm]) :: rest) k3 (fun b hb => by
      rcases List.mem_cons.mp hb with rfl | hb
      · exact ⟨a1, a2⟩
      · nomatch hb) (fun p hp => .inl ⟨hp, fun mm => by
      rcases List.mem_cons.mp mm with z | mm
      · rcases List.mem_cons.mp hp with rfl | hp
        · exact n1 z.symm
        · exact (a3 p hp).1 z
      · nomatch mm⟩)
  refine wpAny_storeName_local hx (by rw [hL]; exact G3.F.ns) (fun h4 hn4 hs4 => ?_) hpp
  rw [hL] at hn4 hs4
  refine wpAny_mono (k g3 h4 _ m rest e ia de a0 tb1 i0 it pk tm hJ (fun p hp => ⟨(ne p (by simp [hp])).2, nr p hp⟩) ⟨G3.F.set hn4 hs4, G3.N.set hs4, G3.ff, G3.st, G3.tn⟩) (fun f s₄ q => q) fun _ _ z => z.elim
theorem hdSh_of {h : Heap} {e ia de a0 tb i0 it : Addr} (e1 : h.get? e = some (peO de a0 tb ia)) (e2 : h.get? ia = some (ieO i0 it .none)) : HdSh h (some (.ref e)) :=
  .inr ⟨e, rfl, ⟨.ref ia, _, _, e1, rfl, rfl⟩, .inr ⟨ia, ⟨_, _, e1, rfl, rfl⟩, (fun z => by rw [z, e1] at e2; cases e2), ⟨_, _, e2, rfl, rfl⟩⟩⟩
end
end Mine
end
section
open PySem PySem.W PySem.Calls PyProof.Rows Mine
local macro_rules | `(tactic| wtm_at "m5") => `(tactic| (k_here; k_dflt (refine' append_K (by k_asm) (by k_asm) (by k_upd) ?_ (by wtm_at "a")); intro h' F' N'))
section
open PySem PySem.W PySem.Calls PyProof.Rows
set_option maxRecDepth 100000
namespace Mine
theorem fill16 : PySem.Challenge.rw_dw0053_01 = PySem.Challenge.rw_dw0053_01 ∧ ∀ P, Mine.hd.heap_39 P = Mine.hd.heap_39 P := by
  k_fill
  exact ⟨rfl, fun _ => rfl⟩
/-- the backslashes right ahead of k -/
def runOf (u : List Nat) : Nat → Nat
  | 0 => 0
  | k + 1 => if u[k]? = some 92 then runOf u k + 1 else 0
theorem runOf_le (u : List Nat) : ∀ k, runOf u k ≤ k
  | 0 => Nat.le_refl _
  | k + 1 => by
    unfold runOf
    split
    · exact Nat.succ_le_succ (runOf_le u k)
    · exact Nat.zero_le _
def startsOf (u : List Nat) (n : Nat) : List Nat := (List.range n).filter fun k => runOf u k % 2 == 0
theorem startsOf_succ (u : List Nat) (n : Nat) : startsOf u (n + 1) = startsOf u n ++ (if runOf u n % 2 = 0 then [n] else []) := by
  unfold startsOf
  rw [List.range_succ, List.filter_append]
  congr 1
  by_cases h : runOf u n % 2 = 0 <;> simp [h]
abbrev natI (l : List Nat) : List Int := l.map fun (k : Nat) => (k : Int)
theorem chr_eq92 (c : Nat) : ((⟨#[c]⟩ : Str) == Str.ofString "\\") = decide (c = 92) := by
  by_cases h : c = 92
  · subst h; decide +kernel
  · rw [chr_ne h]; simp [h]
theorem strItemG {prog : Program} {w : World} {A : Around} {E : Value → Shared → Prop} {s : Shared} {T : Str} {j : Int} {t u : Tok} {value slice : Expr} {Q : Value → Shared → Prop} (h0 : 0 ≤ j) (hl : j < T.length) (hs : T.length ≤ 100)
    (h : ∀ t' k, Q (.str ⟨#[T.cps.toList.getD j.toNat 0]⟩ t') { s with toks := k })
    (h1 : subscripted slice false (.str T t) (.int j u) = operate [.str T t, .int j u] (getItem (.str T t) (.int j u)) := by with_unfolding_all rfl) (h2 : ∀ r, letTemporaryGo value (.str T t) r = pure () := by intro _; with_unfolding_all rfl) :
    wpAny (model prog w) A (subscriptTail value slice (.str T t) (.int j u)) Q E s := by
  refine strItemT (c := T.cps.toList.getD j.toNat 0) ?_ h0 (by omega) h h1 h2
  have : j.toNat < T.cps.toList.length := by
    have e : T.cps.toList.length = T.length := by simp [Str.length]
    omega
  rw [List.getD_eq_getElem?_getD, List.getElem?_eq_getElem this]; rfl
theorem size_up (n : Nat) : Builtin.Range.rangeSize 0 (n : Int) 1 = (n : Int) := by
  unfold Builtin.Range.rangeSize
  rw [if_pos (by decide)]
  split <;> omega
theorem small_up (n : Nat) (h : n ≤ 1000) : Builtin.Range.small 0 (n : Int) 1 = true := by
  unfold Builtin.Range.small
  rw [size_up, if_pos (by decide)]
  unfold Builtin.Range.rangeFitsLong
  simp only [Bool.and_eq_true, Bool.or_eq_true, decide_eq_true_eq]
  refine ⟨⟨⟨⟨?_, ?_⟩, ?_⟩, ?_⟩, .inr ?_⟩ <;> omega
theorem size_down (n : Nat) : Builtin.Range.rangeSize ((n : Int) - 1) (-1) (-1) = (n : Int) := by
  unfold Builtin.Range.rangeSize
  rw [if_neg (by decide), show (-(-1 : Int)) = 1 from rfl, Int.ediv_one]
  split <;> omega
theorem small_down (n : Nat) (h : n ≤ 1000) : Builtin.Range.small ((n : Int) - 1) (-1) (-1) = true := by
  unfold Builtin.Range.small
  rw [size_down, if_neg (by decide)]
  unfold Builtin.Range.rangeFitsLong
  simp only [Bool.and_eq_true, Bool.or_eq_true, decide_eq_true_eq]
  refine ⟨⟨⟨⟨?_, ?_⟩, ?_⟩, ?_⟩, .inr ?_⟩ <;> omega
theorem hide0 {h : Heap} {b : Addr} (e : (hideAll h []).get? b = none) : h.get? b = none := by
  cases q : h.get? b with
  | none => rfl
  | some o => rw [hideAll_get [] q (by simp)] at e; cases e
theorem fmod2 (n : Nat) : (n : Int).fmod 2 = ((n % 2 : Nat) : Int) := by
  rw [Int.fmod_eq_emod_of_nonneg _ (by decide)]
  omega
theorem getD92 {u : List Nat} {n : Nat} : u.getD n 0 = 92 ↔ u[n]? = some 92 := by
  rw [List.getD_eq_getElem?_getD]
  cases u[n]? <;> simp
theorem run_more {u : List Nat} {i : Nat} {r : Int} (h0 : 0 ≤ r) (h1 : r < 0 + (i : Int) * 1) (hc : ((⟨#[u.getD (0 + (i : Int) * 1 - 1 - r).toNat 0]⟩ : Str) == Str.ofString "\\") = true) (h2 : (runOf u i : Int) = r + (runOf u (i - r.toNat) : Int)) :
    (runOf u i : Int) = (r + 1) + (runOf u (i - (r + 1).toNat) : Int) := by
  rw [chr_eq92, decide_eq_true_eq, getD92] at hc
  obtain ⟨q, rfl⟩ := Int.eq_ofNat_of_zero_le h0
  have e1 : i - (q : Int).toNat = (i - q - 1) + 1 := by omega
  have e2 : (0 + (i : Int) * 1 - 1 - (q : Int)).toNat = i - q - 1 := by omega
  have e3 : i - ((q : Int) + 1).toNat = i - q - 1 := by omega
  rw [e1] at h2
  rw [e2] at hc
  rw [e3, h2]
  show ((q : Int) + ((runOf u (i - q - 1 + 1) : Nat) : Int)) = _
  rw [runOf, if_pos hc]
  push_cast
  omega
theorem run_stop {u : List Nat} {i : Nat} {r : Int} (h0 : 0 ≤ r) (h1 : r < 0 + (i : Int) * 1) (hc : ((⟨#[u.getD (0 + (i : Int) * 1 - 1 - r).toNat 0]⟩ : Str) == Str.ofString "\\") = false) (h2 : (runOf u i : Int) = r + (runOf u (i - r.toNat) : Int)) :
    r = (runOf u i : Int) := by
  rw [chr_eq92, decide_eq_false_iff_not, getD92] at hc
  obtain ⟨q, rfl⟩ := Int.eq_ofNat_of_zero_le h0
  have e1 : i - (q : Int).toNat = (i - q - 1) + 1 := by omega
  have e2 : (0 + (i : Int) * 1 - 1 - (q : Int)).toNat = i - q - 1 := by omega
  rw [e1] at h2
  rw [e2] at hc
  rw [h2, runOf, if_neg hc]
  simp
theorem run_end {u : List Nat} {i : Nat} {r : Int} (h0 : 0 ≤ r) (h1 : ¬ r < 0 + (i : Int) * 1) (h3 : r ≤ i) (h2 : (runOf u i : Int) = r + (runOf u (i - r.toNat) : Int)) : r = (runOf u i : Int) := by
  have e : i - r.toNat = 0 := by omega
  rw [e] at h2
  rw [h2, runOf]; simp
local macro_rules | `(tactic| k_room) => `(tactic| wtm_at "m0")
local macro_rules | `(tactic| walk_at "exec For Name Call cons nil") => `(tactic| (refine stop ?_))
local macro_rules | `(tactic| walk_at "exec While BoolOp") => `(tactic| (refine stop ?_))
local macro_rules | `(tactic| walk_at "pyIter ref") => `(tactic| (refine stop ?_))
local macro_rules | `(tactic| walk_at "subscriptTail Name BinOp str int") => `(tactic| (k_here; k_dflt (refine' strItemG (by omega) (by omega) (by assumption) ?_); intro t' tk'; wtm_at "d"))
local macro_rules | `(tactic| walk_at "call builtin:list.append") => `(tactic| wtm_at "m5")
set_option maxHeartbeats 4000000 in
theorem startsC {w : World} {mean : ExcName → Option Value} {mg mb : Str → Option Value} {base : Heap} {s : Shared} {R : Result → Shared → Prop}
    {T : Str} {tT : Tok} {dp un : Nat} {outer : Option (List Env)} {gd : Option (List Code)}
    (hB : BaseOk w mean mg mb base) (st : base.StaysIn s.heap) (hroom : dp < recursionLimit) (hlen : T.length ≤ 100)
    (hR : ∀ h' tk l vs n, Kept [] [] s.heap h' → h'.get? l = some (listOf vs.toArray n) → IntsAre vs (natI (startsOf T.cps.toList T.length)) → s.heap.get? l = none → R (.ok (.ret (.ref l))) { s with heap := h', toks := tk }) :
    codeAny (model PySem.Challenge.rw_dw0053_01.row.prog w) { handled := none, depth := dp, frames := outer, guards := gd, units := un } (.call (.ref 144) ⟨[.str T tT], []⟩) R s := by
  refine' enterM (binds := [(Str.ofString "text", .str T tT)]) [] (hB.X.keeps st) (hB.T.nolimit.keeps st) ?k3 ?k4 ?k5 ?k6 ?k7 ?h ?c1 ?c2 ?c3 ?c4
  case k3 => k_is
  case k4 => k_is
  case k5 => k_room
  case k6 => exact BindsTo.of_eq rfl
  case k7 => exact locs rfl
  case c1 => exact rfl
  case c2 => exact rfl
  case c3 => exact rfl
  case c4 => decide
  intro L' h₁ hL F' hk Q E hQ hE
  have stG : base.StaysIn (hideAll s.heap []) := apartNone st (by simp)
  have X' := hB.X.keeps stG
  have T' : TopM mean mg mb (hideAll s.heap []) := hB.T.keeps stG
  have N' : News (hideAll s.heap []) L' h₁ [] := fun p hp => nomatch hp
  clear hk hE
  refine wpAny_mono (E := fun _ _ => False) ?_ (fun _ _ q => q) (fun _ _ z => z.elim)
  k_steps
  unfold Stop
  refine wpAny_For ?_
  k_steps
  rename_i l0 _ _ _ Fo No _ _ _ _ _ hr FF NN _
  unfold Stop
  refine forRangeS (L := L') (outer := []) (base := base) (g0 := hideAll s.heap []) (n := T.length) [Str.ofString "run"] (fun i rest => ∃ vs n, rest = [(l0, listOf vs.toArray n)] ∧ IntsAre vs (natI (startsOf T.cps.toList i))) rfl hr ?_ ?_ rfl rfl rfl ⟨FF, NN, trivial, stG, KtsTurn.refl⟩ ⟨[], 0, rfl, ?_⟩ ?turn ?done PassesOwn.never
  case turn =>
    rintro i g' h tk um rest it t' hlt ⟨vs, n, rfl, hvs⟩ ne lt G'
    obtain ⟨F1, N1, _, st1, tn1⟩ := G'
    have hne := neN (ne _ (List.mem_cons_self ..))
    have hsz : vs.toArray.size ≤ sizeLine := by
      rw [List.size_toArray, hvs.length, sizeLine_eq]
      unfold natI startsOf
      rw [List.length_map]
      have := List.length_filter_le (fun k => runOf T.cps.toList k % 2 == 0) (List.range i)
      rw [List.length_range] at this
      omega
    have X1 := hB.X.keeps st1
    have T1 : TopM mean mg mb g' := hB.T.keeps st1
    clear lt ne hr FF NN Fo No hQ X' T'
    k_steps
    rename Fr _ L' _ _ => F2
    rename News _ L' _ _ => N2
    unfold Stop
    refine whileIntEnd (fun r => 0 ≤ r ∧ r ≤ i ∧ (runOf T.cps.toList i : Int) = r + (runOf T.cps.toList (i - r.toNat) : Int)) (fun r => r = (runOf T.cps.toList i : Int)) (fun r => i - r.toNat) F2 N2 ⟨by omega, by omega, by simp⟩ ?wt ?wd
    case wt =>
      rintro r t h tk ⟨r0, r1, r2⟩ F3 N3
      clear F2 N2
      k_steps
      · rename Fr _ L' _ _ => F4
        rename News _ L' _ _ => N4
        refine ⟨_, _, _, r + 1, _, rfl, F4, rfl, fun z hz => by simp [hz], N4, ⟨by omega, by omega, run_more r0 (by assumption) (by assumption) r2⟩, ?_⟩
        show i - (r + 1).toNat < i - r.toNat
        omega
      · exact WhEnd.intro F3 N3 (run_stop r0 (by assumption) (by assumption) r2) rfl fun z hz => by simp [hz]
      · exact WhEnd.intro F3 N3 (run_end r0 (by omega) r1 r2) rfl fun z hz => by simp [hz]
    case wd =>
      rintro h tk r t F3 N3 rfl
      clear F2 N2
      k_steps
      · rename Fr _ L' _ _ => F4
        rename News _ L' _ _ => N4
        rename Int.fmod _ _ = 0 => hm
        refine ⟨_, _, _, _, _, rfl, ⟨F4, N4, trivial, st1, tn1⟩, ⟨vs ++ [_], n + 1, by rw [← List.push_toArray], ?_⟩, fun p hp => ?_, fun z h1 h2 => ?_⟩
        · rw [fmod2] at hm
          rw [startsOf_succ, if_pos (by omega)]
          unfold natI
          rw [List.map_append]
          refine hvs.append ?_
          have e : (0 + (i : Int) * 1) = (i : Int) := by omega
          rw [e]
          exact IntsAre.cons _ _ .nil
        · rcases List.mem_cons.mp hp with rfl | hp
          · exact hne
          · nomatch hp
        · have h3 : z ≠ Str.ofString "run" := by simpa using h2
          simp [h1, h3]
      · rename Int.fmod _ _ ≠ 0 => hm
        refine ⟨_, _, _, _, _, rfl, ⟨F3, N3, trivial, st1, tn1⟩, ⟨vs, n, rfl, ?_⟩, fun p hp => ?_, fun z h1 h2 => ?_⟩
        · rw [fmod2] at hm
          rw [startsOf_succ, if_neg (by omega), List.append_nil]
          exact hvs
        · rcases List.mem_cons.mp hp with rfl | hp
          · exact hne
          · nomatch hp
        · have h3 : z ≠ Str.ofString "run" := by simpa using h2
          simp [h1, h3]
  case done =>
    rintro g' h tk um v rest ⟨vs, n, rfl, hvs⟩ G'
    obtain ⟨F1, N1, _, st1, tn1⟩ := G'
    have X1 := hB.X.keeps st1
    have T1 : TopM mean mg mb g' := hB.T.keeps st1
    clear hr FF Fo No X' T'
    k_steps
    refine hQ (.ret _) _ ?_
    have p0 := N1 _ (List.mem_cons_self ..)
    exact hR _ _ _ _ _ (exitK tn1 F1) p0.1 hvs (hide0 (NN _ (List.mem_cons_self ..)).2.2)
  · exact small_up _ (by omega)
  · exact size_up _
  · exact .nil
end Mine
end
section
open PySem PySem.W PySem.Calls PyProof.Rows Builtin Builtin.Str Builtin.BaseException
set_option maxRecDepth 100000
namespace Mine
theorem fill18 : PySem.Challenge.rw_dw0053_01 = PySem.Challenge.rw_dw0053_01 ∧ ∀ P, Mine.hd.heap_39 P = Mine.hd.heap_39 P := by
  k_fill
  exact ⟨rfl, fun _ => rfl⟩
theorem bs_kind : builtinKind "BaseException.__str__" = some .slot := by decide +kernel
theorem bs_split : splitId "BaseException.__str__" = some ("BaseException", "__str__") := by decide +kernel
theorem bs_plain : plainId "BaseException.__str__" = true := by decide +kernel
theorem bs_type : typeOf (.builtin "BaseException.__str__") = pure (.type "wrapper_descriptor") := by kernel_rfl
theorem bs_bind (v : Value) : bindSpecial (.builtin "BaseException.__str__") v = pure (.builtin "BaseException.__str__", [v]) := by
  unfold bindSpecial
  rw [bs_type]
  rfl
theorem str41 (P : Params) : findIn (Mine.hd.heap_39 P) (.ref 41) "__str__" = some (some (.builtin "BaseException.__str__")) ∧ mroIn (Mine.hd.heap_39 P) 41 (.type "BaseException") = some true := ⟨by k_is, by k_is⟩
section
variable {prog : Program} {w : World} {A : Around} {E : Value → Shared → Prop} {s : Shared} {e a0 : Addr} {d : Option Addr} {tb ctx c3 c4 : Value} {m : Str} {tm : Tok} {K : Frag}
theorem bexcArgsM {M : Model} {items : List Value} {Q : Value × List Value → Shared → Prop} (he : s.heap.get? e = some (excO (.ref 41) d (.ref a0) tb ctx c3 c4)) (ht : s.heap.get? a0 = some (tupO items)) (hq : Q (.ref a0, items) s) :
    wpAny M A (bexcArgs (.ref e)) Q E s := by
  unfold bexcArgs
  refine wpAny_bind (wpAny_field he rfl rfl (wpAny_bind (wpAny_seqItems ht rfl ?_)))
  have : items.toArray.toList = items := by simp
  show wpAny M A (pure (Value.ref a0, items.toArray.toList)) Q E s
  rw [this]; exact wpAny_pure hq
theorem bexcStrM {Q : Fin → Shared → Prop} (he : s.heap.get? e = some (excO (.ref 41) d (.ref a0) tb ctx c3 c4)) (ht : s.heap.get? a0 = some (tupO [.str m tm])) (hq : Q (.done (.ret (.str m tm))) s) :
    wpAny (model prog w) A (Builtin.«BaseException.__str__» ⟨[.ref e], []⟩) Q E s := by
  unfold Builtin.«BaseException.__str__»
  repeat (first | with_reducible refine bexcArgsM he ht ?_ | wp_step)
  exact hq
def Pe41 (K : Frag) : Prop := findIn K (.ref 41) "__str__" = some (some (.builtin "BaseException.__str__")) ∧ mroIn K 41 (.type "BaseException") = some true
theorem callStrM {Q : Value → Shared → Prop} (k : Pe41 K) (X : K.In s.heap) (he : s.heap.get? e = some (excO (.ref 41) d (.ref a0) tb ctx c3 c4)) (ht : s.heap.get? a0 = some (tupO [.str m tm])) (hq : Q (.str m tm) s) :
    wpAny (model prog w) A (call (.builtin "BaseException.__str__") [.ref e]) Q E s := by
  have t1 : Looks (model prog w) s.heap (typeOf (.ref e)) (.ref 41) := (Looks.ld he).andThen .now
  have sub : Looks (model prog w) s.heap (isInstance (.ref e) (.type "BaseException")) true := t1.andThen (looks_mroIn X k.2)
  refine wpAny_call (codeAny_call_builtin bs_plain PySem.F.entry_bexc_str (@check_slot (model prog w) _ _ s "BaseException.__str__" "BaseException" "__str__" (.ref e) [] [] _ bs_kind bs_split sub (PySem.F.args_bexc_str _) ?_))
  exact bexcStrM he ht hq
theorem specialM {Q : Option Value → Shared → Prop} (k : Pe41 K) (X : K.In s.heap) (he : s.heap.get? e = some (excO (.ref 41) d (.ref a0) tb ctx c3 c4)) (ht : s.heap.get? a0 = some (tupO [.str m tm])) (hq : Q (some (.str m tm)) s) :
    wpAny (model prog w) A (callSpecial? (.ref e) "__str__") Q E s := by
  have t1 : Looks (model prog w) s.heap (typeOf (.ref e)) (.ref 41) := (Looks.ld he).andThen .now
  unfold callSpecial? specialOf
  refine wpAny_bind (wpAny_bind (t1.here ((looks_findIn X k.1).here ?_)))
  refine wpAny_holding (wpAny_bind (wpAny_of_eq (bs_bind _) ?_))
  refine wpAny_bind (callStrM k X he ht ?_)
  exact wpAny_pure hq
theorem strOfM {Q : Value → Shared → Prop} (hu : A.units < cLine) (k : Pe41 K) (X : K.In s.heap) (he : s.heap.get? e = some (excO (.ref 41) d (.ref a0) tb ctx c3 c4)) (ht : s.heap.get? a0 = some (tupO [.str m tm])) (hq : Q (.str m tm) s) :
    wpAny (model prog w) A (PySem.Builtin.Str.strOf (.ref e)) Q E s := by
  unfold PySem.Builtin.Str.strOf
  rw [show isExactStr (.ref e) = false from rfl]
  refine wpAny_bind (m := cRoomFor _ _) (wpAny_cRoomFor hu ?_)
  refine wpAny_bind (m := callSpecial? (.ref e) (PySem.Str.ofString "__str__")) (specialM k X he ht ?_)
  exact wpAny_pure hq
theorem strPE {Q : Value → Shared → Prop} (hu : A.units + 2 < cLine) (k : Pe41 K) (X : K.In s.heap) (he : s.heap.get? e = some (excO (.ref 41) d (.ref a0) tb ctx c3 c4)) (ht : s.heap.get? a0 = some (tupO [.str m tm])) (hq : Q (.str m tm) s) :
    wpAny (model prog w) A (call (.type "str") [.ref e]) Q E s :=
  callType_new PySem.F.called_str (by decide) (PySem.F.typeCall_str_1 _) (PySem.F.newCall_str_1 _) (fun obj => PySem.F.args_object_init_2 obj _) PySem.F.entry_str_new
    (meets_str_new (S := fun A' R s' => A'.units + 1 < cLine ∧ K.In s'.heap ∧ s'.heap.get? e = some (excO (.ref 41) d (.ref a0) tb ctx c3 c4) ∧ s'.heap.get? a0 = some (tupO [.str m tm]) ∧ R (.ok (.ret (.str m tm))) s')
      fun _ _ A' _ _ hq => strOfM (A := A'.in1) hq.1 k hq.2.1 hq.2.2.1 hq.2.2.2.1 hq.2.2.2.2)
    ⟨(show A.units + 1 + 1 < cLine from hu), X, he, ht, typeIs_str _ _ _, hq⟩
end
end Mine
end
section
open PySem PySem.W PySem.Calls PyProof.Rows PySem.Builtin PySem.Builtin.Str
set_option maxRecDepth 100000
namespace Mine
theorem len_toList (T : Str) : T.cps.toList.length = T.length := by simp [Str.length]
theorem sliceIdx_none {j : Int} {b len : Nat} (e : j = (b : Int)) : strSliceIndices none (some j) 1 len = strSliceIndices (some ((0 : Nat) : Int)) (some (b : Int)) 1 len := by
  subst e
  unfold strSliceIndices
  have e : max (0 : Int) (min 0 (len : Int)) = 0 := by omega
  simp [e]
theorem slice_upto (T : Str) {j : Int} {b : Nat} (e : j = (b : Int)) (h : b ≤ T.length) : (Txt.slice T none (some j)).cps.toList = T.cps.toList.take b := by
  unfold Txt.slice
  rw [sliceIdx_none e]
  have q := StrLaws.sliced_plain T (Nat.zero_le b) h
  split
  · rename_i c
    have : b = T.length := by
      rw [StrLaws.strSliceIndices_plain (Nat.zero_le b) h] at c
      simpa using c
    rw [this, ← len_toList, List.take_length]
  · show ((strSliceIndices (some ((0 : Nat) : Int)) (some (b : Int)) 1 T.length).filterMap (T.cps[·]?)).toArray.toList = _
    rw [q]; simp
theorem slice_mid (T : Str) {i j : Int} {a b : Nat} (ei : i = (a : Int)) (ej : j = (b : Int)) (hab : a ≤ b) (h : b ≤ T.length) : (Txt.slice T (some i) (some j)).cps.toList = (T.cps.toList.drop a).take (b - a) := by
  subst ei ej
  unfold Txt.slice
  have q := StrLaws.sliced_plain T hab h
  split
  · rename_i c
    have : b - a = T.length := by
      rw [StrLaws.strSliceIndices_plain hab h] at c
      simpa using c
    have a0 : a = 0 := by omega
    subst a0
    rw [List.drop_zero, this, ← len_toList, List.take_length]
  · show ((strSliceIndices (some (a : Int)) (some (b : Int)) 1 T.length).filterMap (T.cps[·]?)).toArray.toList = _
    rw [q]
theorem split_nl (S : Str) : Txt.split S NL = if (nls S.cps.toList S.length).isEmpty = true then [S] else partsBetween S (nls S.cps.toList S.length) NL.length := by
  unfold Txt.split
  have e1 : NL.length = 1 := by rw [NL_eq]; rfl
  have e2 : PySem.Builtin.Str.strKind NL = 1 := by rw [NL_eq]; decide +kernel
  have e3 : 1 ≤ PySem.Builtin.Str.strKind S := by unfold PySem.Builtin.Str.strKind; split <;> (try split) <;> omega
  rw [occ_NL S S.length (S.length + 1) (Nat.lt_succ_self _)]
  by_cases h : S.length < 1
  · have h0 : S.length = 0 := by omega
    rw [if_pos (by rw [e1]; simp [h0])]
    have : nls S.cps.toList S.length = [] := by rw [h0]; rfl
    rw [this]; rfl
  · rw [if_neg (by rw [e1, e2]; simp; omega)]
theorem rows_len (S : Str) : (Txt.split S NL).length = nlc S.cps.toList S.length + 1 := by
  rw [split_nl]
  unfold nlc
  split
  · rename_i h
    rw [List.isEmpty_iff.mp h]; rfl
  · have e1 : NL.length = 1 := by rw [NL_eq]; rfl
    rw [e1, parts_len]
theorem rows_last (S : Str) : ∃ r, (Txt.split S NL).getLast? = some r ∧ r.length + 1 = colN S.cps.toList S.length := by
  rw [split_nl]
  unfold colN
  split
  · rename_i h
    rw [List.isEmpty_iff.mp h]
    exact ⟨S, rfl, rfl⟩
  · rename_i h
    have e1 : NL.length = 1 := by rw [NL_eq]; rfl
    rw [e1, parts_last]
    refine ⟨_, rfl, ?_⟩
    cases q : (nls S.cps.toList S.length).getLast? with
    | none =>
      rw [List.getLast?_eq_none_iff] at q
      rw [q] at h; exact absurd rfl h
    | some j =>
      have hj := nls_lt (List.mem_of_getLast? q)
      dsimp only
      have : (strSub S (j + 1) S.length).cps.toList.length = S.length - (j + 1) := by
        rw [StrLaws.strSub_toList, List.length_take, List.length_drop, len_toList]; omega
      rw [len_toList] at this
      omega
theorem rows_of {T : Str} {i : Nat} (h : T.length = i + 1) : (Txt.split (Txt.slice T none (some ((T.length : Int) - 1))) NL).length = nlc T.cps.toList i + 1 ∧ ∃ r, (Txt.split (Txt.slice T none (some ((T.length : Int) - 1))) NL).getLast? = some r ∧ r.length + 1 = colN T.cps.toList i := by
  have e := slice_upto T (j := (T.length : Int) - 1) (b := i) (by omega) (by omega)
  have hl : (Txt.slice T none (some ((T.length : Int) - 1))).length = i := by
    rw [← len_toList, e, List.length_take, len_toList]; omega
  have q1 := rows_len (Txt.slice T none (some ((T.length : Int) - 1)))
  have q2 := rows_last (Txt.slice T none (some ((T.length : Int) - 1)))
  rw [e, hl] at q1 q2
  have e3 : nls (T.cps.toList.take i) i = nls T.cps.toList i := nls_take _ _
  unfold nlc at q1 ⊢
  unfold colN at q2 ⊢
  rw [e3] at q1 q2
  exact ⟨q1, q2⟩
end Mine
end
section
open PySem PySem.W PySem.Calls PyProof.Rows
set_option maxRecDepth 100000
namespace Mine
theorem fill17 : PySem.Challenge.rw_dw0053_01 = PySem.Challenge.rw_dw0053_01 ∧ ∀ P, Mine.hd.heap_39 P = Mine.hd.heap_39 P := by
  k_fill
  exact ⟨rfl, fun _ => rfl⟩
def AllEq (A : Around) (s : Shared) : List Value → List Value → Prop
  | [], [] => True
  | v :: vs, u :: us => SeqAt.EqAt A s v u true ∧ AllEq A s vs us
  | _, _ => False
theorem AllEq.size {A : Around} {s : Shared} : ∀ {vs us : List Value}, AllEq A s vs us → vs.length = us.length
  | [], [], _ => rfl
  | _ :: _, _ :: _, h => congrArg (· + 1) h.2.size
  | [], _ :: _, h => h.elim
  | _ :: _, [], h => h.elim
theorem AllEq.at {A : Around} {s : Shared} : ∀ {vs us : List Value}, AllEq A s vs us → ∀ j (h1 : j < vs.length) (h2 : j < us.length), SeqAt.EqAt A s vs[j] us[j] true
  | _ :: _, _ :: _, h, 0, _, _ => h.1
  | _ :: _, _ :: _, h, j + 1, h1, h2 => h.2.at j (Nat.lt_of_succ_lt_succ h1) (Nat.lt_of_succ_lt_succ h2)
  | [], _, _, _, h1, _ => nomatch h1
  | _ :: _, [], h, _, _, _ => h.elim
section
variable {prog : Program} {w : World} {A : Around} {E : Value → Shared → Prop} {s : Shared} {h₀ : Heap} {L : Addr} {m : Str → Option Value} {news : List (Addr × Obj)}
theorem EqAt.str' {a b : Str} {t u : Tok} (e : a = b) : SeqAt.EqAt A s (.str a t) (.str b u) true := by
  have := SeqAt.EqAt.str_str (A := A) (s := s) a t b u
  rw [show (a == b) = true from by simp [e]] at this
  exact this
theorem EqAt.int' {a b : Int} {t u : Tok} (e : a = b) : SeqAt.EqAt A s (.int a t) (.int b u) true := by
  have := SeqAt.EqAt.int_int (A := A) (s := s) a t b u
  rw [show (a == b) = true from by simp [e]] at this
  exact this
theorem eq_tuples_true {l b : Addr} {vs us : List Value} {n n2 : Nat} {Q : Value → Shared → Prop} (N : News h₀ L s.heap news) (hl : (l, ({ cls := .type "tuple", data := .seq vs.toArray n } : Obj)) ∈ news) (hb : (b, ({ cls := .type "tuple", data := .seq us.toArray n2 } : Obj)) ∈ news) (hu : A.units < cLine)
    (h : AllEq A.in1 s vs us) (hq : Q (.bool true) s) : wpAny (model prog w) A (compareOp .Eq (.ref l) (.ref b)) Q E s := by
  refine SeqAt.eq_tupleAt (items := vs.toArray) (items2 := us.toArray) (e := fun _ => true) ⟨_, (N _ hl).1, rfl, n, rfl⟩ ⟨_, (N _ hb).1, rfl, n2, rfl⟩ hu (fun j h1 h2 => ?_) ?_
  · have := h.at j (by simpa using h1) (by simpa using h2)
    simpa using this
  · have e : ((List.range (min vs.toArray.size us.toArray.size)).all (fun _ => true) && vs.toArray.size == us.toArray.size) = true := by
      simp [h.size]
    rw [e]; exact hq
theorem toS_len : ∀ q : Fin 1000, (Str.ofString (toString ((q.1 : Nat) : Int))).length ≤ 10 := by decide +kernel
theorem strAppLen (x y : Str) : (x ++ y).length = x.length + y.length := by first | exact Str.length_append .. | (simp [Str.length]; done) | (show (x.cps ++ y.cps).size = _; simp [Str.length])
theorem addS {x y : Str} {t u : Tok} {a b : Nat} {Q : Value → Shared → Prop} (hx : x.length ≤ a) (hy : y.length ≤ b) (hz : a + b ≤ 100000) (h : ∀ t' k, (x ++ y).length ≤ a + b → Q (.str (x ++ y) t') { s with toks := k }) : wpAny (model prog w) A (binaryOp .Add (.str x t) (.str y u)) Q E s :=
  PyProof.Rows.add_str (fun t' k => h t' k (by rw [strAppLen]; omega)) (by rw [sizeLine_eq]; omega)
theorem iaddS {x y : Str} {t u : Tok} {a b : Nat} {Q : Value → Shared → Prop} (hx : x.length ≤ a) (hy : y.length ≤ b) (hz : a + b ≤ 100000) (h : ∀ t' k, (x ++ y).length ≤ a + b → Q (.str (x ++ y) t') { s with toks := k }) : wpAny (model prog w) A (inplaceOp .Add (.str x t) (.str y u)) Q E s :=
  PyProof.Rows.iadd_str (fun t' k => h t' k (by rw [strAppLen]; omega)) (by rw [sizeLine_eq]; omega)
theorem strSmall {a : Int} {t : Tok} {Q : Value → Shared → Prop} (h0 : 0 ≤ a) (h1 : a < 1000) (h : ∀ t' k, (Str.ofString (toString a)).length ≤ 10 → Q (.str (Str.ofString (toString a)) t') { s with toks := k }) : wpAny (model prog w) A (call (.type "str") [.int a t]) Q E s := by
  refine P.str_of_int ?_ (h _ _ ?_)
  rotate_left
  · obtain ⟨n, rfl⟩ := Int.eq_ofNat_of_zero_le h0
    exact toS_len ⟨n, by omega⟩
  have : a.natAbs < 1000 := by omega
  have h2 : a.natAbs.log2 ≤ a.natAbs := Nat.log2_le_self _
  omega
theorem rowsBound {l : List (Str × Tok)} {T : Str} {i : Nat} (hl : l.map (·.1) = Txt.split (Txt.slice T none (some ((T.length : Int) - 1))) NL) (hi : T.length = i + 1) (hlen : T.length ≤ 100) : l.length = nlc T.cps.toList i + 1 ∧ l.length ≤ 101 := by
  have := (rows_of hi).1
  rw [← hl, List.length_map] at this
  have h2 : nlc T.cps.toList i ≤ i := nlc_le _ _
  exact ⟨this, by omega⟩
theorem rowsLast {value slice : PySem.Expr} {l : List (Str × Tok)} {T : Str} {i n : Nat} {D : Addr} {u : Tok} {Q : Value → Shared → Prop} (N : News h₀ L s.heap news) (hD : (D, listOf (strValues l).toArray n) ∈ news) (hl : l.map (·.1) = Txt.split (Txt.slice T none (some ((T.length : Int) - 1))) NL) (hi : T.length = i + 1)
    (hlen : T.length ≤ 100) (h : ∀ r t', r.length + 1 = colN T.cps.toList i → r.length ≤ 100 → Q (.str r t') s)
    (hs : subscripted slice false (.ref D) (.int (-1) u) = operate [.ref D, .int (-1) u] (getItem (.ref D) (.int (-1) u)) := by with_unfolding_all rfl) :
    wpAny (model prog w) A (subscriptTail value slice (.ref D) (.int (-1) u)) Q E s := by
  obtain ⟨q1, r, q2, q3⟩ := rows_of hi
  rw [← hl] at q1 q2
  rw [List.length_map] at q1
  rw [List.getLast?_map] at q2
  obtain ⟨⟨r', t'⟩, q4, q5⟩ := Option.map_eq_some_iff.mp q2
  dsimp only at q5
  subst q5
  have ln : l.length - 1 < l.length := by omega
  have hv : (strValues l)[l.length - 1]? = some (.str r' t') := by
    rw [List.getLast?_eq_getElem?] at q4
    unfold strValues
    rw [List.getElem?_map, q4]; rfl
  have lv : (strValues l).length = l.length := by unfold strValues; rw [List.length_map]
  refine kde_neg (j := l.length - 1) ⟨_, (N _ hD).1, rfl, n, rfl⟩ (by decide) (by decide) ?_ hv (h r' t' q3 (by have := col_le T.cps.toList i; omega)) hs
  rw [lv]
  unfold seqIndex?
  simp; omega
theorem strPEn {e a0 de : Addr} {tb ctx c3 c4 : Value} {mm : Str} {tm : Tok} {Q : Value → Shared → Prop} (F : Fr h₀ L s.heap m) (X₀ : (Mine.hd.heap_39 w.params).In h₀) (N : News h₀ L s.heap news) (hu : A.units + 2 < cLine) (he : (e, excO (.ref 41) (some de) (.ref a0) tb ctx c3 c4) ∈ news) (ha : (a0, tupO [.str mm tm]) ∈ news) (hq : Q (.str mm tm) s) :
    wpAny (model prog w) A (call (.type "str") [.ref e]) Q E s := strPE hu (str41 _) (X₀.keeps F.keep) (N _ he).1 (N _ ha).1 hq
end
local macro_rules | `(tactic| walk_at "getAttr ref") => `(tactic| wtm_at "m1")
local macro_rules | `(tactic| walk_at "call type:str") => `(tactic| (k_here; (with_reducible show wpAny _ _ (call _ [Value.int _ _]) _ _ _); (refine strSmall ?k1 ?k2 ?_); (case k1 => omega); (case k2 => first | omega | (have hz9 := rowsBound (by wtm_at "a") (by wtm_at "a") (by wtm_at "a"); omega) | (have hc9 := col_le _ _; omega)); intro t' tk' hz'; wtm_at "d"))
local macro_rules | `(tactic| walk_at "call type:str") => `(tactic| (k_here; (with_reducible show wpAny _ _ (call _ [Value.ref _]) _ _ _); k_dflt (refine' strPEn (by k_asm) (by k_asm) (by k_asm) (by (simp only [units_deeper]; wtm_at "d"; omega)) (by k_mem) (by k_mem) ?_)))
local macro_rules | `(tactic| walk_at "subscriptTail Name UnaryOp ref int") => `(tactic| (k_here; k_dflt (refine' rowsLast (by k_asm) (by k_mem) (by wtm_at "a") (by wtm_at "a") (by wtm_at "a") ?_); intro r' t' hr' hr9'; wtm_at "d"))
local macro_rules | `(tactic| walk_at "call builtin:len") => `(tactic| (k_here; (with_reducible show wpAny _ _ (call _ [Value.str _ _]) _ _ _); (refine P.len_str ?_ ?_); omega))
local macro_rules | `(tactic| walk_at "binaryOp Add str str") => `(tactic| (k_here; (refine' addS (by first | wtm_at "a" | exact Nat.le_refl _) (by first | wtm_at "a" | exact Nat.le_refl _) (by decide) ?_); intro t' tk' hz'; wtm_at "d"))
local macro_rules | `(tactic| walk_at "inplaceOp Add str str") => `(tactic| (k_here; (refine' iaddS (by first | wtm_at "a" | exact Nat.le_refl _) (by first | wtm_at "a" | exact Nat.le_refl _) (by decide) ?_); intro t' tk' hz'; wtm_at "d"))
local macro_rules | `(tactic| walk_at "compareOp In str str") => `(tactic| (k_here; (with_reducible refine in_nl ?_)))
theorem strAssoc (a b c : Str) : a ++ b ++ c = a ++ (b ++ c) := by
  have e : ∀ x y : Str, x ++ y = ⟨x.cps ++ y.cps⟩ := fun _ _ => rfl
  simp only [e, Array.append_assoc]
theorem fits_plain {u : List Nat} {i : Nat} {n : Int} (h : ¬ 10 ∈ u) (hn : n = (i : Int)) : peMsg u i = Str.ofString "bad escape (end of pattern) at position " ++ Str.ofString (toString n) := by
  subst hn
  unfold peMsg
  rw [if_neg h, hM]
theorem fits_lines {u : List Nat} {i : Nat} {n a b : Int} (h : 10 ∈ u) (hn : n = (i : Int)) (ha : a = (nlc u i : Int) + 1) (hb : b = (colN u i : Int)) : peMsg u i = Str.ofString "bad escape (end of pattern) at position " ++ Str.ofString (toString n) ++ (Str.ofString " (line " ++ Str.ofString (toString a) ++ Str.ofString ", column " ++ Str.ofString (toString b) ++ Str.ofString ")") := by
  subst hn ha hb
  unfold peMsg
  rw [if_pos h, hM, show (i : Int) - ((i : Int) - (colN u i : Int)) = (colN u i : Int) by omega]
  simp only [strAssoc]
theorem kept_back {h h' : Heap} {X : List Addr} (k : Kept X [] h h') (hX : ∀ b ∈ X, ∀ o, h.get? b = some o → h'.get? b = some o) : Kept [] [] h h' := ⟨k.size, fun b o e _ => by
  by_cases hb : b ∈ X
  · exact ⟨o.slots, hX b hb o e, fun _ => rfl⟩
  · exact k.keep b o e hb⟩
theorem fitsEnd {h g' h' : Heap} {L : Addr} {m' : Str → Option Value} {e de a0 : Addr} {oe od oa : Obj} {news : List (Addr × Obj)} (F : Fr (hideAll h [e, de, a0]) L h' m') (N : News (hideAll h [e, de, a0]) L h' news) (he : h.get? e = some oe) (hd : h.get? de = some od) (ha : h.get? a0 = some oa)
    (me : (e, oe) ∈ news) (md : (de, od) ∈ news) (ma : (a0, oa) ∈ news) : Kept [] [] h h' := by
  refine kept_back (exitK KtsTurn.refl F) fun b hb o q => ?_
  simp only [List.mem_cons, List.not_mem_nil, or_false] at hb
  rcases hb with rfl | rfl | rfl
  · rw [he] at q; injection q with q; subst q; exact (N _ me).1
  · rw [hd] at q; injection q with q; subst q; exact (N _ md).1
  · rw [ha] at q; injection q with q; subst q; exact (N _ ma).1
local macro_rules | `(tactic| walk_at "compareOp Eq ref ref") => `(tactic| (refine stop ?_))
local macro_rules | `(tactic| k_handed) => `(tactic| wtm_at "a")
local macro_rules | `(tactic| k_room) => `(tactic| wtm_at "m0")
set_option maxHeartbeats 4000000 in
theorem fitsC {w : World} {mean : ExcName → Option Value} {mg mb : Str → Option Value} {base : Heap} {s : Shared} {R : Result → Shared → Prop}
    {T : Str} {tT : Tok} {gv : Value} {i : Nat} {hd : Option Value} {dp un : Nat} {outer : Option (List Env)} {gd : Option (List Code)}
    {e de a0 tb ia : Addr} {pk : PeP} {tm : Tok}
    (hB : BaseOk w mean mg mb base) (st : base.StaysIn s.heap) (hroom : dp < recursionLimit) (hun : un + 10 < cLine) (hlen : T.length ≤ 100) (hi : T.length = i + 1) (hgv : handedIn gv = true)
    (he : s.heap.get? e = some (peO de a0 tb ia)) (hde : s.heap.get? de = some (peD w.params pk gv T.cps.toList i)) (ha0 : s.heap.get? a0 = some (tupO [.str (peMsg T.cps.toList i) tm]))
    (heb : base.get? e = none) (hdb : base.get? de = none) (hab : base.get? a0 = none)
    (hR : ∀ h' tk, Kept [] [] s.heap h' → R (.ok (.ret (.bool true))) { s with heap := h', toks := tk }) :
    codeAny (model PySem.Challenge.rw_dw0053_01.row.prog w) { handled := hd, depth := dp, frames := outer, guards := gd, units := un } (.call (.ref 151) ⟨[.ref e, gv, .str T tT], []⟩) R s := by
  refine' enterM (binds := [(Str.ofString "wrong", .ref e), (Str.ofString "given", gv), (Str.ofString "text", .str T tT)]) [e, de, a0] (hB.X.keeps st) (hB.T.nolimit.keeps st) ?k3 ?k4 ?k5 ?k6 ?k7 ?h ?c1 ?c2 ?c3 ?c4
  case k3 => k_is
  case k4 => k_is
  case k5 => k_room
  case k6 => exact BindsTo.of_eq rfl
  case k7 => exact locs rfl
  case c1 => exact rfl
  case c2 => exact rfl
  case c3 => exact rfl
  case c4 => decide
  intro L' h₁ hL F' hk Q E hQ hE
  have stG : base.StaysIn (hideAll s.heap [e, de, a0]) := apartNone st (by simp [heb, hdb, hab])
  have X' := hB.X.keeps stG
  have T' : TopM mean mg mb (hideAll s.heap [e, de, a0]) := hB.T.keeps stG
  have N' : News (hideAll s.heap [e, de, a0]) L' h₁ [(e, peO de a0 tb ia), (de, peD w.params pk gv T.cps.toList i), (a0, tupO [.str (peMsg T.cps.toList i) tm])] := by
    intro p hp
    rcases List.mem_cons.mp hp with rfl | hp
    · exact ⟨hk _ _ he, by have := Heap.lt_size he; subst hL; exact Nat.ne_of_lt this, hideAll_none _ (by simp)⟩
    rcases List.mem_cons.mp hp with rfl | hp
    · exact ⟨hk _ _ hde, by have := Heap.lt_size hde; subst hL; exact Nat.ne_of_lt this, hideAll_none _ (by simp)⟩
    rcases List.mem_cons.mp hp with rfl | hp
    · exact ⟨hk _ _ ha0, by have := Heap.lt_size ha0; subst hL; exact Nat.ne_of_lt this, hideAll_none _ (by simp)⟩
    · nomatch hp
  clear hk hE
  k_steps
  · rename List.map _ _ = Txt.split _ _ => hl
    rename Fr _ L' _ _ => F9
    rename News _ L' _ _ => N9
    obtain ⟨q1, q2⟩ := rowsBound hl hi hlen
    unfold Stop
    refine' eq_tuples_true N9 ?hl ?hb ?hu ?he ?hq
    case hl => k_dflt k_mem
    case hb => k_dflt k_mem
    case hu => (simp only [units_deeper]; omega)
    case he => exact ⟨EqAt.str' rfl, SeqAt.EqAt.same _, EqAt.int' (by omega), EqAt.int' (by omega), EqAt.int' (by omega), EqAt.str' (fits_lines (by with_reducible assumption) (by omega) (by omega) (by omega)), trivial⟩
    case hq => exact hQ (.ret _) _ (hR _ _ (fitsEnd (g' := s.heap) F9 N9 he hde ha0 (by k_mem) (by k_mem) (by k_mem)))
  · rename List.map _ _ = Txt.split _ _ => hl
    rename Fr _ L' _ _ => F9
    rename News _ L' _ _ => N9
    obtain ⟨q1, q2⟩ := rowsBound hl hi hlen
    unfold Stop
    refine' eq_tuples_true N9 ?hl ?hb ?hu ?he ?hq
    case hl => k_dflt k_mem
    case hb => k_dflt k_mem
    case hu => (simp only [units_deeper]; omega)
    case he => exact ⟨EqAt.str' rfl, SeqAt.EqAt.same _, EqAt.int' (by omega), EqAt.int' (by omega), EqAt.int' (by omega), EqAt.str' (fits_plain (by with_reducible assumption) (by omega)), trivial⟩
    case hq => exact hQ (.ret _) _ (hR _ _ (fitsEnd (g' := s.heap) F9 N9 he hde ha0 (by k_mem) (by k_mem) (by k_mem)))
end Mine
end
section
open PySem PySem.W PySem.Calls PyProof.Rows
set_option maxRecDepth 100000
namespace Mine
theorem enterC {prog : Program} {w : World} {A : Around} {R : Result → Shared → Prop} {s : Shared} {K : Frag}
    {name qual : Str} {params : Arguments} {body : List Stmt} {scope : Scope} {dV kV doc pm cdv ct oc : Value} {an od : Option Addr} {osl : Array (Option Value)} {f : Addr} {args : Args} {binds : List (Str × Value)}
    (X : K.In s.heap) (hlim : s.heap.NoLimit)
    (ho : K.lookup f = some ⟨oc, od, .func (fnOf name qual params body scope dV kV doc pm an cdv ct), osl⟩) (hcd : codeIn K cdv qual = true) (hroom : A.depth < recursionLimit)
    (hbind : BindsTo s (fnOf name qual params body scope dV kV doc pm an cdv ct) args binds)
    (hkind : (binds.all fun y => scope.names.lookup y.1 == some .local || scope.names.lookup y.1 == some .cell) = true)
    (hnd : ((cellsFrom 0 scope.names []).map (·.1)).Nodup)
    (h : ∀ L' h₁ tk cells, L' = s.heap.objs.size → Fr s.heap L' h₁ (bindL (envOfC qual scope L' f cdv).kindOf binds fun _ => none) → News s.heap L' h₁ cells →
      CellsAre (bindC (envOfC qual scope L' f cdv).kindOf binds fun _ => none) (cellsFrom (L' + 1) scope.names []) cells → ∀ (Q : Flow → Shared → Prop) (E : Value → Shared → Prop),
      (∀ fl s', R (.ok (.ret (match fl with | .ret v => v | _ => .none))) s' → Q fl s') →
      (∀ e s', wpAny (model prog w) (A.deeper (envOfC qual scope L' f cdv)) (leaving (envOfC qual scope L' f cdv) e) (fun _ s'' => R (.error e) s'') (fun e' s'' => R (.error e') s'') s' → E e s') →
      wpAny (model prog w) (A.deeper (envOfC qual scope L' f cdv)) (execs body (envOfC qual scope L' f cdv)) Q E { s with heap := h₁, toks := tk })
    (hco : scope.isCoroutine = false := by rfl) (hgen : scope.isGenerator = false := by rfl) (hk : scope.kind = .function := by rfl) : codeAny (model prog w) A (.call (.ref f) args) R s := by
  refine codeAny_call_function hroom (X _ _ ho) rfl hco hgen rfl (codeRec_of X hcd) (hbind _ _ _ _ ?_)
  refine wpAny_newFunctionEnv_cells hk (kindsX hkind _) fun env' he s' x => ?_
  subst he
  refine ⟨hlim.keeps x.toInCall.keep, codeAny_func ?_⟩
  obtain ⟨h₁, tk, rfl, _⟩ := x.done
  have hk₁ := x.toInCall.keep
  obtain ⟨cells, NC, Y⟩ := Cl.news (h₀ := s.heap) (Nat.le_refl _) fun n c hm => ⟨x.cell n c (lookup_of_mem_nodup (cellsFrom_names scope.names 0 (s.heap.objs.size + 1) [] [] rfl ▸ hnd) hm), x.above n c hm⟩
  exact h s.heap.objs.size h₁ tk cells rfl ⟨x.toInCall.ns, fun b o e => hk₁ b o e, Nat.le_refl _⟩ NC Y _ _ (fun _ _ q => q) (fun _ _ q => q)
end Mine
end
section
open PySem PySem.W PySem.Calls PyProof.Rows
set_option maxRecDepth 100000
namespace Mine
section
variable {prog : Program} {w : World} {A : Around} {E : Value → Shared → Prop} {s : Shared} {Q : Value → Shared → Prop} {env : Env} {x : Str} {pos : Pos} {c : Addr} {o : Obj} {v : Value}
theorem cname {M : Model} (hk : env.scope.kind = .function) (hx : env.kindOf x = some .cell) (hc : env.cells.lookup x = some c) (hg : s.heap.get? c = some o) (hd : o.data = .cell (some v)) (hb : (x == ("__debug__" : Str)) = false) (h : Q v s) :
    wpAny M A (eval (.Name x pos) env) Q E s := wpAny_Name (wpAny_loadName_cell hk hx hc ⟨o, hg, hd⟩ h) hb
theorem lname {M : Model} {m : Str → Option Value} (hk : env.scope.kind = .function) (hx : env.kindOf x = some .local) (hn : s.heap.Ns env.locals m) (hm : m x = some v) (hb : (x == ("__debug__" : Str)) = false) (h : Q v s) :
    wpAny M A (eval (.Name x pos) env) Q E s := wpAny_Name (wpAny_loadName_local hk hx hn hm h) hb
theorem itemI {l : Addr} {vs : List Value} {ns : List Int} {j : Nat} {t : Tok} {a : Int} {value slice : PySem.Expr} (hl : s.heap.IsList l vs.toArray) (hi : IntsAre vs ns) (hj : ns[j]? = some a) (hs : j < 1000) (h : ∀ t, Q (.int a t) s)
    (hsu : subscripted slice false (.ref l) (.int (j : Int) t) = operate [.ref l, .int (j : Int) t] (getItem (.ref l) (.int (j : Int) t)) := by with_unfolding_all rfl) :
    wpAny (model prog w) A (subscriptTail value slice (.ref l) (.int (j : Int) t)) Q E s := by
  obtain ⟨t', ht⟩ := hi.get j a hj
  exact tail_any hl.typeIs slot_list_getitem.lookup (wpAny_getItem_list hl (by omega) (by omega) (by simpa using ht) (h t')) hsu

theorem eltE {T : Str} {tT tk : Tok} {ls le : Addr} {vs us : List Value} {ns ms : List Int} {j : Nat} {a b : Int} {ct cs ce : Addr} {o1 o2 o3 : Obj} {m : Str → Option Value} {p1 p2 p3 p4 p5 p6 p7 p8 p9 : Pos}
    (hk : env.scope.kind = .function) (k1 : env.kindOf (Str.ofString "text") = some .cell) (k2 : env.kindOf (Str.ofString "starts") = some .cell) (k3 : env.kindOf (Str.ofString "ends") = some .cell) (k4 : env.kindOf (Str.ofString "k") = some .local)
    (c1 : env.cells.lookup (Str.ofString "text") = some ct) (c2 : env.cells.lookup (Str.ofString "starts") = some cs) (c3 : env.cells.lookup (Str.ofString "ends") = some ce)
    (g1 : s.heap.get? ct = some o1) (g2 : s.heap.get? cs = some o2) (g3 : s.heap.get? ce = some o3) (d1 : o1.data = .cell (some (.str T tT))) (d2 : o2.data = .cell (some (.ref ls))) (d3 : o3.data = .cell (some (.ref le)))
    (hn : s.heap.Ns env.locals m) (hm : m (Str.ofString "k") = some (.int (j : Int) tk)) (hl : s.heap.IsList ls vs.toArray) (hl2 : s.heap.IsList le us.toArray) (hi : IntsAre vs ns) (hi2 : IntsAre us ms) (ha : ns[j]? = some a) (hb : ms[j]? = some b) (hj : j < 1000) (hlen : T.length ≤ 1000)
    (h : ∀ h' t' k, (∀ b o, s.heap.get? b = some o → h'.get? b = some o) → Q (.str (Txt.slice T (some a) (some b)) t') { s with heap := h', toks := k }) :
    wpAny (model prog w) A (eval (.Subscript (.Name (Str.ofString "text") p1) (.Slice (some (.Subscript (.Name (Str.ofString "starts") p2) (.Name (Str.ofString "k") p3) p4)) (some (.Subscript (.Name (Str.ofString "ends") p5) (.Name (Str.ofString "k") p6) p7)) none p8) p9) env) Q E s := by
  refine wpAny_Subscript_Slice (T := "str") PySem.F.slot_str_getitem.lookup ?_
  refine cname hk k1 c1 g1 d1 (by decide) ?_
  refine wpAny_Slice ?_
  show wpAny _ _ (eval (.Subscript (.Name (Str.ofString "starts") p2) (.Name (Str.ofString "k") p3) p4) env) _ _ _
  refine Subscript_ (cname hk k2 c2 g2 d2 (by decide) (lname hk k4 hn hm (by decide) (itemI hl hi ha hj fun ta => ?_)))
  show wpAny _ _ (eval (.Subscript (.Name (Str.ofString "ends") p5) (.Name (Str.ofString "k") p6) p7) env) _ _ _
  refine Subscript_ (cname hk k3 c3 g3 d3 (by decide) (lname hk k4 hn hm (by decide) (itemI hl2 hi2 hb hj fun tb => ?_)))
  show wpAny _ _ (pure Value.none) _ _ _
  refine wpAny_pure ?_
  obtain ⟨T1, id1, q1, q2, q3⟩ := SBH.sliceItem_ss (prog := prog) (w := w) (A := A) (E := E) (x := T) (t := tT) (s := s) (i := a) (j := b) (ui := ta) (uj := tb) (P := fun h' => ∀ b o, s.heap.get? b = some o → h'.get? b = some o) (Q := Q) (fun h' ob hP b o e => Heap.get?_push_of_some _ (hP b o e)) (fun _ _ e => e) (fun h' t' k hP => h h' t' k hP) (by rw [sizeLine_eq]; omega)
  exact ⟨typeIs_str _ _ _, q3⟩
end
end Mine
end
section
open PySem PySem.W PySem.Calls PyProof.Rows
set_option maxRecDepth 100000
namespace Mine
section
variable (p : Nat → Bool)
def frank (i : Nat) : Nat := ((List.range i).filter p).length
theorem frank_succ (i : Nat) : frank p (i + 1) = frank p i + (if p i then 1 else 0) := by
  unfold frank
  rw [List.range_succ, List.filter_append, List.length_append]
  congr 1
  cases h : p i <;> simp [h]
theorem frank_mono {i j : Nat} (h : i ≤ j) : frank p i ≤ frank p j := by
  induction h with
  | refl => exact Nat.le_refl _
  | step _ ih => rw [frank_succ]; omega
theorem filt_get {i N : Nat} (h : i < N) (hp : p i = true) : ((List.range N).filter p)[frank p i]? = some i := by
  induction N with
  | zero => omega
  | succ N ih =>
    rw [List.range_succ, List.filter_append]
    by_cases e : i = N
    · subst e
      have q : frank p i = (List.filter p (List.range i)).length := rfl
      rw [q, List.getElem?_append_right (Nat.le_refl _), Nat.sub_self]
      simp [hp]
    · have lt : i < N := by omega
      have q := ih lt
      have : frank p i < ((List.range N).filter p).length := (List.getElem?_eq_some_iff.mp q).1
      rw [List.getElem?_append_left this]
      exact q
theorem filt_of {j i N : Nat} (h : ((List.range N).filter p)[j]? = some i) : i < N ∧ p i = true ∧ frank p i = j := by
  have m := List.mem_filter.mp (List.mem_of_getElem? h)
  have lt := List.mem_range.mp m.1
  refine ⟨lt, m.2, ?_⟩
  have q := filt_get p lt m.2
  have pw : List.Pairwise (· < ·) ((List.range N).filter p) := List.Pairwise.filter _ List.pairwise_lt_range
  have j1 := (List.getElem?_eq_some_iff.mp h).1
  have j2 := (List.getElem?_eq_some_iff.mp q).1
  have e1 := (List.getElem?_eq_some_iff.mp h).2
  have e2 := (List.getElem?_eq_some_iff.mp q).2
  rcases Nat.lt_trichotomy (frank p i) j with z | z | z
  · have := List.pairwise_iff_getElem.mp pw _ _ j2 j1 z
    rw [e1, e2] at this; exact absurd this (Nat.lt_irrefl _)
  · exact z
  · have := List.pairwise_iff_getElem.mp pw _ _ j1 j2 z
    rw [e1, e2] at this; exact absurd this (Nat.lt_irrefl _)
end

abbrev stO (u : List Nat) : List Nat := startsOf u u.length
def enO (u : List Nat) : List Nat := (stO u).drop 1 ++ [u.length]
def evn (u : List Nat) (k : Nat) : Bool := runOf u k % 2 == 0
theorem stO_eq (u : List Nat) : stO u = (List.range u.length).filter (evn u) := rfl
theorem enO_get {u : List Nat} {j : Nat} (h : j < (stO u).length) : (enO u)[j]? = some (((stO u)[j + 1]?).getD u.length) := by
  unfold enO
  by_cases h1 : j + 1 < (stO u).length
  · rw [List.getElem?_append_left (by rw [List.length_drop]; omega), List.getElem?_drop, Nat.add_comm 1 j, List.getElem?_eq_getElem h1]; rfl
  · have e : j = (List.drop 1 (stO u)).length := by rw [List.length_drop]; omega
    have z : (stO u)[j + 1]? = none := List.getElem?_eq_none (by omega)
    rw [List.getElem?_append_right (by omega), ← e, Nat.sub_self, z]; rfl
theorem enO_len {u : List Nat} (h : 0 < (stO u).length) : (enO u).length = (stO u).length := by
  unfold enO
  rw [List.length_append, List.length_drop, List.length_singleton]; omega
theorem len_rank (u : List Nat) : (stO u).length = frank (evn u) u.length := rfl
theorem st_rank {u : List Nat} {j i : Nat} (h : (stO u)[j]? = some i) : i < u.length ∧ evn u i = true ∧ frank (evn u) i = j := filt_of _ h
/-- what stands between two starts -/
theorem step_at {u : List Nat} {j i : Nat} (h : (stO u)[j]? = some i) (nl : ¬ lone u i) : (enO u)[j]? = some (nxIdx u i) ∧ nxIdx u i ≤ u.length ∧ i < nxIdx u i := by
  obtain ⟨lt, ev, rk⟩ := st_rank h
  have hj : j < (stO u).length := (List.getElem?_eq_some_iff.mp h).1
  have key : ∀ i', i' ≤ u.length → frank (evn u) i' = j + 1 → (i' < u.length → evn u i' = true) → (enO u)[j]? = some i' := by
    intro i' le r e
    rw [enO_get hj]
    by_cases q : i' < u.length
    · have := filt_get (evn u) q (e q)
      rw [r] at this
      rw [stO_eq, this]; rfl
    · have : i' = u.length := by omega
      subst this
      rw [List.getElem?_eq_none (by rw [len_rank, r]; exact Nat.le_refl _)]; rfl
  have r1 : frank (evn u) (i + 1) = j + 1 := by rw [frank_succ, ev, rk]; rfl
  have ev' : runOf u i % 2 = 0 := by simpa [evn] using ev
  unfold nxIdx
  rw [List.getElem?_eq_getElem lt]
  dsimp only
  by_cases hc : u[i] = 92
  · rw [if_pos hc]
    have h92 : u[i]? = some 92 := by rw [List.getElem?_eq_getElem lt, hc]
    have odd : runOf u (i + 1) = runOf u i + 1 := by rw [runOf, if_pos h92]
    cases q1 : u[i + 1]? with
    | none => exact absurd ⟨h92, q1⟩ nl
    | some d =>
      have lt1 := (List.getElem?_eq_some_iff.mp q1).1
      dsimp only
      have e1 : evn u (i + 1) = false := by unfold evn; rw [odd]; simp; omega
      have r2 : frank (evn u) (i + 2) = j + 1 := by rw [frank_succ, e1, r1]; rfl
      have e2 : evn u (i + 2) = true := by
        unfold evn
        rw [runOf]
        split
        · rw [odd]; simp; omega
        · rfl
      exact ⟨key (i + 2) (by omega) r2 fun _ => e2, by omega, by omega⟩
  · rw [if_neg hc]
    have e1 : evn u (i + 1) = true := by
      unfold evn
      rw [runOf, if_neg (by rw [List.getElem?_eq_getElem lt]; simpa using hc)]
      rfl
    exact ⟨key (i + 1) lt r1 fun _ => e1, lt, by omega⟩
theorem step_lone {u : List Nat} {j i : Nat} (h : (stO u)[j]? = some i) (l : lone u i) : j + 1 = (stO u).length ∧ i + 1 = u.length ∧ (enO u)[j]? = some u.length := by
  obtain ⟨lt, ev, rk⟩ := st_rank h
  have hj : j < (stO u).length := (List.getElem?_eq_some_iff.mp h).1
  have e : i + 1 = u.length := by
    have := List.getElem?_eq_none_iff.mp l.2
    omega
  have n : j + 1 = (stO u).length := by rw [len_rank, ← e, frank_succ, ev, rk]; rfl
  refine ⟨n, e, ?_⟩
  rw [enO_get hj, n, List.getElem?_eq_none (Nat.le_refl _)]; rfl
def sgO (u : List Nat) (j : Nat) : List Nat := (u.drop ((stO u).getD j 0)).take ((enO u).getD j 0 - (stO u).getD j 0)
def signsO (u : List Nat) : List (List Nat) := (List.range (stO u).length).map (sgO u)
theorem drop_take2 {u : List Nat} {i : Nat} : (∀ c, u[i]? = some c → (u.drop i).take 1 = [c]) ∧ (∀ c d, u[i]? = some c → u[i + 1]? = some d → (u.drop i).take 2 = [c, d]) := by
  refine ⟨fun c h => ?_, fun c d h h2 => ?_⟩
  · have lt := (List.getElem?_eq_some_iff.mp h).1
    rw [List.drop_eq_getElem_cons lt]
    simp [(List.getElem?_eq_some_iff.mp h).2]
  · have lt := (List.getElem?_eq_some_iff.mp h).1
    have lt2 := (List.getElem?_eq_some_iff.mp h2).1
    rw [List.drop_eq_getElem_cons lt, List.drop_eq_getElem_cons lt2]
    simp [(List.getElem?_eq_some_iff.mp h).2, (List.getElem?_eq_some_iff.mp h2).2]
theorem sg_at {u : List Nat} {j i : Nat} (h : (stO u)[j]? = some i) (nl : ¬ lone u i) : nxSign u i = some (sgO u j) ∧ sgO u j ≠ [92] ∧ (sgO u j).length = nxIdx u i - i := by
  obtain ⟨e1, e2, e3⟩ := step_at h nl
  have lt := (st_rank h).1
  have hs : (stO u).getD j 0 = i := by rw [List.getD_eq_getElem?_getD, h]; rfl
  have he : (enO u).getD j 0 = nxIdx u i := by rw [List.getD_eq_getElem?_getD, e1]; rfl
  have el : sgO u j = (u.drop i).take (nxIdx u i - i) := by unfold sgO; rw [hs, he]
  have ll : (sgO u j).length = nxIdx u i - i := by rw [el, List.length_take, List.length_drop]; omega
  refine ⟨?_, ?_, ll⟩
  · rw [el]
    unfold nxSign nxIdx
    have hi : u[i]? = some u[i] := List.getElem?_eq_getElem lt
    rw [hi]
    dsimp only
    by_cases hc : u[i] = 92
    · rw [if_pos hc, if_pos hc]
      cases q1 : u[i + 1]? with
      | none => exact absurd ⟨by rw [hi, hc], q1⟩ nl
      | some d =>
        dsimp only
        rw [show i + 2 - i = 2 by omega, drop_take2.2 _ d hi q1, hc]
    · rw [if_neg hc, if_neg hc, show i + 1 - i = 1 by omega, drop_take2.1 _ hi]
  · intro z
    have hi : u[i]? = some u[i] := List.getElem?_eq_getElem lt
    have l1 : nxIdx u i - i = 1 := by rw [← ll, z]; rfl
    rw [el, l1, drop_take2.1 _ hi] at z
    injection z with z
    have : nxIdx u i ≠ i + 1 := by
      unfold nxIdx
      rw [hi]; dsimp only
      rw [if_pos z]
      cases q1 : u[i + 1]? with
      | none => dsimp only; omega
      | some d => dsimp only; omega
    omega
theorem sg_lone {u : List Nat} {j i : Nat} (h : (stO u)[j]? = some i) (l : lone u i) : sgO u j = [92] := by
  obtain ⟨e0, e2, e1⟩ := step_lone h l
  have hs : (stO u).getD j 0 = i := by rw [List.getD_eq_getElem?_getD, h]; rfl
  have he : (enO u).getD j 0 = u.length := by rw [List.getD_eq_getElem?_getD, e1]; rfl
  unfold sgO
  rw [hs, he, ← e2, show i + 1 - i = 1 by omega]
  exact drop_take2.1 _ l.1
theorem st_first {u : List Nat} (h : u ≠ []) : (stO u)[0]? = some 0 := by
  have lt : 0 < u.length := List.length_pos_iff.mpr h
  exact filt_get (evn u) lt rfl
theorem st_nil : stO [] = [] := rfl
def loneDec (u : List Nat) (i : Nat) : Decidable (lone u i) := by unfold lone; exact inferInstance
end Mine
end
section
open PySem PySem.W PySem.Calls PyProof.Rows
set_option maxRecDepth 100000
namespace Mine
theorem fill19h : PySem.Challenge.rw_dw0053_01 = PySem.Challenge.rw_dw0053_01 ∧ ∀ P, Mine.hd.heap_39 P = Mine.hd.heap_39 P := by
  k_fill
  exact ⟨rfl, fun _ => rfl⟩
def AllNe (d : Addr) : List (Addr × Obj) → Prop
  | [] => True
  | p :: r => @Ne Nat p.1 d ∧ AllNe d r
theorem allNe_of {d : Addr} : ∀ {l : List (Addr × Obj)}, (∀ p ∈ l, p.1 ≠ d) → AllNe d l
  | [], _ => trivial
  | p :: _, h => ⟨h p (.head _), allNe_of fun q hq => h q (.tail _ hq)⟩
theorem allNe_gt {d : Addr} : ∀ {l : List (Addr × Obj)}, (∀ p ∈ l, p.1 < d) → AllNe d l
  | [], _ => trivial
  | p :: _, h => ⟨Nat.ne_of_lt (h p (.head _)), allNe_gt fun q hq => h q (.tail _ hq)⟩
/-- the bounds that every step of the reading wants -/
theorem sgb {c i l n k : Nat} (e3 : c ≤ n) (e4 : l = c - i) (e5 : i < c) (tl : n = k) (hk : k ≤ 100) : c < 900 ∧ 0 < l ∧ l < 900 ∧ ((c : Int) - (l : Int)) = (i : Int) ∧ c ≤ k ∧ i ≤ k := by omega
theorem ekL {y i j : Nat} (hj : j = y - 1 - i) (hi : i < y) : ((y : Int) - 1 + (i : Int) * (-1)) = (j : Int) := by omega
theorem hjL {y i j n : Nat} (hj : j = y - 1 - i) (hi : i < y) (e : y = n) : j < n := by omega
theorem Kept.all {h h' : Heap} (k : Kept [] [] h h') {b : Addr} {o : Obj} (e : h.get? b = some o) : h'.get? b = some o := k.get e (by simp) (by simp)
section
variable {prog : Program} {w : World} {A : Around} {E : Value → Shared → Prop} {s : Shared} {h₀ : Heap} {L l b : Addr} {m : Str → Option Value} {news : List (Addr × Obj)} {value slice : PySem.Expr} {vs us zs : List Value} {vl vu : Value} {lo hi : Option Int} {n n2 : Nat} {Q : Value → Shared → Prop}
theorem sliceL (F : Fr h₀ L s.heap m) (N : News h₀ L s.heap news) (hm : (l, listOf vs.toArray n) ∈ news) (hz : vs.length ≤ 1000) (pl : IsPart vl lo) (pu : IsPart vu hi) (e : kms_pick vs lo hi = zs)
    (h : ∀ D h', Fr h₀ L h' m → News h₀ L h' ((D, listOf zs.toArray 0) :: news) → (∀ p ∈ news, p.1 < D) → Q (.ref D) { s with heap := h' })
    (hs : subscripted slice false (.ref l) (.ref s.heap.objs.size) = operate [.ref s.heap.objs.size, .ref l] (getItem (.ref l) (.ref s.heap.objs.size))) (ht : ∀ r, letTemporaryGo value (.ref l) r = pure ()) :
    wpAny (model prog w) A (subscriptTail value slice (.ref l) (.ref s.heap.objs.size)) Q E { s with heap := s.heap.push { cls := .type "slice", data := .fields #[vl, vu, .none] } } :=
  kms_slice_lit F N (its := vs.toArray) ⟨_, (N _ hm).1, rfl, n, rfl⟩ pl pu (by simpa using e) h hs ht (by rw [List.size_toArray, sizeLine_eq]; omega)
theorem addL (F : Fr h₀ L s.heap m) (N : News h₀ L s.heap news) (hm : (l, listOf vs.toArray n) ∈ news) (hm2 : (b, listOf us.toArray n2) ∈ news) (hz : vs.length + us.length ≤ 1000)
    (h : ∀ D h', Fr h₀ L h' m → News h₀ L h' ((D, listOf (vs ++ us).toArray 0) :: news) → (∀ p ∈ news, p.1 < D) → Q (.ref D) { s with heap := h' }) :
    wpAny (model prog w) A (binaryOp .Add (.ref l) (.ref b)) Q E s :=
  kmk_add_lit F N (its := vs.toArray) (its2 := us.toArray) ⟨_, (N _ hm).1, rfl, n, rfl⟩ ⟨_, (N _ hm2).1, rfl, n2, rfl⟩ (by simp) h (by rw [sizeLine_eq]; simp; omega)
theorem addI {ns ms : List Int} (F : Fr h₀ L s.heap m) (N : News h₀ L s.heap news) (hm : (l, listOf vs.toArray n) ∈ news) (hm2 : (b, listOf us.toArray n2) ∈ news) (hz : vs.length + us.length ≤ 1000) (hi : IntsAre vs ns) (hj : IntsAre us ms)
    (h : ∀ D h', Fr h₀ L h' m → News h₀ L h' ((D, listOf (vs ++ us).toArray 0) :: news) → (∀ p ∈ news, p.1 < D) → IntsAre (vs ++ us) (ns ++ ms) → Q (.ref D) { s with heap := h' }) :
    wpAny (model prog w) A (binaryOp .Add (.ref l) (.ref b)) Q E s := addL F N hm hm2 hz fun D h' F' N' l1 => h D h' F' N' l1 (hi.append hj)
theorem strs_get : ∀ {vs : List Value} {xs : List Str}, StrsAre vs xs → ∀ j (h1 : j < vs.length) (h2 : j < xs.length), ∃ t, vs[j] = .str xs[j] t
  | _, _, .cons y t h, 0, _, _ => ⟨t, rfl⟩
  | _, _, .cons y t h, j + 1, h1, h2 => strs_get h j (Nat.lt_of_succ_lt_succ h1) (Nat.lt_of_succ_lt_succ h2)
  | _, _, .nil, _, h1, _ => nomatch h1
theorem strs_len : ∀ {vs : List Value} {xs : List Str}, StrsAre vs xs → vs.length = xs.length
  | _, _, .nil => rfl
  | _, _, .cons _ _ h => congrArg (· + 1) (strs_len h)
theorem all_eq {xs zs : List Str} (h : xs.length = zs.length) : ((List.range xs.length).all fun j => xs.getD j Str.empty == zs.getD j Str.empty) = decide (xs = zs) := by
  rw [Bool.eq_iff_iff, List.all_eq_true, decide_eq_true_eq]
  constructor
  · intro q
    refine List.ext_getElem h fun j h1 h2 => ?_
    have := q j (List.mem_range.mpr h1)
    rw [beq_iff_eq] at this
    simpa [List.getD, h1, h2] using this
  · rintro rfl j _
    exact beq_self_eq_true _
section
variable {xs zs' : List Str}
theorem eqAt_strs {A : Around} {s : Shared} {vs us : List Value} {xs zs : List Str} (hi : StrsAre vs xs) (hj : StrsAre us zs) (h : xs.length = zs.length) : ∀ j (h1 : j < vs.toArray.size) (h2 : j < us.toArray.size), SeqAt.EqAt A s vs.toArray[j] us.toArray[j] (xs.getD j Str.empty == zs.getD j Str.empty) := by
  intro j h1 h2
  have l1 : j < xs.length := by rw [← strs_len hi]; simpa using h1
  have l2 : j < zs.length := by rw [← strs_len hj]; simpa using h2
  obtain ⟨t1, e1⟩ := strs_get hi j (by simpa using h1) l1
  obtain ⟨t2, e2⟩ := strs_get hj j (by simpa using h2) l2
  have q1 : xs.getD j Str.empty = xs[j] := by simp [List.getD, l1]
  have q2 : zs.getD j Str.empty = zs[j] := by simp [List.getD, l2]
  rw [q1, q2]
  have : SeqAt.EqAt A s (.str xs[j] t1) (.str zs[j] t2) (xs[j] == zs[j]) := SeqAt.EqAt.str_str _ _ _ _
  simpa [e1, e2] using this
theorem eqStrs (N : News h₀ L s.heap news) (hm : (l, listOf vs.toArray n) ∈ news) (hm2 : (b, listOf us.toArray n2) ∈ news) (hi : StrsAre vs xs) (hj : StrsAre us zs') (hu : A.units < cLine)
    (h : Q (.bool (decide (xs = zs'))) s) : wpAny (model prog w) A (compareOp .Eq (.ref l) (.ref b)) Q E s := by
  have hl : s.heap.IsList l vs.toArray := ⟨_, (N _ hm).1, rfl, n, rfl⟩
  have hb : s.heap.IsList b us.toArray := ⟨_, (N _ hm2).1, rfl, n2, rfl⟩
  by_cases e : xs.length = zs'.length
  · refine SeqAt.eq_listAt hl hb (by simp [strs_len hi, strs_len hj, e]) hu (eqAt_strs hi hj e) ?_
    rw [List.size_toArray, strs_len hi, all_eq e]
    exact h
  · refine SeqAt.eq_list_lengthsAt hl hb (by simp [strs_len hi, strs_len hj, e]) hu ?_
    rw [show decide (xs = zs') = false from decide_eq_false fun z => e (by rw [z])] at h
    exact h
theorem neStrs (N : News h₀ L s.heap news) (hm : (l, listOf vs.toArray n) ∈ news) (hm2 : (b, listOf us.toArray n2) ∈ news) (hi : StrsAre vs xs) (hj : StrsAre us zs') (hu : A.units < cLine)
    (h : Q (.bool (!decide (xs = zs'))) s) : wpAny (model prog w) A (compareOp .NotEq (.ref l) (.ref b)) Q E s := by
  have hl : s.heap.IsList l vs.toArray := ⟨_, (N _ hm).1, rfl, n, rfl⟩
  have hb : s.heap.IsList b us.toArray := ⟨_, (N _ hm2).1, rfl, n2, rfl⟩
  by_cases e : xs.length = zs'.length
  · refine SeqAt.RcNeAt.lists hl hb (by simp [strs_len hi, strs_len hj, e]) hu (eqAt_strs hi hj e) prog w E Q ?_
    rw [List.size_toArray, strs_len hi, all_eq e]
    exact h
  · refine SeqAt.RcNeAt.lists_lengths hl hb (by simp [strs_len hi, strs_len hj, e]) hu prog w E Q ?_
    rw [show decide (xs = zs') = false from decide_eq_false fun z => e (by rw [z])] at h
    exact h
end
theorem lenL (F : Fr h₀ L s.heap m) (N : News h₀ L s.heap news) (hm : (l, listOf vs.toArray n) ∈ news) (hz : vs.length ≤ 1000) (h : ∀ t' k, Q (.int (vs.length : Int) t') { s with toks := k }) : wpAny (model prog w) A (call (.builtin "len") [.ref l]) Q E s := by
  have hl : s.heap.IsList l vs.toArray := ⟨_, (N _ hm).1, rfl, n, rfl⟩
  refine len_list hl (by rw [List.size_toArray]; omega) ?_
  rw [List.size_toArray]
  exact h _ _
theorem pick_from (l : List Value) : kms_pick l (some 1) none = l.drop 1 := by
  unfold kms_pick kms_lo kms_hi
  simp only [show ¬ ((1 : Int) < 0) by decide, if_false, show (1 : Int).toNat = 1 from rfl]
  cases l with
  | nil => rfl
  | cons a r =>
    have e : min 1 (a :: r).length = 1 := by simp
    rw [e]
    exact List.take_of_length_le (by simp)
theorem pick_last (l : List Value) : kms_pick l (some (-1)) none = l.drop (l.length - 1) := by
  unfold kms_pick kms_lo kms_hi
  simp only [show ((-1 : Int) < 0) by decide, if_true, show (- (-1 : Int)).toNat = 1 from rfl]
  exact List.take_of_length_le (by simp)
theorem pick_but2 (l : List Value) : kms_pick l none (some (-2)) = l.take (l.length - 2) := by
  unfold kms_pick kms_lo kms_hi
  simp only [show ((-2 : Int) < 0) by decide, if_true, show (- (-2 : Int)).toNat = 2 from rfl]
  simp
end
section
variable {w : World} {mean : ExcName → Option Value} {mg mb : Str → Option Value} {base g : Heap} {A : Around} {E : Value → Shared → Prop} {Q : Value → Shared → Prop} {s : Shared} {L : Addr} {m : Str → Option Value} {news : List (Addr × Obj)} {T : Str} {tT : Tok}
theorem callStarts (hB : BaseOk w mean mg mb base) (st : base.StaysIn g) (F : Fr g L s.heap m) (N : News g L s.heap news) (hA : A.handled = none) (hroom : A.depth < recursionLimit) (hlen : T.length ≤ 100)
    (h : ∀ h' tk l vs n, Fr g L h' m → News g L h' ((l, listOf vs.toArray n) :: news) → AllNe l news → IntsAre vs (natI (startsOf T.cps.toList T.length)) → vs.length ≤ 100 → Q (.ref l) { s with heap := h', toks := tk }) :
    wpAny (model PySem.Challenge.rw_dw0053_01.row.prog w) A (call (.ref 144) [.str T tT]) Q E s := by
  obtain ⟨a0, d0, f0, gd0, u0⟩ := A
  dsimp only at hA hroom
  subst hA
  refine wpAny_call (startsC hB (fun b o e => F.keep _ _ (st _ _ e)) hroom hlen fun h' tk l vs n k e i nl => ?_)
  have F' : Fr g L h' m := F.keeps fun b o e => k.all e
  have gl : g.get? l = none := by
    cases q : g.get? l with
    | none => rfl
    | some o => rw [F.keep _ _ q] at nl; cases nl
  have lL : l ≠ L := fun z => by
    obtain ⟨o, _, _, ho, _⟩ := F.ns
    rw [← z, nl] at ho; cases ho
  refine h h' tk l vs n F' (fun p hp => ?_) (allNe_of fun p hp z => ?_) i ?_
  · rcases List.mem_cons.mp hp with rfl | hp
    · exact ⟨e, lL, gl⟩
    · exact ⟨k.all (N p hp).1, (N p hp).2⟩
  · have := (N p hp).1
    rw [z, nl] at this; cases this
  · rw [i.length]
    unfold natI startsOf
    rw [List.length_map]
    have := List.length_filter_le (fun k => runOf T.cps.toList k % 2 == 0) (List.range T.length)
    rw [List.length_range] at this
    omega
end
abbrev sS (u : List Nat) : List Str := (signsO u).map fun l => ⟨l.toArray⟩
theorem natI_get {l : List Nat} {j i : Nat} (h : l[j]? = some i) : (natI l)[j]? = some (i : Int) := by unfold natI; rw [List.getElem?_map, h]; rfl
theorem ends_eq (T : Str) : List.drop 1 (natI (startsOf T.cps.toList T.length)) ++ [(T.length : Int)] = natI (enO T.cps.toList) := by
  unfold enO stO natI
  rw [len_toList, List.map_append, List.map_drop]; rfl
theorem st_eq (T : Str) : natI (startsOf T.cps.toList T.length) = natI (stO T.cps.toList) := by rw [stO, len_toList]
theorem getD_at {l : List Nat} {j i : Nat} (h : l[j]? = some i) : l.getD j 0 = i := by rw [List.getD_eq_getElem?_getD, h]; rfl
theorem st_en {u : List Nat} {j i : Nat} (h : (stO u)[j]? = some i) : ∃ e, (enO u)[j]? = some e ∧ i < e ∧ e ≤ u.length := by
  rcases loneDec u i with nl | l
  · obtain ⟨a, b, c⟩ := step_at h nl
    exact ⟨_, a, c, b⟩
  · obtain ⟨a, b, c⟩ := step_lone h l
    exact ⟨_, c, by omega, Nat.le_refl _⟩
theorem sign_slice {T : Str} {j : Nat} (h : j < (stO T.cps.toList).length) : Txt.slice T (some ((natI (stO T.cps.toList)).getD j 0)) (some ((natI (enO T.cps.toList)).getD j 0)) = ⟨(sgO T.cps.toList j).toArray⟩ := by
  have hi : (stO T.cps.toList)[j]? = some (stO T.cps.toList)[j] := List.getElem?_eq_getElem h
  obtain ⟨e, he, lt, le⟩ := st_en hi
  have q1 : (natI (stO T.cps.toList)).getD j 0 = (((stO T.cps.toList)[j] : Nat) : Int) := by rw [List.getD_eq_getElem?_getD, natI_get hi]; rfl
  have q2 : (natI (enO T.cps.toList)).getD j 0 = (e : Int) := by rw [List.getD_eq_getElem?_getD, natI_get he]; rfl
  have q := slice_mid T q1 q2 (Nat.le_of_lt lt) (by rw [← len_toList]; exact le)
  unfold sgO
  rw [getD_at hi, getD_at he, ← q]
theorem carried_strs : ∀ {ys : List Value} {xs : List Str}, CarriedAll ys (xs.map PyData.str) → StrsAre ys xs
  | [], [], _ => .nil
  | _ :: _, [], h => nomatch h
  | [], _ :: _, h => nomatch h
  | v :: vs, x :: xs, h => by
    cases h with
    | cons a b =>
      cases a
      exact .cons _ _ (carried_strs b)
theorem carried_signs {T : Str} {n : Nat} {ys : List Value} (hn : n = (stO T.cps.toList).length) (h : CarriedAll ys (((rangeInts 0 1 n).filter fun _ => true).map fun k => PyData.str (Txt.slice T (some ((natI (startsOf T.cps.toList T.length)).getD k.toNat 0)) (some ((List.drop 1 (natI (startsOf T.cps.toList T.length)) ++ [(T.length : Int)]).getD k.toNat 0))))) : StrsAre ys (sS T.cps.toList) := by
  refine carried_strs ?_
  have e : ((rangeInts 0 1 n).filter fun _ => true).map (fun k => PyData.str (Txt.slice T (some ((natI (startsOf T.cps.toList T.length)).getD k.toNat 0)) (some ((List.drop 1 (natI (startsOf T.cps.toList T.length)) ++ [(T.length : Int)]).getD k.toNat 0)))) = (sS T.cps.toList).map PyData.str := by
    rw [ends_eq, st_eq]
    unfold sS signsO rangeInts
    rw [List.filter_eq_self.mpr (fun _ _ => rfl), List.map_map, List.map_map, List.map_map, hn]
    refine List.map_congr_left fun j hj => ?_
    have lt := List.mem_range.mp hj
    simp only [Function.comp_apply]
    rw [show ((0 : Int) + (j : Int) * 1).toNat = j by omega, sign_slice lt]
  rw [← e]; exact h
theorem clsNameX {w : World} {mean : ExcName → Option Value} {mg mb : Str → Option Value} {base : Heap} {cn : Str} {cs : Scope} {L a : Addr} {ccd : Value} {cl : List (Str × Addr)} (hB : BaseOk w mean mg mb base) (hk : cs.kind = .function) (hx : (envX cn cs L a ccd cl).kindOf (Str.ofString "PatternError") = some .globalImplicit) : ClsName w base (envX cn cs L a ccd cl) L := by
  intro np m A g' s' Q E st' F' q
  have X' := hB.X.keeps st'
  have T' : TopM mean mg mb g' := hB.T.keeps st'
  exact nameX_K F' X' (by k_asm) (by k_is) q hk hx
section
variable {w : World} {mean : ExcName → Option Value} {mg mb : Str → Option Value} {base g : Heap} {A : Around} {E : Value → Shared → Prop} {Q : Value → Shared → Prop} {s : Shared} {L : Addr} {m : Str → Option Value} {news : List (Addr × Obj)} {T : Str} {tT : Tok} {gv : Value} {i : Nat} {e de a0 tb ia : Addr} {pk : PeP} {tm : Tok}
theorem callFits (hB : BaseOk w mean mg mb base) (st : base.StaysIn g) (F : Fr g L s.heap m) (N : News g L s.heap news) (hroom : A.depth < recursionLimit) (hun : A.units + 10 < cLine) (hlen : T.length ≤ 100) (hi : T.length = i + 1) (hgv : handedIn gv = true)
    (he : (e, peO de a0 tb ia) ∈ news) (hde : (de, peD w.params pk gv T.cps.toList i) ∈ news) (ha0 : (a0, tupO [.str (peMsg T.cps.toList i) tm]) ∈ news)
    (h : ∀ h' tk, Fr g L h' m → News g L h' news → Q (.bool true) { s with heap := h', toks := tk }) :
    wpAny (model PySem.Challenge.rw_dw0053_01.row.prog w) A (call (.ref 151) [.ref e, gv, .str T tT]) Q E s := by
  obtain ⟨b0, d0, f0, gd0, u0⟩ := A
  dsimp only at hroom hun
  have bn : ∀ {p : Addr × Obj}, p ∈ news → base.get? p.1 = none := fun {p} hp => by
    cases q : base.get? p.1 with
    | none => rfl
    | some o => have := st _ _ q; rw [(N p hp).2.2] at this; cases this
  refine wpAny_call (fitsC hB (fun b o e => F.keep _ _ (st _ _ e)) hroom hun hlen hi hgv (N _ he).1 (N _ hde).1 (N _ ha0).1 (bn he) (bn hde) (bn ha0) fun h' tk k => ?_)
  exact h h' tk (F.keeps fun b o e => k.all e) fun p hp => ⟨k.all (N p hp).1, (N p hp).2⟩
end
section
variable {w : World} {mean : ExcName → Option Value} {mg mb : Str → Option Value} {base g0 g : Heap} {A : Around} {Q : Value → Shared → Prop} {s s0 : Shared} {x dx L : Addr} {env : Env} {outer : List Env} {m : Str → Option Value} {news rest : List (Addr × Obj)}
  {ist gv nx : Value} {T : Str} {i : Nat} {hd : Option Value} {kk : TkP} {J : (Str → Option Value) → List (Addr × Obj) → Prop}
/-- Tokenizer(given) raises -/
theorem callTokR (TI : TokInit w gv ist T) (hB : BaseOk w mean mg mb base) (a : At base outer L g0 g A env hd s m news) (hroom : A.depth + 4 < recursionLimit) (hs : ∃ h0 tk0, s = { s0 with heap := h0, toks := tk0 }) (hl : lone T.cps.toList 0) (hJ : J m news) :
    wpAny (model PySem.Challenge.rw_dw0053_01.row.prog w) A (call (.ref 133) [gv]) Q (RaisedPE w base outer L g0 gv T.cps.toList 0 hd s0 J) s :=
  callTok TI hB a hroom (fun nl => (nl hl).elim) fun _ _ _ _ ld => raisedNew a hs ld hJ
/-- source.get() raises -/
theorem callGetR (V : GivOk w gv T) (hB : BaseOk w mean mg mb base) (a : At base outer L g0 g A env hd s m news) (off : Off x dx news rest) (hx : (x, instObj 133 dx) ∈ news) (hdx : (dx, tkD kk ist gv T (i : Int) nx) ∈ news)
    (hnx : handedIn nx = true) (hi : i ≤ T.length) (hs : ∃ h0 tk0, s = { s0 with heap := h0, toks := tk0 }) (hl : lone T.cps.toList i)
    (hJ : ∀ kk, J m ((x, instObj 133 dx) :: (dx, tkD kk ist gv T (i : Int) nx) :: rest)) :
    wpAny (model PySem.Challenge.rw_dw0053_01.row.prog w) A (call (.ref 79) [.ref x]) Q (RaisedPE w base outer L g0 gv T.cps.toList i hd s0 J) s :=
  callGet V hB a off hx hdx hnx hi (fun nl => (nl hl).elim) fun _ _ _ _ tt ld => raisedTok a hs off hx hdx tt ld hJ
/-- source.match(next) raises -/
theorem callMatchR {z zc : Str} {tz tc : Tok} (V : GivOk w gv T) (hB : BaseOk w mean mg mb base) (a : At base outer L g0 g A env hd s m news) (off : Off x dx news rest) (hx : (x, instObj 133 dx) ∈ news) (hdx : (dx, tkD kk ist gv T (i : Int) (.str z tz)) ∈ news)
    (hz : (zc == z) = true) (hi : i ≤ T.length) (hs : ∃ h0 tk0, s = { s0 with heap := h0, toks := tk0 }) (hl : lone T.cps.toList i)
    (hJ : ∀ kk, J m ((x, instObj 133 dx) :: (dx, tkD kk ist gv T (i : Int) (.str z tz)) :: rest)) :
    wpAny (model PySem.Challenge.rw_dw0053_01.row.prog w) A (call (.ref 72) [.ref x, .str zc tc]) Q (RaisedPE w base outer L g0 gv T.cps.toList i hd s0 J) s :=
  callMatchEq V hB a off hx hdx hz hi (fun nl => (nl hl).elim) fun _ _ _ _ tt ld => raisedTok a hs off hx hdx tt ld hJ
end
theorem nameGone {M : Model} {A : Around} {E : Value → Shared → Prop} {g : Heap} {env : Env} {L : Addr} {m : Str → Option Value} {news : List (Addr × Obj)} {s : Shared} {n : Str} {pos : Pos} {Q : Unit → Shared → Prop} (F : Fr g L s.heap m) (N : News g L s.heap news) (hL : env.locals = L) (hl : env.kindOf n = some .local)
    (hp : (env.scope.kind == .class || (env.scope.kind == .module && env.locals != env.globals)) = false)
    (h : ∀ h' v tk, Fr g L h' (fun x => if x = n then v else m x) → News g L h' news → Q () { s with heap := h', toks := tk }) :
    wpAny M A (do bindName env n .none; unbindBehindTheSuite env n pos) Q E s := by
  subst hL
  exact wpAny_nameGoes_keeps hl F.ns hp fun h' v hn hs => h h' v _ (F.set hn hs) (N.set hs)
inductive TEnd (base : Heap) (outer : List Env) (L : Addr) (g0 : Heap) (s : Shared) (m : Str → Option Value) (J : List (Addr × Obj) → Prop) (s' : Shared) : Prop
  | mk (g h : Heap) (tk : Nat) (rest : List (Addr × Obj)) (e : s' = { s with heap := h, toks := tk }) (G : Gnd base outer L g0 g h m rest) (j : J rest) : TEnd base outer L g0 s m J s'
def TurnG (base : Heap) (outer : List Env) (L : Addr) (g0 : Heap) (s : Shared) (m : Str → Option Value) (J : List (Addr × Obj) → Prop) (Q : Flow → Shared → Prop) (f : Flow) (s' : Shared) : Prop :=
  match f with
  | .ret v => Q (.ret v) s'
  | .brk => Q .next s'
  | _ => TEnd base outer L g0 s m J s'
inductive WInv (base : Heap) (outer : List Env) (L : Addr) (g0 : Heap) (s : Shared) (m : Str → Option Value) (J : Nat → List (Addr × Obj) → Prop) (n k : Nat) (s' : Shared) : Prop
  | mk (i : Nat) (g' h : Heap) (tk : Nat) (rest : List (Addr × Obj)) (e : s' = { s with heap := h, toks := tk }) (G : Gnd base outer L g0 g' h m rest) (j : J i rest) (hi : i ≤ n) (hk : k = n - i) : WInv base outer L g0 s m J n k s'
/-- a while over the ground, of n turns -/
theorem whileG {prog : Program} {w : World} {A : Around} {E : Value → Shared → Prop} {Q : Flow → Shared → Prop} {s : Shared} {env : Env} {base g0 g : Heap} {outer : List Env} {L : Addr} {m : Str → Option Value} {news : List (Addr × Obj)} {test : PySem.Expr} {body : List Stmt} {pos : Pos} {n : Nat} (J : Nat → List (Addr × Obj) → Prop)
    (G : Gnd base outer L g0 g s.heap m news) (hj : J 0 news)
    (turn : ∀ i g' h tk rest, i < n → J i rest → Gnd base outer L g0 g' h m rest →
      wpAny (model prog w) A (isTrue test env (eval test env)) (fun b s₂ => if b = true then wpAny (model prog w) A (execs body env) (TurnG base outer L g0 s m (J (i + 1)) Q) E s₂ else Q .next s₂) E { s with heap := h, toks := tk })
    (last : ∀ g' h tk rest, J n rest → Gnd base outer L g0 g' h m rest →
      wpAny (model prog w) A (isTrue test env (eval test env)) (fun b s₂ => if b = true then wpAny (model prog w) A (execs body env) (fun _ _ => False) E s₂ else Q .next s₂) E { s with heap := h, toks := tk })
    (hE : PassesOwn (model prog w) A env E) :
    wpAny (model prog w) A (exec (.While test body [] pos) env) Q E s := by
  refine wpAny_While (codeAny_whileLoop (WInv base outer L g0 s m J n) ?_ n ⟨0, g, s.heap, s.toks, news, rfl, G, hj, Nat.zero_le _, by omega⟩)
  rintro k s' ⟨i, g', h, tk, rest, rfl, Gi, hJ, hi, rfl⟩
  by_cases hlt : i < n
  · refine wpAny_mono (turn i g' h tk rest hlt hJ Gi) (fun b s₂ h₂ => ?_) hE
    cases b with
    | false =>
      simp only [Bool.false_eq_true, if_false] at h₂ ⊢
      exact wpAny_execs_nil h₂
    | true =>
      simp only [if_true] at h₂ ⊢
      refine wpAny_mono h₂ (fun f s₃ h₃ => ?_) hE
      cases f with
      | ret v => exact h₃
      | brk => exact h₃
      | next =>
        obtain ⟨g3, h3, tk3, rest3, e3, G3, J3⟩ := h₃
        exact ⟨n - (i + 1), by omega, i + 1, g3, h3, tk3, rest3, e3, G3, J3, hlt, rfl⟩
      | cont =>
        obtain ⟨g3, h3, tk3, rest3, e3, G3, J3⟩ := h₃
        exact ⟨n - (i + 1), by omega, i + 1, g3, h3, tk3, rest3, e3, G3, J3, hlt, rfl⟩
  · have e : i = n := by omega
    subst e
    refine wpAny_mono (last g' h tk rest hJ Gi) (fun b s₂ h₂ => ?_) hE
    cases b with
    | false =>
      simp only [Bool.false_eq_true, if_false] at h₂ ⊢
      exact wpAny_execs_nil h₂
    | true =>
      simp only [if_true] at h₂ ⊢
      exact wpAny_mono h₂ (fun f s₃ h₃ => h₃.elim) hE
section
variable {w : World} {mean : ExcName → Option Value} {mg mb : Str → Option Value} {base g0 g : Heap} {A : Around} {E Q : Value → Shared → Prop} {s s0 : Shared} {x dx L : Addr} {env : Env} {outer : List Env} {m : Str → Option Value} {news rest : List (Addr × Obj)}
  {ist gv nx : Value} {T : Str} {i : Nat} {hd : Option Value} {kk : TkP}
theorem callTokN (TI : TokInit w gv ist T) (hB : BaseOk w mean mg mb base) (a : At base outer L g0 g A env hd s m news) (hroom : A.depth + 4 < recursionLimit) (hl : ¬ lone T.cps.toList 0)
    (h : ∀ nx' x dx, NxVal (nxSign T.cps.toList 0) nx' → (∀ p ∈ news, p.1 < dx) → dx < x → TokPost base outer L g0 m news x dx ist gv T (nxIdx T.cps.toList 0) nx' fun h' tk => Q (.ref x) { s with heap := h', toks := tk }) :
    wpAny (model PySem.Challenge.rw_dw0053_01.row.prog w) A (call (.ref 133) [gv]) Q E s :=
  callTok TI hB a hroom (fun _ => h) fun _ _ _ l _ => (hl l).elim
theorem callGetN (V : GivOk w gv T) (hB : BaseOk w mean mg mb base) (a : At base outer L g0 g A env hd s m news) (off : Off x dx news rest) (hx : (x, instObj 133 dx) ∈ news) (hdx : (dx, tkD kk ist gv T (i : Int) nx) ∈ news)
    (hnx : handedIn nx = true) (hi : i ≤ T.length) (hl : ¬ lone T.cps.toList i)
    (h : ∀ nx', NxVal (nxSign T.cps.toList i) nx' → TokPost base outer L g0 m rest x dx ist gv T (nxIdx T.cps.toList i) nx' fun h' tk => Q nx { s with heap := h', toks := tk }) :
    wpAny (model PySem.Challenge.rw_dw0053_01.row.prog w) A (call (.ref 79) [.ref x]) Q E s :=
  callGet V hB a off hx hdx hnx hi (fun _ => h) fun _ _ _ l _ _ => (hl l).elim
theorem callMatchN {z zc : Str} {tz tc : Tok} (V : GivOk w gv T) (hB : BaseOk w mean mg mb base) (a : At base outer L g0 g A env hd s m news) (off : Off x dx news rest) (hx : (x, instObj 133 dx) ∈ news) (hdx : (dx, tkD kk ist gv T (i : Int) (.str z tz)) ∈ news)
    (hz : (zc == z) = true) (hi : i ≤ T.length) (hl : ¬ lone T.cps.toList i)
    (h : ∀ nx', NxVal (nxSign T.cps.toList i) nx' → TokPost base outer L g0 m rest x dx ist gv T (nxIdx T.cps.toList i) nx' fun h' tk => Q (.bool true) { s with heap := h', toks := tk }) :
    wpAny (model PySem.Challenge.rw_dw0053_01.row.prog w) A (call (.ref 72) [.ref x, .str zc tc]) Q E s :=
  callMatchEq V hB a off hx hdx hz hi (fun _ => h) fun _ _ _ l _ _ => (hl l).elim
end
/-- where the source stands ahead of sign j -/
def cAt (u : List Nat) (j : Nat) : Nat := (enO u).getD j u.length
abbrev sgS (u : List Nat) (j : Nat) : Str := ⟨(sgO u j).toArray⟩
def NxAt (u : List Nat) (j : Nat) (nx : Value) : Prop := if j < (stO u).length then ∃ t, nx = .str (sgS u j) t else nx = .none
/-- the whole of what a step of the reading wants -/
theorem at_step {u : List Nat} {j i : Nat} (hnl : ∀ (j i : Nat), (stO u)[j]? = some i → ¬ lone u i) (h : (stO u)[j]? = some i) : nxSign u i = some (sgO u j) ∧ nxIdx u i = cAt u j ∧ cAt u j ≤ u.length ∧ (sgS u j).length = cAt u j - i ∧ i < cAt u j ∧ sgO u j ≠ [92] := by
  obtain ⟨a1, a2, a3⟩ := step_at h (hnl j i h)
  obtain ⟨b1, b2, b3⟩ := sg_at h (hnl j i h)
  have c : cAt u j = nxIdx u i := by unfold cAt; rw [List.getD_eq_getElem?_getD, a1]; rfl
  refine ⟨b1, c.symm, by rw [c]; exact a2, ?_, by rw [c]; exact a3, b2⟩
  rw [c, ← b3]
  show (sgO u j).toArray.size = _
  rw [List.size_toArray]
theorem c_next {u : List Nat} {j : Nat} (h : j + 1 < (stO u).length) : (stO u)[j + 1]? = some (cAt u j) := by
  have := enO_get (u := u) (j := j) (by omega)
  rw [List.getElem?_eq_getElem h] at this
  unfold cAt
  rw [List.getD_eq_getElem?_getD, this, List.getElem?_eq_getElem h]; rfl
theorem c_last {u : List Nat} {j : Nat} (h : j + 1 = (stO u).length) : cAt u j = u.length := by
  have := enO_get (u := u) (j := j) (by omega)
  have z : (stO u)[j + 1]? = none := List.getElem?_eq_none (by omega)
  rw [z] at this
  unfold cAt
  rw [List.getD_eq_getElem?_getD, this]; rfl
theorem c_end {u : List Nat} {j : Nat} (h : (stO u).length ≤ j) (hp : 0 < (stO u).length) : cAt u j = u.length := by
  unfold cAt
  rw [List.getD_eq_getElem?_getD, List.getElem?_eq_none (by rw [enO_len hp]; exact h)]; rfl
theorem st_zero {u : List Nat} (h : (stO u).length = 0) : u = [] := by
  by_cases q : u = []
  · exact q
  · have := (List.getElem?_eq_some_iff.mp (st_first q)).1
    omega
theorem c_end' {u : List Nat} {j : Nat} (h : (stO u).length ≤ j) : cAt u j = u.length := by
  by_cases q : 0 < (stO u).length
  · exact c_end h q
  · have := st_zero (u := u) (by omega)
    subst this
    unfold cAt
    rw [List.getD_eq_getElem?_getD]
    cases j with
    | zero => rfl
    | succ j =>
      have z : (enO [])[j + 1]? = none := List.getElem?_eq_none (by show 1 ≤ j + 1; omega)
      rw [z]; rfl
theorem nl_end (u : List Nat) : ¬ lone u u.length := fun l => by
  have := l.1
  rw [List.getElem?_eq_none (Nat.le_refl _)] at this; cases this
theorem nx_end (u : List Nat) : nxSign u u.length = none ∧ nxIdx u u.length = u.length := by
  unfold nxSign nxIdx
  rw [List.getElem?_eq_none (Nat.le_refl _)]
  exact ⟨rfl, rfl⟩
/-- the next sign is met -/
theorem nx_at {u : List Nat} (hnl : ∀ (j i : Nat), (stO u)[j]? = some i → ¬ lone u i) {j i : Nat} {nx : Value} (hi : (j < (stO u).length → (stO u)[j]? = some i) ∧ ((stO u).length ≤ j → i = u.length)) (h : NxVal (nxSign u i) nx) : NxAt u j nx ∧ nxIdx u i = cAt u j ∧ ¬ lone u i := by
  unfold NxAt
  by_cases q : j < (stO u).length
  · have a := at_step hnl (hi.1 q)
    rw [a.1] at h
    rw [if_pos q]
    exact ⟨h, a.2.1, hnl _ _ (hi.1 q)⟩
  · have e := hi.2 (by omega)
    subst e
    rw [(nx_end u).1] at h
    rw [if_neg q, c_end' (by omega)]
    exact ⟨h, (nx_end u).2, nl_end u⟩
theorem first_at {u : List Nat} : (0 < (stO u).length → (stO u)[0]? = some 0) ∧ ((stO u).length ≤ 0 → 0 = u.length) := by
  refine ⟨fun h => st_first fun z => ?_, fun h => ?_⟩
  · subst z; exact absurd h (by decide)
  · rw [st_zero (u := u) (by omega)]; rfl
theorem next_at {u : List Nat} {j : Nat} (h : j < (stO u).length) : (j + 1 < (stO u).length → (stO u)[j + 1]? = some (cAt u j)) ∧ ((stO u).length ≤ j + 1 → cAt u j = u.length) :=
  ⟨c_next, fun q => c_last (by omega)⟩
theorem sS_len (u : List Nat) : (sS u).length = (stO u).length := by unfold sS signsO; simp
theorem sS_get {u : List Nat} {j : Nat} (h : j < (stO u).length) : (sS u)[j]? = some (sgS u j) := by unfold sS signsO; simp [h]
theorem flag_no {u : List Nat} (hnl : ∀ (j i : Nat), (stO u)[j]? = some i → ¬ lone u i) {n : Nat} : decide (List.drop n (sS u) = [Str.ofString "\\"]) = false := by
  refine decide_eq_false fun z => ?_
  have h := congrArg (fun l => l[0]?) z
  simp only [List.getElem?_drop, Nat.add_zero, List.getElem?_cons_zero] at h
  have lt := (List.getElem?_eq_some_iff.mp h).1
  rw [sS_len] at lt
  rw [sS_get lt] at h
  have a := at_step hnl (List.getElem?_eq_getElem lt)
  refine a.2.2.2.2.2 ?_
  injection h with h
  have : sgS u n = ⟨#[92]⟩ := h.trans (by decide +kernel)
  injection this with this
  have := congrArg Array.toList this
  simpa using this
theorem itemN {prog : Program} {w : World} {A : Around} {E Q : Value → Shared → Prop} {s : Shared} {h₀ : Heap} {L l : Addr} {news : List (Addr × Obj)} {vs : List Value} {nl : Nat} {st : List Nat} {j i : Nat} {t : Tok} {value slice : PySem.Expr} (N : News h₀ L s.heap news) (hm : (l, listOf vs.toArray nl) ∈ news) (hi : IntsAre vs (natI st)) (hj : st[j]? = some i) (hs : j < 1000) (h : ∀ t, Q (.int (i : Int) t) s)
    (hsu : subscripted slice false (.ref l) (.int (j : Int) t) = operate [.ref l, .int (j : Int) t] (getItem (.ref l) (.int (j : Int) t)) := by with_unfolding_all rfl) :
    wpAny (model prog w) A (subscriptTail value slice (.ref l) (.int (j : Int) t)) Q E s := itemI ⟨_, (N _ hm).1, rfl, nl, rfl⟩ hi (natI_get hj) hs h hsu
theorem pos133 (P : Params) : plainGet (Mine.hd.heap_39 P) 133 "pos" = true ∧ hasDictIn (Mine.hd.heap_39 P) 133 = true ∧ ∃ p rest, findIn (Mine.hd.heap_39 P) (.ref 133) "pos" = some (some (.ref p)) ∧ specialIn (Mine.hd.heap_39 P) (.ref p) "__get__" = some (some (.builtin "property.__get__")) ∧ takesIn (Mine.hd.heap_39 P) (.ref p) = some true ∧ recIn (Mine.hd.heap_39 P) p "property" = some (.ref 100 :: rest) := ⟨by k_is, by k_is, _, _, by k_is, by k_is, by k_is, by k_is⟩
section
variable {w : World} {mean : ExcName → Option Value} {mg mb : Str → Option Value} {base g0 g : Heap} {A : Around} {E Q : Value → Shared → Prop} {s s0 : Shared} {x dx L : Addr} {env : Env} {outer : List Env} {m : Str → Option Value} {news rest : List (Addr × Obj)}
  {ist gv nx : Value} {T : Str} {i : Nat} {hd : Option Value} {kk : TkP}
theorem getPosS {expr : Bool} {z : Str} {tz : Tok} (hB : BaseOk w mean mg mb base) (a : At base outer L g0 g A env hd s m news) (off : Off x dx news rest) (hx : (x, instObj 133 dx) ∈ news) (hdx : (dx, tkD kk ist gv T (i : Int) (.str z tz)) ∈ news)
    (hi : i < 900) (hz : 0 < z.length) (hz9 : z.length < 900)
    (h : TokPost base outer L g0 m rest x dx ist gv T i (.str z tz) fun h' tk => ∀ t, Q (.int ((i : Int) - (z.length : Int)) t) { s with heap := h', toks := tk }) :
    wpAny (model PySem.Challenge.rw_dw0053_01.row.prog w) A (getAttr (.ref x) "pos" expr) Q E s := by
  obtain ⟨q1, q2, p, rs, q3, q4, q5, q6⟩ := pos133 w.params
  refine get_prop a.G.F (hB.X.keeps a.G.st) ⟨(a.G.N _ hx).1, rfl, rfl, (a.G.N _ hdx).1⟩ q1 q2 q3 q4 q5 q6 ?_
  refine callPosS (g0 := g0) (A := A.in1) (s := { s with toks := s.toks + 1 }) hB ⟨a.G, a.hA, a.hfr, a.hf, a.hkm, a.hnb, a.hroom, a.hhs⟩ off hx hdx hi hz hz9 ?_
  intro g' h' tk kk G t
  exact handed_on rfl (h g' h' tk kk G t)
end
theorem neStrsSame {prog : Program} {w : World} {A : Around} {E Q : Value → Shared → Prop} {s : Shared} {h₀ : Heap} {L l b : Addr} {news : List (Addr × Obj)} {vs us : List Value} {n n2 : Nat} {xs : List Str} (N : News h₀ L s.heap news) (hm : (l, listOf vs.toArray n) ∈ news) (hm2 : (b, listOf us.toArray n2) ∈ news) (hi : StrsAre vs xs) (hj : StrsAre us xs) (hu : A.units < cLine)
    (h : Q (.bool false) s) : wpAny (model prog w) A (compareOp .NotEq (.ref l) (.ref b)) Q E s :=
  neStrs N hm hm2 hi hj hu (by rw [decide_eq_true rfl]; exact h)
theorem en_at {u : List Nat} {j i : Nat} (hnl : ∀ (j i : Nat), (stO u)[j]? = some i → ¬ lone u i) (h : (stO u)[j]? = some i) : (enO u)[j]? = some (cAt u j) := by
  obtain ⟨a1, a2, a3⟩ := step_at h (hnl j i h)
  unfold cAt
  rw [List.getD_eq_getElem?_getD, a1]; rfl
theorem itemS {prog : Program} {w : World} {A : Around} {E Q : Value → Shared → Prop} {s : Shared} {h₀ : Heap} {L l : Addr} {news : List (Addr × Obj)} {vs : List Value} {nl : Nat} {xs : List Str} {j : Nat} {y : Str} {t : Tok} {value slice : PySem.Expr} (N : News h₀ L s.heap news) (hm : (l, listOf vs.toArray nl) ∈ news) (hi : StrsAre vs xs) (hj : xs[j]? = some y) (hs : j < 1000) (h : ∀ t, Q (.str y t) s)
    (hsu : subscripted slice false (.ref l) (.int (j : Int) t) = operate [.ref l, .int (j : Int) t] (getItem (.ref l) (.int (j : Int) t)) := by with_unfolding_all rfl) :
    wpAny (model prog w) A (subscriptTail value slice (.ref l) (.int (j : Int) t)) Q E s := by
  have hl : s.heap.IsList l vs.toArray := ⟨_, (N _ hm).1, rfl, nl, rfl⟩
  obtain ⟨t', ht⟩ := hi.at hj
  exact tail_any hl.typeIs slot_list_getitem.lookup (wpAny_getItem_list hl (by omega) (by omega) (by simpa using ht) (h t')) hsu
theorem strs_at : ∀ {vs : List Value} {xs : List Str} {i : Nat} {v : Value}, StrsAre vs xs → vs[i]? = some v → ∃ y t, v = .str y t
  | _, _, 0, _, .cons y t _, h => ⟨y, t, (Option.some.inj h).symm⟩
  | _, _, i + 1, _, .cons _ _ r, h => strs_at (i := i) r h
  | _, _, _, _, .nil, h => by simp at h
theorem mem4 {α : Type} {a b c d : α} {r : List α} : ∀ p ∈ a :: b :: c :: d :: r, p ∈ c :: d :: a :: b :: r := by
  intro p hp
  simp only [List.mem_cons] at hp ⊢
  rcases hp with h | h | h | h | h <;> simp [h]
theorem memR {α : Type} {a b c : α} {r : List α} : ∀ p ∈ b :: c :: r, p ∈ a :: b :: c :: r := by
  intro p hp
  exact List.mem_cons_of_mem _ hp
theorem mem3' {α : Type} {a b c : α} {r : List α} : ∀ p ∈ c :: a :: b :: r, p ∈ a :: b :: c :: r := by
  intro p hp
  simp only [List.mem_cons] at hp ⊢
  rcases hp with h | h | h | h <;> simp [h]
theorem notOne {z y : Str} (h : [y].contains z = false) : ¬ z = y := by
  intro q
  subst q
  simp at h
theorem mem5 {α : Type} {a b c d : α} {r : List α} : ∀ p ∈ c :: d :: a :: b :: r, p ∈ a :: b :: c :: d :: r := by
  intro p hp
  simp only [List.mem_cons] at hp ⊢
  rcases hp with h | h | h | h | h <;> simp [h]
theorem allNe_to {d : Addr} {l : List (Addr × Obj)} : AllNe d l → ∀ p ∈ l, p.1 ≠ d := by
  induction l with
  | nil => intro _ p hp; cases hp
  | cons q r ih =>
    intro h p hp
    rcases List.mem_cons.mp hp with rfl | hp
    · exact h.1
    · exact ih h.2 p hp
theorem off_same {x dx : Addr} : ∀ {r : List (Addr × Obj)}, AllNe x r → AllNe dx r → Off x dx r r
  | [], _, _ => .nil
  | _ :: _, h1, h2 => .keep h1.1 h2.1 (off_same h1.2 h2.2)
theorem off_rest {x dx : Addr} {o1 o2 : Obj} {r : List (Addr × Obj)} (h1 : AllNe x r) (h2 : AllNe dx r) : Off x dx ((x, o1) :: (dx, o2) :: r) r := .skipx (.skipd (off_same h1 h2))
theorem mem3 {α : Type} {a b c : α} {r : List α} : ∀ p ∈ a :: b :: c :: r, p ∈ c :: a :: b :: r := by
  intro p hp
  simp only [List.mem_cons] at hp ⊢
  rcases hp with h | h | h | h <;> simp [h]
theorem stopQ {α : Type} {M : Model} {A : Around} {t : Sem α} {Q : α → Shared → Prop} {E : Value → Shared → Prop} {s : Shared} (h : wpAny M A t (fun v s' => Stop (Q v s')) E s) : wpAny M A t Q E s := h
abbrev mSig (D : Addr) (gv : Value) : Str → Option Value := fun z => if z = Str.ofString "signs" then some (.ref D) else if z = Str.ofString "given" then some gv else none
end Mine
end
section
open PySem PySem.W PySem.Calls PyProof.Rows Mine
local macro_rules | `(tactic| wtm_at "m6") => `(tactic| (k_here; (with_reducible show wpAny _ _ (subscriptTail _ (PySem.Expr.Slice _ _ none _) (Value.ref _) (Value.ref _)) _ _ _); k_dflt (refine' sliceL (by k_asm) (by k_asm) (by k_mem) (by wtm_at "z") (by kmk_part) (by kmk_part) (by first | exact pick_from _ | exact pick_last _ | exact pick_but2 _) ?_ (by with_unfolding_all rfl) (by kmk_pure)); intro D' h' F' N' l1; (try k_lt l1); wtm_at "s"))
local macro_rules | `(tactic| wtm_at "m7") => `(tactic| (k_here; k_dflt (refine' eqStrs (by k_asm) (by k_mem) (by k_mem) (by first | exact StrsAre.drop' (by wtm_at "a") _ | exact StrsAre.take' (by wtm_at "a") _ | wtm_at "a") (by first | exact StrsAre.cons _ _ .nil | wtm_at "a") (by wtm_at "u") ?_); wtm_at "d"))
local macro_rules | `(tactic| wtm_at "m8") => `(tactic| (k_here; (with_reducible show wpAny _ _ (call (Value.ref 151) _) _ _ _); (refine' callFits (by wtm_at "a") (by wtm_at "a") (by k_asm) (by k_asm) (by k_room) (by wtm_at "u") (by wtm_at "a") ?i ?g (by k_mem) (by k_mem) (by k_mem) ?_; (case i => wtm_at "a"); (case g => wtm_at "a")); intro h' tk' F' N'; wtm_at "d"))
section
open PySem PySem.W PySem.Calls PyProof.Rows
set_option maxRecDepth 100000
namespace Mine
theorem fill20 : PySem.Challenge.rw_dw0053_01 = PySem.Challenge.rw_dw0053_01 ∧ ∀ P, Mine.hd.heap_39 P = Mine.hd.heap_39 P := by
  k_fill
  exact ⟨rfl, fun _ => rfl⟩
local macro_rules | `(tactic| k_handed) => `(tactic| wtm_at "a")
local macro_rules | `(tactic| k_room) => `(tactic| wtm_at "m0")
local macro_rules | `(tactic| walk_at "subscriptTail Name Slice ref ref") => `(tactic| wtm_at "m6")
local macro_rules | `(tactic| walk_at "compareOp Eq ref ref") => `(tactic| wtm_at "m7")
local macro_rules | `(tactic| walk_at "exec Try") => `(tactic| (refine stop ?_))
local macro_rules | `(tactic| walk_at "call ref") => `(tactic| (refine stop ?_))
local macro_rules | `(tactic| walk_at "call ref") => `(tactic| wtm_at "m8")
set_option maxHeartbeats 4000000 in
theorem readRest1 {w : World} {mean : ExcName → Option Value} {mg mb : Str → Option Value} {base g0 : Heap} {s : Shared} {T : Str} {tT : Tok} {gv ist : Value} {dp un : Nat} {outer : List Env} {gd : Option (List Code)}
    {oc : Value} {od : Option Addr} {osl : Array (Option Value)} {name qual : Str} {params : Arguments} {st1 st2 st3 : Stmt} {body : List Stmt} {scope : Scope} {dV kV doc pm cdv ct : Value} {an : Option Addr}
    (ho : (Mine.hd.heap_39 w.params).lookup 156 = some ⟨oc, od, .func (fnOf name qual params (st1 :: st2 :: st3 :: body) scope dV kV doc pm an cdv ct), osl⟩)
    {L' D le ls : Addr} {ys us vs : List Value} {nD ne ns : Nat} {oe os ot : Obj} {Q : Flow → Shared → Prop}
    (TI : TokInit w gv ist T) (V : GivOk w gv T)
    (hB : BaseOk w mean mg mb base) (st : base.StaysIn g0) (ff : g0.FunFrames base outer) (hroom : dp + 10 < recursionLimit) (hun : un + 20 < cLine) (hlen : T.length ≤ 100) (hnb : base.get? L' = none)
    (F : Fr g0 L' s.heap (mSig D gv)) (N : News g0 L' s.heap [(D, listOf ys.toArray nD), (le, listOf us.toArray ne), (ls, listOf vs.toArray ns), (L' + 1 + 1 + 1, oe), (L' + 1 + 1, os), (L' + 1, ot)])
    (l1 : @Ne Nat le D ∧ @Ne Nat ls D ∧ @Ne Nat (L' + 1 + 1 + 1) D ∧ @Ne Nat (L' + 1 + 1) D ∧ @Ne Nat (L' + 1) D) (l2 : @Ne Nat ls le ∧ @Ne Nat (L' + 1 + 1 + 1) le ∧ @Ne Nat (L' + 1 + 1) le ∧ @Ne Nat (L' + 1) le) (l3 : @Ne Nat (L' + 1 + 1 + 1) ls ∧ @Ne Nat (L' + 1 + 1) ls ∧ @Ne Nat (L' + 1) ls)
    (dt : ot.data = .cell (some (.str T tT))) (ds : os.data = .cell (some (.ref ls))) (de : oe.data = .cell (some (.ref le)))
    (hys : StrsAre ys (sS T.cps.toList)) (hus : IntsAre us (natI (enO T.cps.toList))) (hvs : IntsAre vs (natI (stO T.cps.toList)))
    (yz : ys.length ≤ 100) (uz : us.length ≤ 101) (vz : vs.length ≤ 100)
    (hone : T.cps.toList = [92])
    (hQ : ∀ g' h' tk m', KtsTurn (fsOf outer) g0 g' → Fr g' L' h' m' → Q (.ret (.bool true)) { s with heap := h', toks := tk }) :
    wpAny (model PySem.Challenge.rw_dw0053_01.row.prog w) (({ handled := none, depth := dp, frames := some outer, guards := gd, units := un } : Around).deeper (envOfC qual scope L' 156 cdv)) (execs body (envOfC qual scope L' 156 cdv)) Q (fun _ _ => False) s := by
  rw [show (Mine.hd.heap_39 w.params).lookup 156 = some _ from by k_is] at ho
  cases ho
  have hgv := V.handed
  have hlen1 : T.length = 0 + 1 := by rw [← len_toList, hone]; rfl
  have X' := hB.X.keeps st
  have T' : TopM mean mg mb g0 := hB.T.keeps st
  k_steps
  rename Fr _ L' _ _ => F1
  rename News _ L' _ _ => N1
  unfold Stop
  refine tryPE (L := L') (g0 := g0) (s0 := s) (gv := gv) (u := T.cps.toList) (i := 0) (hd := none) (J := fun m rest => m = (fun y => if y = Str.ofString "lone" then some (.bool (decide (List.drop (ys.length - 1) (sS T.cps.toList) = [Str.ofString "\\"]))) else mSig D gv y) ∧ rest = [(D, listOf ys.toArray nD), (le, listOf us.toArray ne), (ls, listOf vs.toArray ns), (L' + 1 + 1 + 1, oe), (L' + 1 + 1, os), (L' + 1, ot)])
    hB rfl rfl (by intro z; cases z) hnb rfl rfl rfl (clsNameX hB rfl rfl) ?body ?k
  case body =>
    k_steps
    rename Fr _ L' _ _ => F2
    rename News _ L' _ _ => N2
    unfold Stop
    have N3 : News g0 L' _ [(D, listOf ys.toArray nD), (le, listOf us.toArray ne), (ls, listOf vs.toArray ns), (L' + 1 + 1 + 1, oe), (L' + 1 + 1, os), (L' + 1, ot)] := fun p hp => N2 p (by first | exact hp | exact .tail _ hp | exact .tail _ (.tail _ hp))
    refine callTokR TI hB ⟨⟨F2, N3, ff, st, KtsTurn.refl⟩, rfl, rfl, rfl, (by intro z; cases z), hnb, (by k_room), .inl rfl⟩ (by k_room) ⟨_, _, rfl⟩ (by rw [hone]; exact ⟨rfl, rfl⟩) ⟨rfl, rfl⟩
  case k =>
    rintro g h tk m rest e ia de' a0 tb i0 it pk tm ⟨rfl, rfl⟩ hne G
    obtain ⟨F2, N2, ff2, st2, tn2⟩ := G
    have X2 := hB.X.keeps st2
    have T2 : TopM mean mg mb g := hB.T.keeps st2
    clear F1 N1 X' T'
    have hsS : sS T.cps.toList = [Str.ofString "\\"] := by rw [hone]; decide +kernel
    k_steps
    · unfold Stop
      refine' callFits ?hB ?st ?F ?N ?r ?u ?l ?i ?g ?e ?d ?a ?_
      case hB => with_reducible assumption
      case st => with_reducible assumption
      case F => k_asm
      case N => k_asm
      case r => k_room
      case u => first | (simp only [units_deeper]; omega) | (simp only [Around.mark_units, units_deeper]; omega)
      case l => with_reducible assumption
      case e => k_mem
      case d => k_mem
      case a => k_mem
      case i => with_reducible assumption
      case g => with_reducible assumption
      intro h5 tk5 F5 N5
      refine nameGone F5 N5 rfl rfl rfl fun h6 v6 tk6 F6 N6 => ?_
      exact hQ g h6 tk6 _ tn2 F6
end Mine
end
section
open PySem PySem.W PySem.Calls PyProof.Rows Mine
local macro_rules | `(tactic| wtm_at "m9") => `(tactic| (k_here; (with_reducible show wpAny _ _ (call _ [Value.ref _]) _ _ _); k_dflt (refine' lenL (by k_asm) (by k_asm) (by k_mem) (by wtm_at "z") ?_); intro t' tk'; wtm_at "d"))
local macro_rules | `(tactic| wtm_at "m10") => `(tactic| (k_here; k_dflt (refine' itemN (by k_asm) (by k_mem) (by wtm_at "a") (by wtm_at "a") (by omega) ?_); intro t'; wtm_at "d"))
local macro_rules | `(tactic| wtm_at "m11") => `(tactic| (k_here; k_dflt (refine' itemS (by k_asm) (by k_mem) (by wtm_at "a") (by wtm_at "a") (by omega) ?_); intro t'; wtm_at "d"))
local macro_rules | `(tactic| wtm_at "m12") => `(tactic| ((with_reducible show wpAny _ _ (getAttr _ (Str.ofString "pos") _) _ _ _); refine stop ?_))
local macro_rules | `(tactic| wtm_at "m13") => `(tactic| (k_here; k_dflt (refine' neStrsSame (by k_asm) (by k_mem) (by k_mem) (by wtm_at "a") (by first | exact StrsAre.take' (by wtm_at "a") _ | wtm_at "a") (by wtm_at "u") ?_); wtm_at "d"))
section
open PySem PySem.W PySem.Calls PyProof.Rows
set_option maxRecDepth 100000
namespace Mine
theorem fill21 : PySem.Challenge.rw_dw0053_01 = PySem.Challenge.rw_dw0053_01 ∧ ∀ P, Mine.hd.heap_39 P = Mine.hd.heap_39 P := by
  k_fill
  exact ⟨rfl, fun _ => rfl⟩
local macro_rules | `(tactic| k_handed) => `(tactic| wtm_at "a")
local macro_rules | `(tactic| k_room) => `(tactic| wtm_at "m0")
local macro_rules | `(tactic| walk_at "subscriptTail Name Slice ref ref") => `(tactic| wtm_at "m6")
local macro_rules | `(tactic| walk_at "compareOp Eq ref ref") => `(tactic| wtm_at "m7")
local macro_rules | `(tactic| walk_at "call builtin:len") => `(tactic| wtm_at "m9")
local macro_rules | `(tactic| walk_at "subscriptTail Name Call ref int") => `(tactic| wtm_at "m10")
local macro_rules | `(tactic| walk_at "subscriptTail Name Name ref int") => `(tactic| wtm_at "m10")
local macro_rules | `(tactic| walk_at "subscriptTail Name Name ref int") => `(tactic| wtm_at "m11")
local macro_rules | `(tactic| walk_at "exec For Name List cons nil") => `(tactic| (refine stop ?_))
local macro_rules | `(tactic| walk_at "getAttr ref") => `(tactic| wtm_at "m12")
local macro_rules | `(tactic| walk_at "call builtin:list.append") => `(tactic| wtm_at "m5")
local macro_rules | `(tactic| walk_at "compareOp NotEq ref ref") => `(tactic| wtm_at "m13")
local macro_rules | `(tactic| walk_at "exec For Name Call cons nil") => `(tactic| (refine stop ?_))
local macro_rules | `(tactic| walk_at "pyIter ref") => `(tactic| (refine stop ?_))
local macro_rules | `(tactic| walk_at "exec While BoolOp") => `(tactic| (refine stop ?_))
local macro_rules | `(tactic| walk_at "exec Try") => `(tactic| (refine stop ?_))
local macro_rules | `(tactic| walk_at "call ref") => `(tactic| (refine stop ?_))
local macro_rules | `(tactic| walk_at "call ref") => `(tactic| wtm_at "m8")
set_option maxHeartbeats 4000000 in
theorem readRest3 {w : World} {mean : ExcName → Option Value} {mg mb : Str → Option Value} {base g0 : Heap} {s : Shared} {T : Str} {tT : Tok} {gv ist : Value} {dp un : Nat} {outer : List Env} {gd : Option (List Code)}
    {oc : Value} {od : Option Addr} {osl : Array (Option Value)} {name qual : Str} {params : Arguments} {st1 st2 st3 : Stmt} {body : List Stmt} {scope : Scope} {dV kV doc pm cdv ct : Value} {an : Option Addr}
    (ho : (Mine.hd.heap_39 w.params).lookup 156 = some ⟨oc, od, .func (fnOf name qual params (st1 :: st2 :: st3 :: body) scope dV kV doc pm an cdv ct), osl⟩)
    {L' D le ls : Addr} {ys us vs : List Value} {nD ne ns : Nat} {oe os ot : Obj} {Q : Flow → Shared → Prop}
    (TI : TokInit w gv ist T) (V : GivOk w gv T)
    (hB : BaseOk w mean mg mb base) (st : base.StaysIn g0) (ff : g0.FunFrames base outer) (hroom : dp + 10 < recursionLimit) (hun : un + 20 < cLine) (hlen : T.length ≤ 100) (hnb : base.get? L' = none)
    (F : Fr g0 L' s.heap (mSig D gv)) (N : News g0 L' s.heap [(D, listOf ys.toArray nD), (le, listOf us.toArray ne), (ls, listOf vs.toArray ns), (L' + 1 + 1 + 1, oe), (L' + 1 + 1, os), (L' + 1, ot)])
    (l1 : @Ne Nat le D ∧ @Ne Nat ls D ∧ @Ne Nat (L' + 1 + 1 + 1) D ∧ @Ne Nat (L' + 1 + 1) D ∧ @Ne Nat (L' + 1) D) (l2 : @Ne Nat ls le ∧ @Ne Nat (L' + 1 + 1 + 1) le ∧ @Ne Nat (L' + 1 + 1) le ∧ @Ne Nat (L' + 1) le) (l3 : @Ne Nat (L' + 1 + 1 + 1) ls ∧ @Ne Nat (L' + 1 + 1) ls ∧ @Ne Nat (L' + 1) ls)
    (dt : ot.data = .cell (some (.str T tT))) (ds : os.data = .cell (some (.ref ls))) (de : oe.data = .cell (some (.ref le)))
    (hys : StrsAre ys (sS T.cps.toList)) (hus : IntsAre us (natI (enO T.cps.toList))) (hvs : IntsAre vs (natI (stO T.cps.toList)))
    (yz : ys.length ≤ 100) (uz : us.length ≤ 101) (vz : vs.length ≤ 100)
    (hnl : ∀ (j i : Nat), (stO T.cps.toList)[j]? = some i → ¬ lone T.cps.toList i)
    (hQ : ∀ g' h' tk m', KtsTurn (fsOf outer) g0 g' → Fr g' L' h' m' → Q (.ret (.bool true)) { s with heap := h', toks := tk }) :
    wpAny (model PySem.Challenge.rw_dw0053_01.row.prog w) (({ handled := none, depth := dp, frames := some outer, guards := gd, units := un } : Around).deeper (envOfC qual scope L' 156 cdv)) (execs body (envOfC qual scope L' 156 cdv)) Q (fun _ _ => False) s := by
  rw [show (Mine.hd.heap_39 w.params).lookup 156 = some _ from by k_is] at ho
  cases ho
  have hgv := V.handed
  have X' := hB.X.keeps st
  have T' : TopM mean mg mb g0 := hB.T.keeps st
  have hflag : decide (List.drop (ys.length - 1) (sS T.cps.toList) = [Str.ofString "\\"]) = false := flag_no hnl
  have tl := len_toList T
  k_steps
  unfold Stop
  refine Try_quiet fun E' => ?_
  k_steps
  rename Fr _ L' _ _ => F2
  rename News _ L' _ _ => N2
  unfold Stop
  have N3 : News g0 L' _ [(D, listOf ys.toArray nD), (le, listOf us.toArray ne), (ls, listOf vs.toArray ns), (L' + 1 + 1 + 1, oe), (L' + 1 + 1, os), (L' + 1, ot)] := fun p hp => N2 p (by first | exact hp | exact .tail _ hp | exact .tail _ (.tail _ hp))
  have f0 := fun nx => nx_at hnl (j := 0) (i := 0) (nx := nx) first_at
  refine callTokN TI hB ⟨⟨F2, N3, ff, st, KtsTurn.refl⟩, rfl, rfl, rfl, (by intro z; cases z), hnb, (by k_room), .inl rfl⟩ (by k_room) (by
    by_cases q : 0 < (stO T.cps.toList).length
    · exact hnl 0 0 (first_at.1 q)
    · have := nl_end T.cps.toList
      rw [← first_at.2 (by omega)] at this; exact this) ?_
  rintro nx x dx hv lt1 lt2 g1 h1 tk1 kk G1
  obtain ⟨f1, f2, _⟩ := f0 _ hv
  rw [f2] at G1
  obtain ⟨F4, N4, ff4, st4, tn4⟩ := G1
  have X4 := hB.X.keeps st4
  have T4 : TopM mean mg mb g1 := hB.T.keeps st4
  clear N2 N3 F2 X' T' f0 hv f2
  have ax := allNe_gt (d := x) fun p hp => Nat.lt_trans (lt1 p hp) lt2
  have adx := allNe_gt (d := dx) lt1
  k_lt lt1
  k_lt2 lt2
  k_steps
  rename_i lt0 hx1 l1t hx2 F5 N5
  have hyl : ys.length = (stO T.cps.toList).length := by rw [strs_len hys, sS_len]
  have hul : us.length = (enO T.cps.toList).length := by rw [hus.length]; unfold natI; rw [List.length_map]
  have rx : AllNe x [(lt0, oe), (D, oe), (le, oe), (ls, oe), (L' + 1 + 1 + 1, oe), (L' + 1 + 1, oe), (L' + 1, oe)] := ⟨Nat.ne_of_gt l1t.1, ax⟩
  have rdx : AllNe dx [(lt0, oe), (D, oe), (le, oe), (ls, oe), (L' + 1 + 1 + 1, oe), (L' + 1 + 1, oe), (L' + 1, oe)] := ⟨Nat.ne_of_gt l1t.2.1, adx⟩
  unfold Stop
  refine Try_quiet fun E' => ?_
  refine wpAny_mono (E := fun _ _ => False) ?_ (fun _ _ q => q) (fun _ _ z => z.elim)
  k_steps
  unfold Stop
  refine whileG (n := (stO T.cps.toList).length) (base := base) (outer := outer) (g0 := g0) (L := L') (fun j rest => ∃ kk nxv tv nt, rest = [(x, instObj 133 dx), (dx, tkD kk ist gv T (cAt T.cps.toList j : Int) nxv), (lt0, listOf (List.toArray tv) nt), (D, listOf ys.toArray nD), (le, listOf us.toArray ne), (ls, listOf vs.toArray ns), (L' + 1 + 1 + 1, oe), (L' + 1 + 1, os), (L' + 1, ot)] ∧ StrsAre tv ((sS T.cps.toList).take j) ∧ NxAt T.cps.toList j nxv)
    ⟨F5, fun p hp => N5 p (mem3 p hp), ff4, st4, tn4⟩ ⟨_, nx, [], 0, rfl, .nil, f1⟩ ?turn ?last PassesOwn.never
  case turn =>
    rintro i g' h tk rest hlt ⟨kk, nxv, tv, nt, rfl, htv, hnx⟩ G
    have htl : tv.length = i := by rw [strs_len htv, List.length_take, sS_len]; omega
    subst htl
    unfold NxAt at hnx
    rw [if_pos hlt] at hnx
    obtain ⟨tn, rfl⟩ := hnx
    obtain ⟨F6, N6, ff6, st6, tn6⟩ := G
    have X6 := hB.X.keeps st6
    have T6 : TopM mean mg mb g' := hB.T.keeps st6
    have hst := List.getElem?_eq_getElem hlt
    obtain ⟨e1, e2, e3, e4, e5, e6⟩ := at_step hnl hst
    generalize (stO T.cps.toList)[tv.length] = sti at hst e1 e2 e3 e4 e5
    obtain ⟨c1, c2, c3, htell, c5, c6⟩ := sgb e3 e4 e5 tl hlen
    clear X4 T4 F5 N5
    k_steps
    unfold Stop
    refine callTellS hB ⟨⟨F6, N6, ff6, st6, tn6⟩, rfl, rfl, rfl, (by intro z; cases z), hnb, (by k_room), .inl rfl⟩ (off_rest rx rdx) (List.mem_cons_self ..) (List.mem_cons_of_mem _ (List.mem_cons_self ..)) c1 c2 c3 ?_
    rintro g7 h7 tk7 kk G7 t7
    rw [htell]
    clear F6 N6 X6 T6
    obtain ⟨F7, N7, ff7, st7, tn7⟩ := G7
    have X7 := hB.X.keeps st7
    have T7 : TopM mean mg mb g7 := hB.T.keeps st7
    k_steps
    · exfalso; omega
    unfold Stop
    refine getPosS hB ⟨⟨F7, N7, ff7, st7, tn7⟩, rfl, rfl, rfl, (by intro z; cases z), hnb, (by k_room), .inl rfl⟩ (off_rest rx rdx) (List.mem_cons_self ..) (List.mem_cons_of_mem _ (List.mem_cons_self ..)) c1 c2 c3 ?_
    rintro g8 h8 tk8 kk G8 t8
    rw [htell]
    clear F7 N7 X7 T7
    obtain ⟨F8, N8, ff8, st8, tn8⟩ := G8
    have X8 := hB.X.keeps st8
    have T8 : TopM mean mg mb g8 := hB.T.keeps st8
    k_steps
    · exfalso; omega
    unfold Stop
    have f1 := fun nx => nx_at hnl (j := tv.length + 1) (i := cAt T.cps.toList tv.length) (nx := nx) (next_at hlt)
    have hnl1 : ¬ lone T.cps.toList (cAt T.cps.toList tv.length) := by
      by_cases q : tv.length + 1 < (stO T.cps.toList).length
      · exact hnl _ _ ((next_at hlt).1 q)
      · rw [(next_at hlt).2 (by omega)]; exact nl_end _
    refine callGetN V hB ⟨⟨F8, N8, ff8, st8, tn8⟩, rfl, rfl, rfl, (by intro z; cases z), hnb, (by k_room), .inl rfl⟩ (off_rest rx rdx) (List.mem_cons_self ..) (List.mem_cons_of_mem _ (List.mem_cons_self ..)) rfl c5 hnl1 ?_
    rintro nx9 v9 g9 h9 tk9 kk G9
    obtain ⟨w1, w2, _⟩ := f1 _ v9
    rw [w2] at G9
    clear F8 N8 X8 T8
    obtain ⟨F9, N9, ff9, st9, tn9⟩ := G9
    have X9 := hB.X.keeps st9
    have T9 : TopM mean mg mb g9 := hB.T.keeps st9
    have hsz : tv.toArray.size ≤ sizeLine := by rw [List.size_toArray, sizeLine_eq]; omega
    k_steps
    rename Fr _ L' _ _ => FA
    rename News _ L' _ _ => NA
    refine ⟨g9, _, _, _, rfl, ⟨FA, NA, ff9, st9, tn9⟩, _, nx9, tv ++ [_], nt + 1, by rw [List.push_toArray], ?_, w1⟩
    rw [List.take_add_one, sS_get hlt]
    exact htv.append' (.cons _ _ .nil)
  case last =>
    rintro g' h tk rest ⟨kk, nxv, tv, nt, rfl, htv, hnx⟩ G
    unfold NxAt at hnx
    rw [if_neg (Nat.lt_irrefl _)] at hnx
    subst hnx
    rw [c_end' (Nat.le_refl _)] at G
    rw [List.take_of_length_le (by rw [sS_len]; exact Nat.le_refl _)] at htv
    have htl : tv.length = (stO T.cps.toList).length := by rw [strs_len htv, sS_len]
    obtain ⟨F6, N6, ff6, st6, tn6⟩ := G
    have X6 := hB.X.keeps st6
    have T6 : TopM mean mg mb g' := hB.T.keeps st6
    clear X4 T4 F5 N5
    k_steps
    unfold Stop
    refine callGetN V hB ⟨⟨F6, N6, ff6, st6, tn6⟩, rfl, rfl, rfl, (by intro z; cases z), hnb, (by k_room), .inl rfl⟩ (off_rest rx rdx) (List.mem_cons_self ..) (List.mem_cons_of_mem _ (List.mem_cons_self ..)) rfl (by omega) (nl_end _) ?_
    rintro nx9 v9 g9 h9 tk9 kk G9
    rw [(nx_end _).1] at v9
    rw [(nx_end _).2] at G9
    unfold NxVal at v9
    dsimp only at v9
    subst v9
    clear F6 N6 X6 T6
    obtain ⟨F9, N9, ff9, st9, tn9⟩ := G9
    have X9 := hB.X.keeps st9
    have T9 : TopM mean mg mb g9 := hB.T.keeps st9
    k_steps
    unfold Stop
    refine callTellN hB ⟨⟨F9, N9, ff9, st9, tn9⟩, rfl, rfl, rfl, (by intro z; cases z), hnb, (by k_room), .inl rfl⟩ (off_rest rx rdx) (List.mem_cons_self ..) (List.mem_cons_of_mem _ (List.mem_cons_self ..)) (by omega) ?_
    rintro g8 h8 tk8 kk G8 t8
    clear F9 N9 X9 T9
    obtain ⟨F8, N8, ff8, st8, tn8⟩ := G8
    have X8 := hB.X.keeps st8
    have T8 : TopM mean mg mb g8 := hB.T.keeps st8
    k_steps
    · exfalso; omega
    unfold Stop
    refine wpAny_For ?_
    k_steps
    rename IsRange _ _ _ _ _ _ _ _ => hr
    rename Fr _ L' _ _ => FB
    rename News _ L' _ _ => NB
    unfold Stop
    refine forRangeS (L := L') (base := base) (outer := outer) (g0 := g0) (n := ys.length) [Str.ofString "other"] (fun i rest => ∃ kk, ∃ idx : Nat, ∃ nxv, rest = [(x, instObj 133 dx), (dx, tkD kk ist gv T (idx : Int) nxv), (lt0, listOf (List.toArray tv) nt), (D, listOf ys.toArray nD), (le, listOf us.toArray ne), (ls, listOf vs.toArray ns), (L' + 1 + 1 + 1, oe), (L' + 1 + 1, os), (L' + 1, ot)]) rfl hr (small_down _ (by omega)) (size_down _) rfl rfl rfl ⟨FB, NB, ff8, st8, tn8⟩ ⟨_, _, _, rfl⟩ ?fturn ?fdone PassesOwn.never
    case fdone =>
      rintro g' h tk um v rest ⟨kk, idx, nxv, rfl⟩ G
      obtain ⟨FC, NC, ffC, stC, tnC⟩ := G
      have XC := hB.X.keeps stC
      have TC : TopM mean mg mb g' := hB.T.keeps stC
      clear X8 T8 FB NB
      k_steps
      exact hQ g' _ _ _ tnC FC
    case fturn =>
      rintro i g' h tk um rest it t' hlt ⟨kk, idx, nxv, rfl⟩ hne hltn G
      obtain ⟨j, hj⟩ : ∃ j, j = ys.length - 1 - i := ⟨_, rfl⟩
      have ek : ((ys.length : Int) - 1 + (i : Int) * (-1)) = (j : Int) := ekL hj hlt
      rw [ek] at G
      have hjn : j < (stO T.cps.toList).length := hjL hj hlt hyl
      have hst := List.getElem?_eq_getElem hjn
      obtain ⟨e1, e2, e3, e4, e5, e6⟩ := at_step hnl hst
      have hen := en_at hnl hst
      have hsg := sS_get hjn
      have hnl1 : ¬ lone T.cps.toList (stO T.cps.toList)[j] := hnl _ _ hst
      generalize (stO T.cps.toList)[j] = sti at hst e1 e2 e3 e4 e5 hnl1
      obtain ⟨c1, c2, c3, c4, c5, c6⟩ := sgb e3 e4 e5 tl hlen
      have itx : Ne it x := Nat.ne_of_gt (hltn _ (List.mem_cons_self ..))
      have itdx : Ne it dx := Nat.ne_of_gt (hltn _ (List.mem_cons_of_mem _ (List.mem_cons_self ..)))
      have an := allNe_gt hltn
      k_lt hltn
      obtain ⟨F1, N1, ff1, st1, tn1⟩ := G
      have X1 := hB.X.keeps st1
      have T1 : TopM mean mg mb g' := hB.T.keeps st1
      clear X8 T8 FB NB
      k_steps
      unfold Stop
      refine callSeek V hB ⟨⟨F1, fun p hp => N1 p (mem3 p hp), ff1, st1, tn1⟩, rfl, rfl, rfl, (by intro z; cases z), hnb, (by k_room), .inl rfl⟩ (off_rest ⟨itx, rx⟩ ⟨itdx, rdx⟩) (List.mem_cons_self ..) (List.mem_cons_of_mem _ (List.mem_cons_self ..)) (Int.natCast_nonneg _) rfl c6 hnl1 ?_
      rintro nx2 v2 g2 h2 tk2 kk G2
      rw [e1] at v2
      obtain ⟨tz, rfl⟩ := v2
      rw [e2] at G2
      clear F1 N1 X1 T1
      obtain ⟨F2, N2, ff2, st2, tn2⟩ := G2
      have X2 := hB.X.keeps st2
      have T2 : TopM mean mg mb g2 := hB.T.keeps st2
      k_steps
      unfold Stop
      refine wpAny_For ?_
      k_steps
      rename_i lO hO FO NO l1O
      have lOx : Ne lO x := by first | omega | exact Nat.ne_of_gt (by omega)
      have lOd : Ne lO dx := by first | omega | exact Nat.ne_of_gt (by omega)
      unfold Stop
      refine forListS (L := L') (base := base) (outer := outer) (g0 := g0) (its := [_, _, _, _, _, _, _, _, _]) [] (fun i2 rest => ∃ kk, rest = [(lO, _), (x, instObj 133 dx), (dx, tkD kk ist gv T (cAt T.cps.toList j : Int) (.str (sgS T.cps.toList j) tz)), (it, rgO ((ys.length : Int) - 1 + ((i + 1 : Nat) : Int) * -1) ((ys.length : Int) - ((i + 1 : Nat) : Int)) (-1)), (lt0, listOf (List.toArray tv) nt), (D, listOf ys.toArray nD), (le, listOf us.toArray ne), (ls, listOf vs.toArray ns), (L' + 1 + 1 + 1, oe), (L' + 1 + 1, os), (L' + 1, ot)]) rfl (List.mem_cons_self ..) (fun h e => ⟨_, e, rfl, 0, rfl⟩) (by rintro i2 rest ⟨_, rfl⟩; exact List.mem_cons_self ..) rfl rfl rfl ⟨FO, NO, ff2, st2, tn2⟩ ⟨_, rfl⟩ ?iturn ?idone PassesOwn.never
      case iturn =>
        rintro i2 g3 h3 tk3 um3 rest3 it3 ito3 v3 hv3 ⟨kk, rfl⟩ hne3 hlt3 G3
        obtain ⟨o, to, rfl⟩ := strs_at (xs := [_, _, _, _, _, _, _, _, _]) (by repeat (first | exact StrsAre.nil | refine StrsAre.cons _ _ ?_)) hv3
        have it3x : Ne it3 x := Nat.ne_of_gt (hlt3 _ (List.mem_cons_of_mem _ (List.mem_cons_self ..)))
        have it3d : Ne it3 dx := Nat.ne_of_gt (hlt3 _ (List.mem_cons_of_mem _ (List.mem_cons_of_mem _ (List.mem_cons_self ..))))
        have an3 := allNe_gt hlt3
        k_lt hlt3
        obtain ⟨F3, N3, ff3, st3, tn3⟩ := G3
        have X3 := hB.X.keeps st3
        have T3 : TopM mean mg mb g3 := hB.T.keeps st3
        clear X2 T2 FO NO hv3 hne3
        k_steps
        · rename _ = true => hz3
          unfold Stop
          refine callMatchNe hB ⟨⟨F3, fun p hp => N3 p (mem4 p hp), ff3, st3, tn3⟩, rfl, rfl, rfl, (by intro z; cases z), hnb, (by k_room), .inl rfl⟩ (off_rest ⟨it3x, lOx, itx, rx⟩ ⟨it3d, lOd, itdx, rdx⟩) (List.mem_cons_self ..) (List.mem_cons_of_mem _ (List.mem_cons_self ..)) (by simpa using hz3) ?_
          rintro g4 h4 tk4 kk G4
          clear F3 N3 X3 T3
          obtain ⟨F4, N4, ff4, st4, tn4⟩ := G4
          have X4 := hB.X.keeps st4
          have T4 : TopM mean mg mb g4 := hB.T.keeps st4
          k_steps
          · rename (sgS _ _ != sgS _ _) = true => zz
            simp at zz
          · refine ⟨g4, _, _, _, _, rfl, ⟨F4, fun p hp => N4 p (mem5 p hp), ff4, st4, tn4⟩, ⟨_, rfl⟩, allNe_to an3, fun z h1 h2 => by simp only [if_neg h1]; rfl⟩
        · refine ⟨g3, _, _, _, _, rfl, ⟨F3, N3, ff3, st3, tn3⟩, ⟨_, rfl⟩, allNe_to an3, fun z h1 h2 => by simp only [if_neg h1]; rfl⟩
      case idone =>
        rintro g3 h3 tk3 um3 v3 rest3 ⟨kk, rfl⟩ G3
        obtain ⟨F3, N3, ff3, st3, tn3⟩ := G3
        have X3 := hB.X.keeps st3
        have T3 : TopM mean mg mb g3 := hB.T.keeps st3
        clear X2 T2 FO NO
        k_steps
        unfold Stop
        have f1 := fun nx => nx_at hnl (j := j + 1) (i := cAt T.cps.toList j) (nx := nx) (next_at hjn)
        have hnlc : ¬ lone T.cps.toList (cAt T.cps.toList j) := by
          by_cases q : j + 1 < (stO T.cps.toList).length
          · exact hnl _ _ ((next_at hjn).1 q)
          · rw [(next_at hjn).2 (by omega)]; exact nl_end _
        refine callMatchN V hB ⟨⟨F3, fun p hp => N3 p (memR p hp), ff3, st3, tn3⟩, rfl, rfl, rfl, (by intro z; cases z), hnb, (by k_room), .inl rfl⟩ (off_rest ⟨itx, rx⟩ ⟨itdx, rdx⟩) (List.mem_cons_self ..) (List.mem_cons_of_mem _ (List.mem_cons_self ..)) (by simp) c5 hnlc ?_
        rintro nx4 v4 g4 h4 tk4 kk G4
        obtain ⟨w1, w2, _⟩ := f1 _ v4
        rw [w2] at G4
        clear F3 N3 X3 T3
        obtain ⟨F4, N4, ff4, st4, tn4⟩ := G4
        have X4 := hB.X.keeps st4
        have T4 : TopM mean mg mb g4 := hB.T.keeps st4
        by_cases hjl : j + 1 < (stO T.cps.toList).length
        · unfold NxAt at w1
          rw [if_pos hjl] at w1
          obtain ⟨tq, rfl⟩ := w1
          obtain ⟨p1, p2, p3, p4, p5, p6⟩ := at_step hnl (c_next hjl)
          obtain ⟨r1, r2, r3, r4, _, _⟩ := sgb p3 p4 p5 tl hlen
          k_steps
          unfold Stop
          refine callTellS hB ⟨⟨F4, N4, ff4, st4, tn4⟩, rfl, rfl, rfl, (by intro z; cases z), hnb, (by k_room), .inl rfl⟩ (off_rest ⟨itx, rx⟩ ⟨itdx, rdx⟩) (List.mem_cons_self ..) (List.mem_cons_of_mem _ (List.mem_cons_self ..)) r1 r2 r3 ?_
          rintro g5 h5 tk5 kk G5 t5
          rw [r4]
          clear F4 N4 X4 T4
          obtain ⟨F5, N5, ff5, st5, tn5⟩ := G5
          have X5 := hB.X.keeps st5
          have T5 : TopM mean mg mb g5 := hB.T.keeps st5
          k_steps
          · exfalso; omega
          refine ⟨g5, _, _, _, _, rfl, ⟨F5, fun p hp => N5 p (mem3' p hp), ff5, st5, tn5⟩, ⟨_, _, _, rfl⟩, allNe_to an, fun z h1 h2 => by simp only [if_neg h1, if_neg (notOne h2), h2]; rfl⟩
        · unfold NxAt at w1
          rw [if_neg hjl] at w1
          subst w1
          rw [c_end' (show (stO T.cps.toList).length ≤ j + 1 by omega)] at N4
          have hcl := (next_at hjn).2 (by omega)
          k_steps
          unfold Stop
          refine callTellN hB ⟨⟨F4, N4, ff4, st4, tn4⟩, rfl, rfl, rfl, (by intro z; cases z), hnb, (by k_room), .inl rfl⟩ (off_rest ⟨itx, rx⟩ ⟨itdx, rdx⟩) (List.mem_cons_self ..) (List.mem_cons_of_mem _ (List.mem_cons_self ..)) (by omega) ?_
          rintro g5 h5 tk5 kk G5 t5
          clear F4 N4 X4 T4
          obtain ⟨F5, N5, ff5, st5, tn5⟩ := G5
          have X5 := hB.X.keeps st5
          have T5 : TopM mean mg mb g5 := hB.T.keeps st5
          k_steps
          · exfalso; omega
          unfold Stop
          refine callMatchNone hB ⟨⟨F5, N5, ff5, st5, tn5⟩, rfl, rfl, rfl, (by intro z; cases z), hnb, (by k_room), .inl rfl⟩ (off_rest ⟨itx, rx⟩ ⟨itdx, rdx⟩) (List.mem_cons_self ..) (List.mem_cons_of_mem _ (List.mem_cons_self ..)) ?_
          rintro g6 h6 tk6 kk G6
          clear F5 N5 X5 T5
          obtain ⟨F6, N6, ff6, st6, tn6⟩ := G6
          have X6 := hB.X.keeps st6
          have T6 : TopM mean mg mb g6 := hB.T.keeps st6
          k_steps
          refine ⟨g6, _, _, _, _, rfl, ⟨F6, fun p hp => N6 p (mem3' p hp), ff6, st6, tn6⟩, ⟨_, _, _, rfl⟩, allNe_to an, fun z h1 h2 => by simp only [if_neg h1, if_neg (notOne h2), h2]; rfl⟩
end Mine
end
section
open PySem PySem.W PySem.Calls PyProof.Rows
set_option maxRecDepth 100000
namespace Mine
theorem at_step1 {u : List Nat} {j i : Nat} (hnl : ¬ lone u i) (h : (stO u)[j]? = some i) : nxSign u i = some (sgO u j) ∧ nxIdx u i = cAt u j ∧ cAt u j ≤ u.length ∧ (sgS u j).length = cAt u j - i ∧ i < cAt u j ∧ sgO u j ≠ [92] := by
  obtain ⟨a1, a2, a3⟩ := step_at h hnl
  obtain ⟨b1, b2, b3⟩ := sg_at h hnl
  have c : cAt u j = nxIdx u i := by unfold cAt; rw [List.getD_eq_getElem?_getD, a1]; rfl
  refine ⟨b1, c.symm, by rw [c]; exact a2, ?_, by rw [c]; exact a3, b2⟩
  rw [c, ← b3]
  show (sgO u j).toArray.size = _
  rw [List.size_toArray]
theorem mem6 {α : Type} {a b c d e f : α} {r : List α} : ∀ p ∈ a :: b :: c :: d :: e :: f :: r, p ∈ c :: d :: e :: f :: a :: b :: r := by
  intro p hp
  simp only [List.mem_cons] at hp ⊢
  rcases hp with h | h | h | h | h | h | h <;> simp [h]
theorem mem7 {α : Type} {a b c d e f : α} {r : List α} : ∀ p ∈ e :: f :: a :: b :: c :: d :: r, p ∈ a :: b :: c :: d :: e :: f :: r := by
  intro p hp
  simp only [List.mem_cons] at hp ⊢
  rcases hp with h | h | h | h | h | h | h <;> simp [h]
/-- a lone sign at place m: the shape of it all -/
structure LoneAt (u : List Nat) (m stm : Nat) : Prop where
  at_ : (stO u)[m]? = some stm
  lone_ : lone u stm
  n : (stO u).length = m + 1
  len : u.length = stm + 1
theorem LoneAt.of {u : List Nat} {m stm : Nat} (h : (stO u)[m]? = some stm) (l : lone u stm) : LoneAt u m stm := by
  obtain ⟨a, b, _⟩ := step_lone h l
  exact ⟨h, l, a.symm, b.symm⟩
theorem LoneAt.nl {u : List Nat} {m stm : Nat} (l : LoneAt u m stm) {j i : Nat} (hj : j < m) (h : (stO u)[j]? = some i) : ¬ lone u i := fun q => by
  have := (step_lone h q).1
  have := l.n
  omega
theorem LoneAt.c {u : List Nat} {m stm j : Nat} (l : LoneAt u m stm) (h : j + 1 = m) : cAt u j = stm := by
  subst h
  have := c_next (u := u) (j := j) (by rw [l.n]; omega)
  rw [l.at_] at this
  injection this with this
  exact this.symm
theorem LoneAt.flag {u : List Nat} {m stm : Nat} (l : LoneAt u m stm) {n : Nat} (hn : n = m) : decide (List.drop n (sS u) = [Str.ofString "\\"]) = true := by
  subst hn
  refine decide_eq_true ?_
  have hl : n < (stO u).length := by rw [l.n]; omega
  have hl' : n < (sS u).length := by rw [sS_len]; exact hl
  rw [List.drop_eq_getElem_cons hl', List.drop_of_length_le (by rw [sS_len, l.n]; exact Nat.le_refl _)]
  have q := sS_get hl
  rw [List.getElem?_eq_getElem hl'] at q
  injection q with q
  rw [q]
  unfold sgS
  rw [sg_lone l.at_ l.lone_]
  decide +kernel
section
variable {prog : Program} {w : World} {A : Around} {E Q : Value → Shared → Prop} {s : Shared} {h₀ : Heap} {L l : Addr} {news : List (Addr × Obj)} {vs : List Value} {nl : Nat}
theorem itemS2 {xs : List Str} {j : Nat} {y : Str} {t : Tok} {value slice : PySem.Expr} (N : News h₀ L s.heap news) (hm : (l, listOf vs.toArray nl) ∈ news) (hi : StrsAre vs xs) (hj : xs[j]? = some y) (hn : xs.length = j + 2) (h : ∀ t, Q (.str y t) s)
    (hsu : subscripted slice false (.ref l) (.int (-2) t) = operate [.ref l, .int (-2) t] (getItem (.ref l) (.int (-2) t)) := by with_unfolding_all rfl) :
    wpAny (model prog w) A (subscriptTail value slice (.ref l) (.int (-2) t)) Q E s := by
  obtain ⟨t', ht⟩ := hi.at hj
  refine kde_neg (j := j) ⟨_, (N _ hm).1, rfl, nl, rfl⟩ (by decide) (by decide) ?_ (by simpa using ht) (h t') hsu
  rw [strs_len hi, hn]
  unfold seqIndex?
  simp
  omega
theorem itemN2 {st : List Nat} {j i : Nat} {t : Tok} {value slice : PySem.Expr} (N : News h₀ L s.heap news) (hm : (l, listOf vs.toArray nl) ∈ news) (hi : IntsAre vs (natI st)) (hj : st[j]? = some i) (hn : st.length = j + 2) (h : ∀ t, Q (.int (i : Int) t) s)
    (hsu : subscripted slice false (.ref l) (.int (-2) t) = operate [.ref l, .int (-2) t] (getItem (.ref l) (.int (-2) t)) := by with_unfolding_all rfl) :
    wpAny (model prog w) A (subscriptTail value slice (.ref l) (.int (-2) t)) Q E s := by
  obtain ⟨t', ht⟩ := hi.get j _ (natI_get hj)
  refine kde_neg (j := j) ⟨_, (N _ hm).1, rfl, nl, rfl⟩ (by decide) (by decide) ?_ (by simpa using ht) (h t') hsu
  have : vs.length = st.length := by rw [hi.length]; unfold natI; rw [List.length_map]
  rw [this, hn]
  unfold seqIndex?
  simp
  omega
end
end Mine
end
section
open PySem PySem.W PySem.Calls PyProof.Rows
set_option maxRecDepth 100000
namespace Mine
theorem fill22 : PySem.Challenge.rw_dw0053_01 = PySem.Challenge.rw_dw0053_01 ∧ ∀ P, Mine.hd.heap_39 P = Mine.hd.heap_39 P := by
  k_fill
  exact ⟨rfl, fun _ => rfl⟩
local macro_rules | `(tactic| k_handed) => `(tactic| wtm_at "a")
local macro_rules | `(tactic| k_room) => `(tactic| wtm_at "m0")
local macro_rules | `(tactic| walk_at "subscriptTail Name Slice ref ref") => `(tactic| wtm_at "m6")
local macro_rules | `(tactic| walk_at "compareOp Eq ref ref") => `(tactic| wtm_at "m7")
local macro_rules | `(tactic| walk_at "call builtin:len") => `(tactic| wtm_at "m9")
local macro_rules | `(tactic| walk_at "subscriptTail Name Call ref int") => `(tactic| wtm_at "m10")
local macro_rules | `(tactic| walk_at "subscriptTail Name Name ref int") => `(tactic| wtm_at "m10")
local macro_rules | `(tactic| walk_at "subscriptTail Name Name ref int") => `(tactic| wtm_at "m11")
local macro_rules | `(tactic| walk_at "exec For Name List cons nil") => `(tactic| (refine stop ?_))
local macro_rules | `(tactic| walk_at "getAttr ref") => `(tactic| wtm_at "m12")
local macro_rules | `(tactic| walk_at "call builtin:list.append") => `(tactic| wtm_at "m5")
local macro_rules | `(tactic| walk_at "compareOp NotEq ref ref") => `(tactic| wtm_at "m13")
local macro_rules | `(tactic| walk_at "exec For Name Call cons nil") => `(tactic| (refine stop ?_))
local macro_rules | `(tactic| walk_at "pyIter ref") => `(tactic| (refine stop ?_))
local macro_rules | `(tactic| walk_at "exec While BoolOp") => `(tactic| (refine stop ?_))
local macro_rules | `(tactic| walk_at "exec Try") => `(tactic| (refine stop ?_))
local macro_rules | `(tactic| walk_at "call ref") => `(tactic| (refine stop ?_))
local macro_rules | `(tactic| walk_at "call ref") => `(tactic| wtm_at "m8")
local macro_rules | `(tactic| walk_at "subscriptTail Name UnaryOp ref int") => `(tactic| (k_here; k_dflt (refine' itemN2 (by k_asm) (by k_mem) (by wtm_at "a") (by wtm_at "a") (by omega) ?_); intro t'; wtm_at "d"))
local macro_rules | `(tactic| walk_at "subscriptTail Name UnaryOp ref int") => `(tactic| (k_here; k_dflt (refine' itemS2 (by k_asm) (by k_mem) (by wtm_at "a") (by wtm_at "a") (by omega) ?_); intro t'; wtm_at "d"))
set_option maxHeartbeats 4000000 in
theorem readRest2 {w : World} {mean : ExcName → Option Value} {mg mb : Str → Option Value} {base g0 : Heap} {s : Shared} {T : Str} {tT : Tok} {gv ist : Value} {dp un : Nat} {outer : List Env} {gd : Option (List Code)}
    {oc : Value} {od : Option Addr} {osl : Array (Option Value)} {name qual : Str} {params : Arguments} {st1 st2 st3 : Stmt} {body : List Stmt} {scope : Scope} {dV kV doc pm cdv ct : Value} {an : Option Addr}
    (ho : (Mine.hd.heap_39 w.params).lookup 156 = some ⟨oc, od, .func (fnOf name qual params (st1 :: st2 :: st3 :: body) scope dV kV doc pm an cdv ct), osl⟩)
    {L' D le ls : Addr} {ys us vs : List Value} {nD ne ns : Nat} {oe os ot : Obj} {Q : Flow → Shared → Prop}
    (TI : TokInit w gv ist T) (V : GivOk w gv T)
    (hB : BaseOk w mean mg mb base) (st : base.StaysIn g0) (ff : g0.FunFrames base outer) (hroom : dp + 10 < recursionLimit) (hun : un + 20 < cLine) (hlen : T.length ≤ 100) (hnb : base.get? L' = none)
    (F : Fr g0 L' s.heap (mSig D gv)) (N : News g0 L' s.heap [(D, listOf ys.toArray nD), (le, listOf us.toArray ne), (ls, listOf vs.toArray ns), (L' + 1 + 1 + 1, oe), (L' + 1 + 1, os), (L' + 1, ot)])
    (l1 : @Ne Nat le D ∧ @Ne Nat ls D ∧ @Ne Nat (L' + 1 + 1 + 1) D ∧ @Ne Nat (L' + 1 + 1) D ∧ @Ne Nat (L' + 1) D) (l2 : @Ne Nat ls le ∧ @Ne Nat (L' + 1 + 1 + 1) le ∧ @Ne Nat (L' + 1 + 1) le ∧ @Ne Nat (L' + 1) le) (l3 : @Ne Nat (L' + 1 + 1 + 1) ls ∧ @Ne Nat (L' + 1 + 1) ls ∧ @Ne Nat (L' + 1) ls)
    (dt : ot.data = .cell (some (.str T tT))) (ds : os.data = .cell (some (.ref ls))) (de : oe.data = .cell (some (.ref le)))
    (hys : StrsAre ys (sS T.cps.toList)) (hus : IntsAre us (natI (enO T.cps.toList))) (hvs : IntsAre vs (natI (stO T.cps.toList)))
    (yz : ys.length ≤ 100) (uz : us.length ≤ 101) (vz : vs.length ≤ 100)
    {m stm : Nat} (hm0 : 0 < m) (hlo : LoneAt T.cps.toList m stm)
    (hQ : ∀ g' h' tk m', KtsTurn (fsOf outer) g0 g' → Fr g' L' h' m' → Q (.ret (.bool true)) { s with heap := h', toks := tk }) :
    wpAny (model PySem.Challenge.rw_dw0053_01.row.prog w) (({ handled := none, depth := dp, frames := some outer, guards := gd, units := un } : Around).deeper (envOfC qual scope L' 156 cdv)) (execs body (envOfC qual scope L' 156 cdv)) Q (fun _ _ => False) s := by
  rw [show (Mine.hd.heap_39 w.params).lookup 156 = some _ from by k_is] at ho
  cases ho
  have hgv := V.handed
  have X' := hB.X.keeps st
  have T' : TopM mean mg mb g0 := hB.T.keeps st
  have hyl : ys.length = (stO T.cps.toList).length := by rw [strs_len hys, sS_len]
  have hul : us.length = (enO T.cps.toList).length := by rw [hus.length]; unfold natI; rw [List.length_map]
  have hnm := hlo.n
  have hlenm := hlo.len
  have tl := len_toList T
  have hT1 : T.length = stm + 1 := by omega
  have hsT : stm ≤ T.length := by omega
  have hflag : decide (List.drop (ys.length - 1) (sS T.cps.toList) = [Str.ofString "\\"]) = true := hlo.flag (by omega)
  have h0 : (stO T.cps.toList)[0]? = some 0 := first_at.1 (by omega)
  have hn0 : ¬ lone T.cps.toList 0 := hlo.nl hm0 h0
  obtain ⟨p, hp⟩ : ∃ p, p + 1 = m := ⟨m - 1, by omega⟩
  k_steps
  unfold Stop
  refine Try_quiet fun E' => ?_
  k_steps
  rename Fr _ L' _ _ => F2
  rename News _ L' _ _ => N2
  unfold Stop
  have N3 : News g0 L' _ [(D, listOf ys.toArray nD), (le, listOf us.toArray ne), (ls, listOf vs.toArray ns), (L' + 1 + 1 + 1, oe), (L' + 1 + 1, os), (L' + 1, ot)] := fun p hp => N2 p (by first | exact hp | exact .tail _ hp | exact .tail _ (.tail _ hp))
  refine callTokN TI hB ⟨⟨F2, N3, ff, st, KtsTurn.refl⟩, rfl, rfl, rfl, (by intro z; cases z), hnb, (by k_room), .inl rfl⟩ (by k_room) hn0 ?_
  rintro nx x dx hv lt1 lt2 g1 h1 tk1 kk G1
  obtain ⟨q1, q2, _⟩ := at_step1 hn0 h0
  rw [q1] at hv
  obtain ⟨tn0, rfl⟩ := hv
  rw [q2] at G1
  obtain ⟨F4, N4, ff4, st4, tn4⟩ := G1
  have X4 := hB.X.keeps st4
  have T4 : TopM mean mg mb g1 := hB.T.keeps st4
  clear N2 N3 F2 X' T' q1 q2
  have ax := allNe_gt (d := x) fun p hp => Nat.lt_trans (lt1 p hp) lt2
  have adx := allNe_gt (d := dx) lt1
  k_lt lt1
  k_lt2 lt2
  k_steps
  rename_i lt0 hx1 l1t hx2 F5 N5
  have rx : AllNe x [(lt0, oe), (D, oe), (le, oe), (ls, oe), (L' + 1 + 1 + 1, oe), (L' + 1 + 1, oe), (L' + 1, oe)] := ⟨Nat.ne_of_gt l1t.1, ax⟩
  have rdx : AllNe dx [(lt0, oe), (D, oe), (le, oe), (ls, oe), (L' + 1 + 1 + 1, oe), (L' + 1 + 1, oe), (L' + 1, oe)] := ⟨Nat.ne_of_gt l1t.2.1, adx⟩
  unfold Stop
  refine tryPE (L := L') (g0 := g0) (s0 := s) (gv := gv) (u := T.cps.toList) (i := stm) (hd := none) (J := fun mm rest => mm = (fun y => if y = Str.ofString "told" then some (.ref lt0) else if y = Str.ofString "source" then some (.ref x) else if y = Str.ofString "lone" then some (.bool (decide (List.drop (ys.length - 1) (sS T.cps.toList) = [Str.ofString "\\"]))) else mSig D gv y) ∧ ∃ kk tn tv nt, rest = [(x, instObj 133 dx), (dx, tkD kk ist gv T (stm : Int) (.str (sgS T.cps.toList p) tn)), (lt0, listOf (List.toArray tv) nt), (D, listOf ys.toArray nD), (le, listOf us.toArray ne), (ls, listOf vs.toArray ns), (L' + 1 + 1 + 1, oe), (L' + 1 + 1, os), (L' + 1, ot)] ∧ StrsAre tv ((sS T.cps.toList).take (ys.length - 2)))
    hB rfl rfl (by intro z; cases z) hnb rfl rfl rfl (clsNameX hB rfl rfl) ?body ?k
  case body =>
    refine stopQ ?_
    k_steps
    unfold Stop
    refine whileG (n := p) (base := base) (outer := outer) (g0 := g0) (L := L') (fun j rest => ∃ kk tn tv nt, rest = [(x, instObj 133 dx), (dx, tkD kk ist gv T (cAt T.cps.toList j : Int) (.str (sgS T.cps.toList j) tn)), (lt0, listOf (List.toArray tv) nt), (D, listOf ys.toArray nD), (le, listOf us.toArray ne), (ls, listOf vs.toArray ns), (L' + 1 + 1 + 1, oe), (L' + 1 + 1, os), (L' + 1, ot)] ∧ StrsAre tv ((sS T.cps.toList).take j))
      ⟨F5, fun p hp => N5 p (mem3 p hp), ff4, st4, tn4⟩ ⟨_, _, [], 0, rfl, .nil⟩ ?turn ?last (raisedPasses rfl rfl (by intro z; cases z) hnb _)
    case turn =>
      rintro i g' h tk rest hlt ⟨kk, tn, tv, nt, rfl, htv⟩ G
      have htl : tv.length = i := by rw [strs_len htv, List.length_take, sS_len]; omega
      subst htl
      obtain ⟨F6, N6, ff6, st6, tn6⟩ := G
      have X6 := hB.X.keeps st6
      have T6 : TopM mean mg mb g' := hB.T.keeps st6
      have hlt' : tv.length < (stO T.cps.toList).length := by omega
      have hst := List.getElem?_eq_getElem hlt'
      obtain ⟨e1, e2, e3, e4, e5, e6⟩ := at_step1 (hlo.nl (by omega) hst) hst
      generalize (stO T.cps.toList)[tv.length] = sti at hst e1 e2 e3 e4 e5
      obtain ⟨c1, c2, c3, htell, c5, c6⟩ := sgb e3 e4 e5 tl hlen
      have hst1 := c_next (u := T.cps.toList) (j := tv.length) (by omega)
      have hnl1 := hlo.nl (by omega) hst1
      obtain ⟨w1, w2, w3, w4, w5, w6⟩ := at_step1 hnl1 hst1
      clear X4 T4 F5 N5
      k_steps
      unfold Stop
      refine callTellS hB ⟨⟨F6, N6, ff6, st6, tn6⟩, rfl, rfl, rfl, (by intro z; cases z), hnb, (by k_room), .inl rfl⟩ (off_rest rx rdx) (List.mem_cons_self ..) (List.mem_cons_of_mem _ (List.mem_cons_self ..)) c1 c2 c3 ?_
      rintro g7 h7 tk7 kk G7 t7
      rw [htell]
      clear F6 N6 X6 T6
      obtain ⟨F7, N7, ff7, st7, tn7⟩ := G7
      have X7 := hB.X.keeps st7
      have T7 : TopM mean mg mb g7 := hB.T.keeps st7
      k_steps
      · exfalso; omega
      unfold Stop
      refine getPosS hB ⟨⟨F7, N7, ff7, st7, tn7⟩, rfl, rfl, rfl, (by intro z; cases z), hnb, (by k_room), .inl rfl⟩ (off_rest rx rdx) (List.mem_cons_self ..) (List.mem_cons_of_mem _ (List.mem_cons_self ..)) c1 c2 c3 ?_
      rintro g8 h8 tk8 kk G8 t8
      rw [htell]
      clear F7 N7 X7 T7
      obtain ⟨F8, N8, ff8, st8, tn8⟩ := G8
      have X8 := hB.X.keeps st8
      have T8 : TopM mean mg mb g8 := hB.T.keeps st8
      k_steps
      · exfalso; omega
      unfold Stop
      refine callGetN V hB ⟨⟨F8, N8, ff8, st8, tn8⟩, rfl, rfl, rfl, (by intro z; cases z), hnb, (by k_room), .inl rfl⟩ (off_rest rx rdx) (List.mem_cons_self ..) (List.mem_cons_of_mem _ (List.mem_cons_self ..)) rfl c5 hnl1 ?_
      rintro nx9 v9 g9 h9 tk9 kk G9
      rw [w1] at v9
      obtain ⟨tn9, rfl⟩ := v9
      rw [w2] at G9
      clear F8 N8 X8 T8
      obtain ⟨F9, N9, ff9, st9, tz9⟩ := G9
      have X9 := hB.X.keeps st9
      have T9 : TopM mean mg mb g9 := hB.T.keeps st9
      have hsz : tv.toArray.size ≤ sizeLine := by rw [List.size_toArray, sizeLine_eq]; omega
      k_steps
      rename Fr _ L' _ _ => FA
      rename News _ L' _ _ => NA
      refine ⟨g9, _, _, _, rfl, ⟨FA, NA, ff9, st9, tz9⟩, _, tn9, tv ++ [_], nt + 1, by rw [List.push_toArray], ?_⟩
      rw [List.take_add_one, sS_get hlt']
      exact htv.append' (.cons _ _ .nil)
    case last =>
      rintro g' h tk rest ⟨kk, tn, tv, nt, rfl, htv⟩ G
      have htl : tv.length = p := by rw [strs_len htv, List.length_take, sS_len]; omega
      subst htl
      obtain ⟨F6, N6, ff6, st6, tn6⟩ := G
      have X6 := hB.X.keeps st6
      have T6 : TopM mean mg mb g' := hB.T.keeps st6
      have hst := List.getElem?_eq_getElem (show tv.length < (stO T.cps.toList).length by omega)
      obtain ⟨e1, e2, e3, e4, e5, e6⟩ := at_step1 (hlo.nl (by omega) hst) hst
      generalize (stO T.cps.toList)[tv.length] = sti at hst e1 e2 e3 e4 e5
      obtain ⟨c1, c2, c3, htell, c5, c6⟩ := sgb e3 e4 e5 tl hlen
      have hcm := hlo.c hp
      rw [show tv.length = ys.length - 2 by omega] at htv
      clear X4 T4 F5 N5
      k_steps
      unfold Stop
      refine callTellS hB ⟨⟨F6, N6, ff6, st6, tn6⟩, rfl, rfl, rfl, (by intro z; cases z), hnb, (by k_room), .inl rfl⟩ (off_rest rx rdx) (List.mem_cons_self ..) (List.mem_cons_of_mem _ (List.mem_cons_self ..)) c1 c2 c3 ?_
      rintro g7 h7 tk7 kk G7 t7
      rw [htell]
      clear F6 N6 X6 T6
      obtain ⟨F7, N7, ff7, st7, tn7⟩ := G7
      have X7 := hB.X.keeps st7
      have T7 : TopM mean mg mb g7 := hB.T.keeps st7
      k_steps
      unfold Stop
      refine getPosS hB ⟨⟨F7, N7, ff7, st7, tn7⟩, rfl, rfl, rfl, (by intro z; cases z), hnb, (by k_room), .inl rfl⟩ (off_rest rx rdx) (List.mem_cons_self ..) (List.mem_cons_of_mem _ (List.mem_cons_self ..)) c1 c2 c3 ?_
      rintro g8 h8 tk8 kk G8 t8
      rw [htell]
      clear F7 N7 X7 T7
      obtain ⟨F8, N8, ff8, st8, tn8⟩ := G8
      have X8 := hB.X.keeps st8
      have T8 : TopM mean mg mb g8 := hB.T.keeps st8
      k_steps
      unfold Stop
      rw [hcm] at N8
      refine callGetR V hB ⟨⟨F8, N8, ff8, st8, tn8⟩, rfl, rfl, rfl, (by intro z; cases z), hnb, (by k_room), .inl rfl⟩ (off_rest rx rdx) (List.mem_cons_self ..) (List.mem_cons_of_mem _ (List.mem_cons_self ..)) rfl hsT ⟨_, _, rfl⟩ hlo.lone_ ?_
      intro kk
      exact ⟨rfl, _, _, _, _, rfl, htv⟩
  case k =>
    rintro g h tk mm rest e ia de' a0 tb i0 it pk tm ⟨rfl, kk, tn, tv, nt, rfl, htv⟩ hne G
    obtain ⟨F2, N2, ff2, st2, tn2⟩ := G
    have X2 := hB.X.keeps st2
    have T2 : TopM mean mg mb g := hB.T.keeps st2
    clear F5 N5 X4 T4
    k_steps
    unfold Stop
    refine' callFits ?zfhB ?zfst ?zfF ?zfN ?zfr ?zfu ?zfl ?zfi ?zfg ?zfe ?zfd ?zfa ?_
    case zfhB => with_reducible assumption
    case zfst => with_reducible assumption
    case zfF => k_asm
    case zfN => k_asm
    case zfr => k_room
    case zfu => first | (simp only [units_deeper]; omega) | (simp only [Around.mark_units, units_deeper]; omega)
    case zfl => with_reducible assumption
    case zfe => k_mem
    case zfd => k_mem
    case zfa => k_mem
    case zfi => with_reducible assumption
    case zfg => with_reducible assumption
    intro h5 tk5 F5 N5
    have nx1 : @Ne Nat e x ∧ @Ne Nat ia x ∧ @Ne Nat de' x ∧ @Ne Nat a0 x := by have := hne _ (List.mem_cons_self ..); exact ⟨fun z => this.1 z.symm, fun z => this.2.1 z.symm, fun z => this.2.2.1 z.symm, fun z => this.2.2.2 z.symm⟩
    have nx2 : @Ne Nat e dx ∧ @Ne Nat ia dx ∧ @Ne Nat de' dx ∧ @Ne Nat a0 dx := by have := hne _ (List.mem_cons_of_mem _ (List.mem_cons_self ..)); exact ⟨fun z => this.1 z.symm, fun z => this.2.1 z.symm, fun z => this.2.2.1 z.symm, fun z => this.2.2.2 z.symm⟩
    have N6 : News g L' h5 _ := fun q hq => N5 q (List.mem_cons_of_mem _ hq)
    have hhd := hdSh_of (N6 _ (List.mem_cons_self ..)).1 (N6 _ (List.mem_cons_of_mem _ (List.mem_cons_self ..))).1
    have hpl : p < (stO T.cps.toList).length := by omega
    have hst := List.getElem?_eq_getElem hpl
    obtain ⟨e1, e2, e3, e4, e5, e6⟩ := at_step1 (hlo.nl (by omega) hst) hst
    generalize (stO T.cps.toList)[p] = sti at hst e1 e2 e3 e4 e5
    obtain ⟨c1, c2, c3, c4, _, _⟩ := sgb e3 e4 e5 tl hlen
    have hcm := hlo.c hp
    rw [hcm] at c1 c4
    have hsg := sS_get hpl
    have hsl : (sS T.cps.toList).length = p + 2 := by rw [sS_len]; omega
    have hul2 : (stO T.cps.toList).length = p + 2 := by omega
    clear N5
    k_steps
    unfold Stop
    refine tryPE (L := L') (g0 := g0) (s0 := s) (gv := gv) (u := T.cps.toList) (i := stm) (hd := some (.ref e)) (J := fun mm rest => mm = (fun y => if y = Str.ofString "wrong" then some (Value.ref e) else (fun y => if y = Str.ofString "told" then some (.ref lt0) else if y = Str.ofString "source" then some (.ref x) else if y = Str.ofString "lone" then some (.bool (decide (List.drop (ys.length - 1) (sS T.cps.toList) = [Str.ofString "\\"]))) else mSig D gv y) y) ∧ ∃ kk, rest = [(x, instObj 133 dx), (dx, tkD kk ist gv T (stm : Int) (.str (sgS T.cps.toList p) tn)), (e, peO de' a0 tb ia), (ia, ieO i0 it .none), (de', peD w.params pk gv T.cps.toList stm), (a0, tupO [.str (peMsg T.cps.toList stm) tm]), (lt0, listOf (List.toArray tv) nt), (D, listOf ys.toArray nD), (le, listOf us.toArray ne), (ls, listOf vs.toArray ns), (L' + 1 + 1 + 1, oe), (L' + 1 + 1, os), (L' + 1, ot)])
      hB rfl rfl (by intro z; cases z) hnb rfl rfl rfl (clsNameX hB rfl rfl) ?body ?k
    case body =>
      refine stopQ ?_
      k_steps
      unfold Stop
      refine callMatchR V hB ⟨⟨F5, fun q hq => N6 q (mem6 q hq), ff2, st2, tn2⟩, rfl, rfl, rfl, (by intro z; cases z), hnb, (by k_room), hhd⟩ (off_rest ⟨nx1.1, nx1.2.1, nx1.2.2.1, nx1.2.2.2, rx⟩ ⟨nx2.1, nx2.2.1, nx2.2.2.1, nx2.2.2.2, rdx⟩) (List.mem_cons_self ..) (List.mem_cons_of_mem _ (List.mem_cons_self ..)) (by simp) hsT ⟨_, _, rfl⟩ hlo.lone_ ?_
      intro kk
      exact ⟨rfl, _, rfl⟩
    case k =>
      rintro g9 h9 tk9 mm9 rest9 e' ia' de9 a9 tb9 i09 it9 pk' tm' ⟨rfl, kk, rfl⟩ hne9 G9
      obtain ⟨F9, N9, ff9, st9, tn9⟩ := G9
      have X9 := hB.X.keeps st9
      have T9 : TopM mean mg mb g9 := hB.T.keeps st9
      have nx3 : @Ne Nat e' x ∧ @Ne Nat ia' x ∧ @Ne Nat de9 x ∧ @Ne Nat a9 x := by have := hne9 _ (List.mem_cons_self ..); exact ⟨fun z => this.1 z.symm, fun z => this.2.1 z.symm, fun z => this.2.2.1 z.symm, fun z => this.2.2.2 z.symm⟩
      have nx4 : @Ne Nat e' dx ∧ @Ne Nat ia' dx ∧ @Ne Nat de9 dx ∧ @Ne Nat a9 dx := by have := hne9 _ (List.mem_cons_of_mem _ (List.mem_cons_self ..)); exact ⟨fun z => this.1 z.symm, fun z => this.2.1 z.symm, fun z => this.2.2.1 z.symm, fun z => this.2.2.2 z.symm⟩
      clear F5 N6 X2 T2
      k_steps
      unfold Stop
      refine' callFits ?yfhB ?yfst ?yfF ?yfN ?yfr ?yfu ?yfl ?yfi ?yfg ?yfe ?yfd ?yfa ?_
      case yfhB => with_reducible assumption
      case yfst => with_reducible assumption
      case yfF => k_asm
      case yfN => k_asm
      case yfr => k_room
      case yfu => first | (simp only [units_deeper]; omega) | (simp only [Around.mark_units, units_deeper]; omega)
      case yfl => with_reducible assumption
      case yfe => k_mem
      case yfd => k_mem
      case yfa => k_mem
      case yfi => with_reducible assumption
      case yfg => with_reducible assumption
      intro hA tkA FA NA
      k_steps
      refine nameGone FA NA rfl rfl rfl fun hB1 vB tkB FB NB => ?_
      have NC : News g9 L' hB1 _ := fun q hq => NB q (mem7 q hq)
      clear FA NA NB F9 N9
      k_steps
      unfold Stop
      refine callTellS hB ⟨⟨FB, NC, ff9, st9, tn9⟩, rfl, rfl, rfl, (by intro z; cases z), hnb, (by k_room), hdSh_of (NC (e, _) (by k_mem)).1 (NC (ia, _) (by k_mem)).1⟩ (off_rest ⟨nx3.1, nx3.2.1, nx3.2.2.1, nx3.2.2.2, nx1.1, nx1.2.1, nx1.2.2.1, nx1.2.2.2, rx⟩ ⟨nx4.1, nx4.2.1, nx4.2.2.1, nx4.2.2.2, nx2.1, nx2.2.1, nx2.2.2.1, nx2.2.2.2, rdx⟩) (List.mem_cons_self ..) (List.mem_cons_of_mem _ (List.mem_cons_self ..)) c1 c2 c3 ?_
      rintro gD hD tkD kk GD tD
      rw [c4]
      clear FB NC X9 T9 nx1 nx2 nx3 nx4 rx rdx
      obtain ⟨FD, ND, ffD, stD, tnD⟩ := GD
      have XD := hB.X.keeps stD
      have TD : TopM mean mg mb gD := hB.T.keeps stD
      k_steps
      · refine nameGone FD ND rfl rfl rfl fun h7 v7 tk7 F7 N7 => ?_

        first | exact hQ gD h7 _ _ tnD F7 | (rw [show ((sti : Int) == (sti : Int)) = true from beq_self_eq_true _]; exact hQ gD h7 _ _ tnD F7)
      · rename (_ == _) = false => zz
        simp at zz
end Mine
end
section
open PySem PySem.W PySem.Calls PyProof.Rows
set_option maxRecDepth 100000
namespace Mine
theorem fill23 : PySem.Challenge.rw_dw0053_01 = PySem.Challenge.rw_dw0053_01 ∧ ∀ P, Mine.hd.heap_39 P = Mine.hd.heap_39 P := by
  k_fill
  exact ⟨rfl, fun _ => rfl⟩
local macro_rules | `(tactic| k_handed) => `(tactic| wtm_at "a")
local macro_rules | `(tactic| k_room) => `(tactic| wtm_at "m0")
local macro_rules | `(tactic| walk_at "call ref") => `(tactic| (refine stop ?_))
local macro_rules | `(tactic| walk_at "subscriptTail Name Slice ref ref") => `(tactic| wtm_at "m6")
local macro_rules | `(tactic| walk_at "call builtin:len") => `(tactic| wtm_at "m9")
local macro_rules | `(tactic| walk_at "binaryOp Add ref ref") => `(tactic| (refine stop ?_))
local macro_rules | `(tactic| walk_at "exec Assign cons ListComp") => `(tactic| (refine stop ?_))
theorem exitK0 {h g' h' : Heap} {L : Addr} {m' : Str → Option Value} {fs : List Addr} (T : KtsTurn fs h g') (F : Fr g' L h' m') : Kept [] fs h h' := by
  refine ⟨?_, fun b o e n => ?_⟩
  · have a := F.above
    rw [T.size] at a
    exact Nat.le_trans a (Nat.le_of_lt F.ns.lt)
  · obtain ⟨sl, q⟩ := T.up e
    refine ⟨sl, F.keep _ _ q, fun nf => ?_⟩
    have q' := T.other b o e nf
    rw [q] at q'
    exact congrArg Obj.slots (Option.some.inj q')
theorem lone_one {u : List Nat} {stm : Nat} (h : LoneAt u 0 stm) : u = [92] := by
  have h0 : (stO u)[0]? = some 0 := first_at.1 (by rw [h.n]; omega)
  have e := h.at_
  rw [h0] at e
  injection e with e
  subst e
  have l := h.lone_.1
  have n := h.len
  match u, n, l with
  | [a], _, l => simpa using l
theorem loneCases (u : List Nat) : (∀ (j i : Nat), (stO u)[j]? = some i → ¬ lone u i) ∨ ∃ m stm, LoneAt u m stm := by
  by_cases q : ∃ (j i : Nat), (stO u)[j]? = some i ∧ lone u i
  · obtain ⟨j, i, a, b⟩ := q
    exact .inr ⟨j, i, .of a b⟩
  · exact .inl fun j i a b => q ⟨j, i, a, b⟩
set_option maxHeartbeats 4000000 in
theorem readC {w : World} {mean : ExcName → Option Value} {mg mb : Str → Option Value} {base : Heap} {s : Shared} {R : Result → Shared → Prop}
    {T : Str} {tT : Tok} {gv ist : Value} {dp un : Nat} {outer : List Env} {gd : Option (List Code)}
    (TI : TokInit w gv ist T) (V : GivOk w gv T)
    (hB : BaseOk w mean mg mb base) (st : base.StaysIn s.heap) (ff : s.heap.FunFrames base outer) (hroom : dp + 10 < recursionLimit) (hun : un + 20 < cLine) (hlen : T.length ≤ 100)
    (hR : ∀ h' tk, Kept [] (fsOf outer) s.heap h' → R (.ok (.ret (.bool true))) { s with heap := h', toks := tk }) :
    codeAny (model PySem.Challenge.rw_dw0053_01.row.prog w) { handled := none, depth := dp, frames := some outer, guards := gd, units := un } (.call (.ref 156) ⟨[gv, .str T tT], []⟩) R s := by
  refine' enterC (binds := [(Str.ofString "given", gv), (Str.ofString "text", .str T tT)]) (hB.X.keeps st) (hB.T.nolimit.keeps st) ?k3 ?k4 ?k5 ?k6 ?k7 ?k8 ?h ?c1 ?c2 ?c3
  case k3 => k_is
  case k4 => k_is
  case k5 => k_room
  case k6 => exact BindsTo.of_eq rfl
  case k7 => exact rfl
  case k8 => decide +kernel
  case c1 => exact rfl
  case c2 => exact rfl
  case c3 => exact rfl
  intro L' h₁ tk1 cells' hL F' N' Y' Q E hQ hE
  have X' := hB.X.keeps st
  have T' : TopM mean mg mb s.heap := hB.T.keeps st
  k_cells Y'
  (try simp only [List.cons_append, List.nil_append] at N')
  clear hE
  refine wpAny_mono (E := fun _ _ => False) ?_ (fun _ _ q => q) (fun _ _ z => z.elim)
  k_steps
  unfold Stop
  k_here
  (with_reducible show wpAny _ _ (call (Value.ref 144) _) _ _ _)
  (refine' callStarts (by with_reducible assumption) ?st (by k_asm) (by k_asm) (by exact rfl) (by k_room) (by with_reducible assumption) ?_; (case st => with_reducible assumption))
  intro h5 tk5 ls vs n FS NS l1a hvs hvz
  (simp only [AllNe, and_true] at l1a)
  (try dsimp only)
  k_steps
  unfold Stop
  k_here; (with_reducible show wpAny _ _ (binaryOp _ (Value.ref _) (Value.ref _)) _ _ _); k_dflt (refine' addI (by k_asm) (by k_asm) (by k_mem) (by k_mem) (by first | omega | (simp only [List.length_drop, List.length_append, List.length_cons, List.length_nil]; omega)) (by exact IntsAre.drop (by with_reducible assumption) 1) (by exact IntsAre.cons _ _ .nil) ?_)
  intro le h1 FA NA l1d hI
  (try k_lt l1d)
  (try k_sweep)
  k_steps
  rename_i o1 o2 o3 d1 d2 d3 h4 os ds tk4 D1 h3 l1b lx h2 l1c h0 oe F N de
  have em : ∀ (env : Env), env.kindOf (Str.ofString "given") = some .local → env.kindOf (Str.ofString "text") = some .cell → (bindL env.kindOf [(Str.ofString "given", gv), (Str.ofString "text", .str T tT)] fun _ => none) = fun y => if y = Str.ofString "given" then some gv else none := by
    intro env e1 e2
    funext y
    simp [bindL, e1, e2]
  rw [em _ rfl rfl] at F
  have d3' : o3.data = .cell (some (.str T tT)) := d3
  unfold Stop
  refine Assign_ListComp_DCr (L := L') (h₀ := s.heap) (m := fun y => if y = Str.ofString "given" then some gv else none) (pz := fun _ => true) (d := fun k => .str (Txt.slice T (some ((natI (startsOf T.cps.toList T.length)).getD k.toNat 0)) (some ((List.drop 1 (natI (startsOf T.cps.toList T.length)) ++ [(T.length : Int)]).getD k.toNat 0)))) rfl rfl rfl rfl ?hcell rfl ?hnames rfl rfl rfl ?hh ?hs
  case hcell => decide
  case hnames => decide
  case hs => intro _; rfl
  case hh =>
    refine stopQ ?_
    k_steps
    rename IsRange _ _ _ _ _ _ _ _ => hr
    rename Fr _ L' _ _ => F2
    rename News _ L' _ _ => N2
    have hz : vs.length = (startsOf T.cps.toList T.length).length := by rw [hvs.length]; unfold natI; rw [List.length_map]
    refine ⟨_, _, _, _, _, _, _, _, vs.length, rfl, hr, small_up _ (by omega), size_up _, by rw [sizeLine_eq]; omega, F2, N2, ?_, ?_, ?_⟩
    · intro C a v s₂ m₂ E' _ _ _ _ _ _
      exact wpAny_pure ⟨rfl, s₂.heap, s₂.toks, rfl, fun _ _ e => e⟩
    · intro C a v s₂ m₂ E' hC ha hv _ hn hm hk
      unfold rangeInts at ha
      obtain ⟨j, hj, rfl⟩ := List.mem_map.mp ha
      have lt := List.mem_range.mp hj
      obtain ⟨tv, rfl⟩ := ItemKind.int_is hv
      have lt' : j < (stO T.cps.toList).length := by rw [stO, len_toList, ← hz]; exact lt
      have hi := List.getElem?_eq_getElem lt'
      obtain ⟨ee, he, _, _⟩ := st_en hi
      have ej : (0 : Int) + (j : Int) * 1 = (j : Int) := by omega
      rw [ej] at hm
      have n1 := N2 (L' + 1, o3) (by simp)
      have n2 := N2 (L' + 1 + 1, os) (by simp)
      have n3 := N2 (L' + 1 + 1 + 1, oe) (by simp)
      have n4 := N2 (ls, listOf vs.toArray n) (by simp)
      have n5 := N2 (le, _) (List.mem_cons_self ..)
      refine eltE (j := j) rfl rfl rfl rfl rfl rfl rfl rfl (hk _ _ n1.1) (hk _ _ n2.1) (hk _ _ n3.1) d3' ds de hn hm ⟨_, hk _ _ n4.1, rfl, n, rfl⟩ ⟨_, hk _ _ n5.1, rfl, 0, rfl⟩ hvs hI (by rw [st_eq]; exact natI_get hi) (by rw [ends_eq]; exact natI_get he) (by omega) (by omega) fun h' t' k kp => ⟨?_, h', k, rfl, kp⟩
      rw [ej, Int.toNat_natCast, ends_eq, st_eq, List.getD_eq_getElem?_getD, List.getD_eq_getElem?_getD, natI_get hi, natI_get he]
      exact .str _ _
    · intro D ys h' tk F3 N3 gD lD pD cD
      have hsg := carried_signs (by rw [stO, len_toList, ← hz]) cD
      obtain ⟨nD, eD⟩ := pD.1
      have DL : D ≠ L' := fun z => by
        obtain ⟨o, _, _, ho, hdd⟩ := F3.ns
        rw [← z, eD] at ho
        injection ho with ho
        subst ho
        simp at hdd
      have NE := allNe_of pD.2
      simp only [AllNe, and_true] at NE
      have N4 : News s.heap L' h' [(D, listOf ys.toArray nD), (le, listOf (List.drop 1 vs ++ [Value.int (T.length : Int) (tk4 + 1 + 1)]).toArray 0), (ls, listOf vs.toArray n), (L' + 1 + 1 + 1, oe), (L' + 1 + 1, os), (L' + 1, o3)] := fun q hq => by
        rcases List.mem_cons.mp hq with rfl | hq
        · exact ⟨eD, DL, gD⟩
        · refine N3 q ?_
          simp only [List.mem_cons] at hq ⊢
          rcases hq with h | h | h | h | h | h <;> simp [h]
      have hnb : base.get? L' = none := by
        cases q : base.get? L' with
        | none => rfl
        | some o => exact absurd (Nat.lt_of_lt_of_le (Heap.lt_size (st _ _ q)) F3.above) (Nat.lt_irrefl _)
      rw [st_eq] at hvs
      rw [ends_eq] at hI
      have yl : ys.length = vs.length := by rw [strs_len hsg, sS_len, stO, len_toList, ← hz]
      have ul : (List.drop 1 vs ++ [Value.int (T.length : Int) (tk4 + 1 + 1)]).length ≤ 101 := by simp; omega
      have hq0 : ∀ g' h' tk m', KtsTurn (fsOf outer) s.heap g' → Fr g' L' h' m' → R (.ok (.ret (.bool true))) { s with heap := h', toks := tk } := fun g' h' tk m' a b => hR h' tk (exitK0 a b)
      have hq1 : ∀ g' h'' tk2 m', KtsTurn (fsOf outer) s.heap g' → Fr g' L' h'' m' → Q (.ret (.bool true)) { heap := h'', gens := s.gens, drawn := s.drawn, toks := tk2, os := s.os } := fun g' h'' tk2 m' a b => hQ _ _ (hq0 g' h'' tk2 m' a b)
      have z1 : @Ne Nat le D ∧ @Ne Nat ls D ∧ @Ne Nat (L' + 1 + 1 + 1) D ∧ @Ne Nat (L' + 1 + 1) D ∧ @Ne Nat (L' + 1) D := ⟨NE.1, NE.2.2.2.1, NE.2.2.2.2.1, NE.2.2.2.2.2.1, NE.2.2.2.2.2.2⟩
      have z2 : @Ne Nat ls le ∧ @Ne Nat (L' + 1 + 1 + 1) le ∧ @Ne Nat (L' + 1 + 1) le ∧ @Ne Nat (L' + 1) le := ⟨Nat.ne_of_lt l1d.2.2.1, Nat.ne_of_lt l1d.2.2.2.1, Nat.ne_of_lt l1d.2.2.2.2.1, Nat.ne_of_lt l1d.2.2.2.2.2⟩
      have z3 : @Ne Nat (L' + 1 + 1 + 1) ls ∧ @Ne Nat (L' + 1 + 1) ls ∧ @Ne Nat (L' + 1) ls := l1a
      have z4 : ys.length ≤ 100 := by rw [yl]; exact hvz
      rcases loneCases T.cps.toList with hnl | ⟨m, stm, hlo⟩
      · exact readRest3 (by k_is) TI V hB st ff hroom hun hlen hnb F3 N4 z1 z2 z3 d3' ds de hsg hI hvs z4 ul hvz hnl hq1
      · rcases Nat.eq_zero_or_pos m with rfl | hm0
        · exact readRest1 (by k_is) TI V hB st ff hroom hun hlen hnb F3 N4 z1 z2 z3 d3' ds de hsg hI hvs z4 ul hvz (lone_one hlo) hq1
        · exact readRest2 (by k_is) TI V hB st ff hroom hun hlen hnb F3 N4 z1 z2 z3 d3' ds de hsg hI hvs z4 ul hvz hm0 hlo hq1
end Mine
end
section
open PySem PySem.W PySem.Calls PyProof.Rows
set_option maxRecDepth 100000
namespace Mine
theorem callRead {w : World} {mean : ExcName → Option Value} {mg mb : Str → Option Value} {h₀ : Heap} {A : Around} {E Q : Value → Shared → Prop} {s : Shared} {L : Addr} {env : Env} {m : Str → Option Value} {news : List (Addr × Obj)} {T : Str} {tT : Tok} {gv ist : Value}
    (TI : TokInit w gv ist T) (V : GivOk w gv T) (hB : BaseOk w mean mg mb h₀) (F : Fr h₀ L s.heap m) (N : News h₀ L s.heap news)
    (hA : A.handled = none) (hfr : A.frames = some [env]) (hf : env.frame = some L) (hkm : env.scope.kind ≠ .module)
    (hroom : A.depth + 10 < recursionLimit) (hun : A.units + 20 < cLine) (hlen : T.length ≤ 100)
    (h : ∀ h' tk, Fr h₀ L h' m → News h₀ L h' news → Q (.bool true) { s with heap := h', toks := tk }) :
    wpAny (model PySem.Challenge.rw_dw0053_01.row.prog w) A (call (.ref 156) [gv, .str T tT]) Q E s := by
  obtain ⟨a0, d0, f0, gd0, u0⟩ := A
  dsimp only at hA hfr hroom hun
  subst hA hfr
  have hnb := kts_self F
  have ff : s.heap.FunFrames h₀ [env] := Heap.FunFrames.cons hkm hf F.ns hnb trivial
  have fsE : fsOf [env] = [L] := by unfold fsOf; simp [hf]
  refine wpAny_call (readC TI V hB (fun b o e => F.keep _ _ e) ff hroom hun hlen fun h' tk k => ?_)
  rw [fsE] at k
  have keep : ∀ b o, s.heap.get? b = some o → b ≠ L → h'.get? b = some o := fun b o e n => k.get e (by simp) (by simpa using n)
  refine h h' tk ⟨k.ns F.ns (by simp), fun b o e => keep b o (F.keep b o e) (fun z => by rw [z, hnb] at e; cases e), F.above⟩ fun p hp => ?_
  have P := N p hp
  exact ⟨keep _ _ P.1 P.2.1, P.2⟩
end Mine
end
section
open PySem PySem.W PySem.Calls PyProof.Rows Builtin
set_option maxRecDepth 100000
namespace Mine
def lat (T : PySem.Str) : Array UInt8 := T.cps.map (·.toUInt8)
theorem enc_tree2 (x : PySem.Str) (t u : Tok) : «str.encode» ⟨[.str x t, .str (PySem.Str.ofString "latin-1") u], []⟩ = (do ret (← _codecs.encodeRoad "str.encode" (.str x t) x (PySem.Str.ofString "latin-1") none)) := by kernel_rfl
theorem encRoad_l1 (id : String) (self : Value) (x : PySem.Str) : _codecs.encodeRoad id self x (PySem.Str.ofString "latin-1") none = (do mkBytes (← _codecs.encodeNarrow id _codecs.latin1Codec none self x)) := by kernel_rfl
theorem fold_lat (l : List Nat) (acc : Array UInt8) : l.foldl (fun acc y => acc ++ (_codecs.latin1Codec.bytesOf y).toArray) acc = acc ++ (l.map (·.toUInt8)).toArray := by
  induction l generalizing acc with
  | nil => simp
  | cons a r ih => rw [List.foldl_cons, ih]; simp [_codecs.latin1Codec]
theorem enc_key {S : Nat} {out : Array UInt8} (n : Nat) (f : Nat → (Nat × Array UInt8 × _codecs.Faults) → Sem (ForInStep (Nat × Array UInt8 × _codecs.Faults))) (h0 : 0 < n → f 0 (0, #[], {}) = pure (.yield (S, out, {}))) (h1 : ∀ j, f j (S, out, {}) = pure (.done (S, out, {}))) (hn : n = 0 → S = 0 ∧ out = #[]) :
    forIn (List.range' 0 n 1) (0, #[], ({} : _codecs.Faults)) f = pure (S, out, {}) := by
  match n with
  | 0 => obtain ⟨rfl, rfl⟩ := hn rfl; rfl
  | 1 => rw [List.range'_succ, List.forIn_cons, h0 (by omega), pure_bind]; rfl
  | k + 2 =>
    rw [List.range'_succ, List.forIn_cons, h0 (by omega), pure_bind]
    show forIn (List.range' (0 + 1) (k + 1) 1) _ f = _
    rw [List.range'_succ, List.forIn_cons, h1, pure_bind]
theorem enc_l1 (id : String) (self : Value) (T : PySem.Str) (h : ∀ x ∈ T.cps.toList, x < 256) (hz : T.length ≤ 100) : _codecs.encodeNarrow id _codecs.latin1Codec none self T = pure (lat T) := by
  unfold _codecs.encodeNarrow
  dsimp only
  rw [Std.Legacy.Range.forIn_eq_forIn_range']
  simp only [Std.Legacy.Range.size, Nat.sub_zero, Nat.add_sub_cancel, Nat.div_one]
  have sl : (1000 : Nat) ≤ sizeLine := by decide
  have hl : (lat T).size = T.length := by unfold lat; rw [Array.size_map]; rfl
  refine Eq.trans (congrArg (fun z => z >>= fun (r : Nat × Array UInt8 × _codecs.Faults) => (pure r.2.1 : Sem (Array UInt8))) (enc_key (S := T.length) (out := lat T) T.length _ ?_ ?_ ?_)) (by rw [pure_bind])
  · intro hp
    rw [if_neg (by simp)]
    have e0 : T.cps[0]? = some T.cps[0] := Array.getElem?_eq_getElem hp
    rw [e0]
    have nb : ∀ x ∈ T.cps.toList, _codecs.latin1Codec.bad x = false := fun x hx => by
      have := h x hx
      simp [_codecs.latin1Codec]; omega
    dsimp only
    rw [nb _ (Array.getElem_mem_toList hp)]
    rw [if_pos (by rfl)]
    have ex : T.cps.extract 0 T.cps.size = T.cps := by simp
    have ff : Array.findIdx? _codecs.latin1Codec.bad T.cps = none := by
      rw [Array.findIdx?_eq_none_iff]
      intro x hx
      exact nb x (by simpa using hx)
    rw [ex, ff]
    dsimp only [Option.getD_none]
    rw [ex, ← Array.foldl_toList, fold_lat]
    have : #[] ++ (T.cps.toList.map (·.toUInt8)).toArray = lat T := by
      unfold lat
      apply Array.ext'
      rw [Array.toList_append, Array.toList_map]; rfl
    rw [this, Nat.zero_add]
    rfl
  · intro j
    rw [if_neg (by rw [hl]; omega)]
    have : T.cps[T.length]? = none := Array.getElem?_eq_none (Nat.le_refl _)
    rw [this]
  · intro e
    refine ⟨e, ?_⟩
    exact Array.eq_empty_of_size_eq_zero (by rw [hl, e])
theorem l1_lat {T : PySem.Str} (h : ∀ x ∈ T.cps.toList, x < 256) : (⟨l1 (lat T)⟩ : PySem.Str) = T := by
  obtain ⟨⟨l⟩⟩ := T
  show (⟨l1 (lat ⟨⟨l⟩⟩)⟩ : PySem.Str) = ⟨⟨l⟩⟩
  unfold l1 lat
  congr 1
  simp only [List.map_toArray, List.map_map]
  congr 1
  refine (List.map_congr_left (g := _root_.id) fun x hx => ?_).trans (List.map_id l)
  have := h x hx
  simp only [Function.comp_apply, id_eq]
  show (UInt8.ofNat x).toNat = x
  simp
  omega
theorem lat_size (T : PySem.Str) : (lat T).size = T.length := by unfold lat; rw [Array.size_map]; rfl
theorem lat_nl {T : PySem.Str} (h : ∀ x ∈ T.cps.toList, x < 256) (i : Nat) : ((lat T)[i]? == some 10) = (T.cps.toList[i]? == some 10) := by
  unfold lat
  rw [Array.getElem?_map, ← Array.getElem?_toList]
  cases q : T.cps.toList[i]? with
  | none => rfl
  | some x =>
    have := h x (List.mem_of_getElem? q)
    rw [Bool.eq_iff_iff]
    simp only [Option.map_some, beq_iff_eq, Option.some.injEq]
    constructor
    · intro e
      have e2 := congrArg UInt8.toNat e
      have e3 : (UInt8.ofNat x).toNat = x := by simp; omega
      have : (x.toUInt8).toNat = x := e3
      rw [this] at e2
      exact e2
    · rintro rfl; rfl
theorem meets_enc {T : PySem.Str} {t u : Tok} (h : ∀ x ∈ T.cps.toList, x < 256) (hz : T.length ≤ 100) :
    Meets («str.encode» ⟨[.str T t, .str (PySem.Str.ofString "latin-1") u], []⟩) (fun _ R s => ∀ t' k, R (.ok (.ret (.bytes (lat T) t'))) { s with toks := k }) := by
  refine .of_wp fun prog w A R s hR => ?_
  rw [enc_tree2]
  refine wpAny_bind ?_
  rw [encRoad_l1, enc_l1 _ _ _ h hz]
  refine wpAny_bind (wpAny_pure ?_)
  refine wpAny_mkBytes (wpAny_pure ⟨_, rfl, hR _ _⟩) ?_
  rw [lat_size, sizeLine_eq]; omega
theorem callEnc {prog : Program} {w : World} {A : Around} {E : Value → Shared → Prop} {s : Shared} {T : PySem.Str} {t u : Tok} {Q : Value → Shared → Prop} (hz : T.length ≤ 100) (h : ∀ x ∈ T.cps.toList, x < 256) (k : ∀ t' tk, Q (.bytes (lat T) t') { s with toks := tk }) :
    wpAny (model prog w) A (call (.builtin "str.encode") [.str T t, .str (PySem.Str.ofString "latin-1") u]) Q E s :=
  call_meets_kw F.slot_str_encode (typeIs_str _ _ _) F.entry_str_encode (F.args_str_encode_2 _ _) (meets_enc h hz) k
theorem decLat (w : World) {T : PySem.Str} (hz : T.length ≤ 100) (h : ∀ x ∈ T.cps.toList, x < 256) : DecIs w (lat T) T := by
  have := decIs w (lat T) (by rw [lat_size]; omega)
  rwa [l1_lat h] at this
end Mine
end
section
open PySem PySem.W PySem.Calls PyProof.Rows
set_option maxRecDepth 100000
namespace Mine
def Low (T : PySem.Str) : Prop := ∀ x ∈ T.cps.toList, x < 256
theorem low_app {a b : PySem.Str} (h1 : Low a) (h2 : Low b) : Low (a ++ b) := by
  intro x hx
  have : (a ++ b).cps = a.cps ++ b.cps := rfl
  rw [this, Array.toList_append] at hx
  rcases List.mem_append.mp hx with h | h
  · exact h1 x h
  · exact h2 x h
theorem low_join {sep : PySem.Str} (hs : Low sep) : ∀ {l : List PySem.Str}, (∀ a ∈ l, Low a) → Low (PySem.Str.join sep l)
  | [], _ => by intro x hx; exact absurd hx (by simp [PySem.Str.join, PySem.Str.empty])
  | [a], h => h a (.head _)
  | a :: b :: r, h => low_app (low_app (h a (.head _)) hs) (low_join hs (l := b :: r) fun c hc => h c (.tail _ hc))
theorem low_item (k : Int) : Low (Txt.item (PySem.Str.ofString "ab\\\né") (k.fmod 5)) := by
  have h0 : 0 ≤ k.fmod 5 := Int.fmod_nonneg_of_pos _ (by decide)
  have h1 : k.fmod 5 < 5 := Int.fmod_lt_of_pos _ (by decide)
  have : k.fmod 5 = 0 ∨ k.fmod 5 = 1 ∨ k.fmod 5 = 2 ∨ k.fmod 5 = 3 ∨ k.fmod 5 = 4 := by omega
  unfold Low
  rcases this with h | h | h | h | h <;> rw [h] <;> decide +kernel
theorem low_text (ks : List Int) : Low (Txt.join (PySem.Str.ofString "") (ks.map fun a => Txt.item (PySem.Str.ofString "ab\\\né") (a.fmod 5))) := by
  rw [eq_of_beq (join_plain_closes _ _)]
  refine low_join (by unfold Low; decide +kernel) fun a ha => ?_
  obtain ⟨k, _, rfl⟩ := List.mem_map.mp ha
  exact low_item k
theorem decNil (w : World) : DecIs w #[] (PySem.Str.ofString "") := by
  have := decIs w #[] (by decide)
  rwa [show (⟨l1 #[]⟩ : PySem.Str) = PySem.Str.ofString "" from by decide +kernel] at this
theorem nlNil (i : Nat) : ((#[] : Array UInt8)[i]? == some 10) = ((PySem.Str.ofString "").cps.toList[i]? == some 10) := by
  have : (PySem.Str.ofString "").cps.toList = [] := by decide +kernel
  rw [this]; simp
theorem gmEnc {M : Model} {A : Around} {E : Value → Shared → Prop} {s : Shared} {x : PySem.Str} {t : Tok} {pl : Sem Bool} {Q : Value × List Value → Shared → Prop} (h : Q (.builtin "str.encode", [.str x t]) s) : wpAny M A (getMethod (.str x t) "encode" pl) Q E s :=
  GM.of (.str x t) (typeIs_str _ _ _) F.slot_str_encode F.type_str_encode GM.noRef h
end Mine
end
section
open PySem PySem.W PySem.Calls PyProof.Rows
open Mine
theorem Mine.fill30 : PySem.Challenge.rw_dw0053_01 = PySem.Challenge.rw_dw0053_01 ∧ ∀ P, Mine.hd.heap_39 P = Mine.hd.heap_39 P := by
  k_fill
  exact ⟨rfl, fun _ => rfl⟩
local macro_rules | `(tactic| k_qdec) => `(tactic| decide +kernel)
local macro_rules | `(tactic| walk_at "key of no goal") => `(tactic| (refine stop ?_))
local macro_rules | `(tactic| walk_at "CompSrc") => `(tactic| (refine stop ?_))
local macro_rules | `(tactic| walk_at "call ref") => `(tactic| (refine stop ?_))
local macro_rules | `(tactic| walk_at "callWith") => `(tactic| ((with_reducible show wpAny _ _ (callWith (Value.ref _) _) _ _ _); refine stop ?_))
local macro_rules | `(tactic| walk_at "call builtin:str.encode") => `(tactic| (refine stop ?_))
local macro_rules | `(tactic| walk_at "getMethod str") => `(tactic| with_reducible refine gmEnc ?_)
set_option maxRecDepth 100000 in
set_option maxHeartbeats 4000000 in
theorem PySem.Challenge.cw_dw0053_01_holds : PySem.Challenge.rw_dw0053_01.Holds := by
  refine Mine.hd ?_
  k_go0
  (all_goals try k_fold)
  k_steps
  unfold Stop
  rename IntsAre _ (List.take 63 _) => hI63
  have hw63 := hI63.length
  rw [List.length_take] at hw63
  refine LCg.CompSrc.ledger (by rfl) (by k_asm) (by k_asm) (by k_mem) (by rw [List.size_toArray, sizeLine_eq]; omega) ?_
  intro g'
  refine' kct_list (fun k => Txt.item (Str.ofString "ab\\\né") (k.fmod 5)) (by assumption) (fun k' t' I' oI' C' oC' D' m' ys' h' tk' E' hk' hC' hx' F' N' off' ne' => ?_) ?_
  focus ((show KPfMark → _); intro hMark'; (try (simp only [LCg.Off3, and_true] at off')))
  all_goals k_steps
  all_goals (
    unfold Stop
    rename (Mine.hd.heap_39 _).In _ => hX
    rename Top _ _ _ _ _ _ => hT
    rename Fr _ _ _ _ => F1
    rename News _ _ _ _ => N1
    refine callRead (tokInitS (by decide)) (givS (by decide)) ⟨hX, hT⟩ F1 N1 rfl rfl rfl (by intro z; cases z) (by simp only [Around.deeper, callerA]; decide +kernel) (by simp only [units_deeper]; decide +kernel) (by decide) ?_
    intro h1 tk1 F2 N2
    clear F1 N1
    k_steps
    unfold Stop
    refine callRead (tokInitB (decNil _) (by decide) (by decide) nlNil) (givB (by decide) (by decide) nlNil) ⟨hX, hT⟩ F2 N2 rfl rfl rfl (by intro z; cases z) (by simp only [Around.deeper, callerA]; decide +kernel) (by simp only [units_deeper]; decide +kernel) (by decide) ?_
    intro h2 tk2 F3 N3
    clear F2 N2
    k_steps
    unfold Stop
    rename (Txt.join _ _).length = _ => hjE
    rw [List.length_take] at hjE
    have ha1 : (Str.ofString "a").length = 1 := by decide
    refine callRead (tokInitS (by omega)) (givS (by omega)) ⟨hX, hT⟩ F3 N3 rfl rfl rfl (by intro z; cases z) (by simp only [Around.deeper, callerA]; decide +kernel) (by simp only [units_deeper]; decide +kernel) (by omega) ?_
    intro h3 tk3 F4 N4
    clear F3 N3
    k_steps
    unfold Stop
    refine callEnc (by omega) (by first | exact low_text _ | exact low_app (low_text _) (by unfold Low; decide +kernel)) ?_
    intro t5 tk5
    (try dsimp only)
    k_steps
    unfold Stop
    refine callRead (tokInitB (decLat _ (by omega) (by first | exact low_text _ | exact low_app (low_text _) (by unfold Low; decide +kernel))) (by omega) (lat_size _) (lat_nl (by first | exact low_text _ | exact low_app (low_text _) (by unfold Low; decide +kernel)))) (givB (by omega) (lat_size _) (lat_nl (by first | exact low_text _ | exact low_app (low_text _) (by unfold Low; decide +kernel)))) ⟨hX, hT⟩ F4 N4 rfl rfl rfl (by intro z; cases z) (by simp only [Around.deeper, callerA]; decide +kernel) (by simp only [units_deeper]; decide +kernel) (by omega) ?_
    intro h6 tk6 F6 N6
    clear F4 N4
    k_steps)
end
end
end
end
end
end
end
end
