import PyProof.Rows.All
import Wide.All
import OpenK.AllK
import Wide.FinOn
import PySem.Challenge.RW_lq0009_12
set_option Elab.async false
section
open PySem PySem.W PyProof.Rows
namespace Mine

theorem run_last {den : Code → Sem Fin} {p : Program} {w : World} : ∀ (n : Nat) (s : Shared) (t : Thread) (o : Outcome) (s' : Shared), runN den p w n s t = .halted o s' →
    ∃ m s1 t1, runN den p w m s t = .running s1 t1 ∧ step den p w s1 t1 = .halt o s'
  | 0, s, t, o, s', h => by simp [runN] at h
  | n + 1, s, t, o, s', h => by
    cases hs : step den p w s t with
    | go s2 t2 =>
      rw [runN, hs] at h
      obtain ⟨m, s1, t1, a, b⟩ := run_last n s2 t2 o s' h
      exact ⟨m + 1, s1, t1, by rw [runN, hs]; exact a, b⟩
    | halt o2 s2 =>
      rw [runN, hs] at h
      cases h
      exact ⟨0, s, t, rfl, hs⟩

theorem run_go {den : Code → Sem Fin} {p : Program} {w : World} : ∀ (m : Nat) (s : Shared) (t : Thread) (s1 : Shared) (t1 : Thread), runN den p w m s t = .running s1 t1 →
    ∀ k s2 t2, k < m → runN den p w k s t = .running s2 t2 → ∃ s3 t3, step den p w s2 t2 = .go s3 t3
  | 0, _, _, _, _, _, k, _, _, hk, _ => absurd hk (Nat.not_lt_zero k)
  | m + 1, s, t, s1, t1, h, k, s2, t2, hk, h2 => by
    cases hs : step den p w s t with
    | go s' t' =>
      rw [runN, hs] at h
      cases k with
      | zero => rw [runN] at h2; cases h2; exact ⟨_, _, hs⟩
      | succ k => rw [runN, hs] at h2; exact run_go m s' t' s1 t1 h k s2 t2 (Nat.lt_of_succ_lt_succ hk) h2
    | halt o s' => rw [runN, hs] at h; cases h

noncomputable def isDone : Step → Bool
  | .halt (.done _) _ => true
  | _ => false
theorem nd_opt {α : Type} {x : Option α} {f : α → Step} {y : Step} (hf : ∀ a, isDone (f a) = false) (hy : isDone y = false) : isDone (Option.casesOn x y f) = false := by
  cases x with
  | none => exact hy
  | some a => exact hf a
theorem nd_ite {c : Prop} [Decidable c] {x y : Step} (hx : isDone x = false) (hy : isDone y = false) : isDone (if c then x else y) = false := by
  by_cases h : c
  · rw [if_pos h]; exact hx
  · rw [if_neg h]; exact hy
theorem nd_stop {b : Bool} (h : b = true) (g : b = false) : False := by rw [h] at g; cases g
theorem done_through {den : Code → Sem Fin} {p : Program} {w : World} {s s' : Shared} {t : Thread} {f : Flow} (h : step den p w s t = .halt (.done f) s') : through t = true ∧ s = s' := by
  have d : isDone (step den p w s t) = true := by rw [h]; rfl
  obtain ⟨heap, gens, drawn, toks, os⟩ := s
  obtain ⟨cur, code, pos, stack⟩ := t
  cases cur with
  | pure fin =>
    cases fin with
    | again c => cases d
    | done fl =>
      cases stack with
      | nil =>
        have h : finish (.done fl) ⟨heap, gens, drawn, toks, os⟩ = .halt (.done f) s' := h
        unfold finish at h
        by_cases hc : leftWithCleanup gens = true
        · rw [if_pos hc] at h; cases h
        · rw [if_neg hc] at h; cases h; exact ⟨rfl, rfl⟩
      | cons fr r => cases fr <;> exact absurd d Bool.false_ne_true
  | raise e =>
    cases stack with
    | nil => exact (nd_stop d (nd_ite rfl rfl)).elim
    | cons fr r => cases fr <;> exact absurd d Bool.false_ne_true
  | finish e => exact (nd_stop d (nd_ite rfl rfl)).elim
  | load a x k =>
    have d : isDone (match heap.get? a with | some o => .go _ _ | none => .halt (.stuck _) _) = true := d
    exact (nd_stop d (by cases heap.get? a <;> rfl)).elim
  | update a x g k => exact (nd_stop d (nd_ite (c := (heap.get? a).isSome = true) rfl rfl)).elim
  | choose src n k => exact (nd_stop d (nd_ite (c := n = 0) rfl rfl)).elim
  | genState g k =>
    have d : isDone (match gens[g]? with | none => .halt (.stuck _) _ | some o => .go _ _) = true := d
    exact (nd_stop d (by cases gens[g]? <;> rfl)).elim
  | resume g r l k =>
    refine (nd_stop d ?_).elim
    unfold step
    dsimp only
    cases gens[g]? with
    | none => rfl
    | some st =>
      cases st with
      | fresh c =>
        cases r with
        | throw e => rfl
        | send v => cases v <;> rfl
      | _ => rfl
  | yield v g l k =>
    have d : isDone (match splitAtGen stack with | some (frames, (g, k, c, p), rest) => .go _ _ | none => .halt (.stuck _) _) = true := d
    exact (nd_stop d (by cases splitAtGen stack <;> rfl)).elim
  | _ => exact absurd d Bool.false_ne_true

theorem top_ends {p : Program} {w : World} {s : Shared} {tree : Sem Fin} {R : Shared → Prop} (hz : s.asleep)
    (h : wpAny (model p w) callerA tree (fun fin s' => ∃ f, fin = .done f ∧ R s' ∧ s'.gens = #[]) (fun _ _ => False) s) :
    ∃ n t s', schedN (denote table) p w n (.single s ⟨tree, .builtin "claim.caller" {}, default, []⟩) = .running (.single s' t) ∧ through t = true ∧ s'.heap.life = s.heap.life ∧ R s' ∧ s'.gens = #[] := by
  have h' := wp_of_wpAny_done (R := fun r s' => (R s' ∧ (∃ f, r = .ok f) ∧ s'.gens = #[]) ∧ leftWithCleanup s'.gens = false) caller_in
    (wpAny_mono h (fun _ _ ⟨f, e, a, b⟩ => ⟨f, e, ⟨a, ⟨_, rfl⟩, b⟩, by rw [b]; simp [leftWithCleanup]⟩) fun _ _ x => x.elim) default
  obtain ⟨n, r, s₁, hn, hR, ⟨f, rfl⟩, hg⟩ := (wp_iff_halts (M := model p w) (R := fun r s' => R s' ∧ (∃ f, r = .ok f) ∧ s'.gens = #[]) ..).mp h'
  obtain ⟨s₂, hr, hf, hc⟩ := runNI_real _ _ _ hn rfl
  obtain rfl : s₂ = s₁ := Shared.eq_of_forget_eq hf hg
  obtain ⟨m, s3, t3, hm, hs⟩ := run_last _ _ _ _ _ hr
  obtain ⟨ht, rfl⟩ := done_through hs
  refine ⟨m, t3, s3, ?_, ht, ?_, hR, hg⟩
  · refine (schedN_prefix (denote table) p w m s ⟨tree, .builtin "claim.caller" {}, default, []⟩ hz fun k s' t' hk hrun => ⟨hc k s' t' hrun, fun e => ?_⟩).trans ?_
    · obtain ⟨s5, t5, e5⟩ := run_go m s _ s3 t3 hm k s' t' hk hrun
      have e' : step (model p w).den (model p w).prog (model p w).w s' t' = _ := e
      rw [e5] at e'; cases e'
    · have hm' : runN (denote table) p w m s ⟨tree, .builtin "claim.caller" {}, default, []⟩ = .running s3 t3 := hm
      rw [hm']; rfl
  · exact runN_life _ _ _ hr
theorem wpAny_step {M : Model} {A : Around} {E : Value → Shared → Prop} {s s1 : Shared} {α β : Type} {m : Sem α} {k : α → Sem β} {v : α} {Q : β → Shared → Prop} (r : ∀ {Q : α → Shared → Prop}, Q v s1 → wpAny M A m Q E s) (p : wpAny M A (k v) Q E s1) : wpAny M A (m >>= k) Q E s := wpAny_bind (r (Q := fun v s => wpAny M A (k v) Q E s) p)
theorem wpAny_to {M : Model} {A : Around} {E : Value → Shared → Prop} {s : Shared} {α β : Type} {m : Sem α} {k : α → Sem β} {v : α} {Q : β → Shared → Prop} (e : m = pure v) (p : wpAny M A (k v) Q E s) : wpAny M A (m >>= k) Q E s := wpAny_bind (e ▸ wpAny_pure p)
theorem wpAny_is {M : Model} {A : Around} {α : Type} {t : Sem α} {v : α} {s : Shared} {Q : α → Shared → Prop} {E : Value → Shared → Prop} (e : t = pure v) (q : Q v s) : wpAny M A t Q E s := e ▸ wpAny_pure q
theorem wpAny_yes {M : Model} {A : Around} {E : Value → Shared → Prop} {s : Shared} {α : Type} {c : Prop} [Decidable c] {x y : Sem α} {Q : α → Shared → Prop} (h : c) (p : wpAny M A x Q E s) : wpAny M A (if c then x else y) Q E s := (if_pos h).symm ▸ p
theorem wpAny_forC {M : Model} {A : Around} {E : Value → Shared → Prop} {s : Shared} {α β : Type} {a : α} {as : List α} {b : β} {f : α → β → Sem (ForInStep β)} {Q : β → Shared → Prop} (p : wpAny M A (f a b) (fun r s' => match r with | .done b => Q b s' | .yield b => wpAny M A (forIn as b f) Q E s') E s) : wpAny M A (forIn (a :: as) b f) Q E s := by
  rw [List.forIn_cons]
  refine wpAny_bind (wpAny_mono p (fun r s' q => ?_) fun _ _ x => x)
  cases r with
  | done b => exact wpAny_pure q
  | yield b => exact q
theorem wpAny_forN {M : Model} {A : Around} {E : Value → Shared → Prop} {s : Shared} {α β : Type} {b : β} {f : α → β → Sem (ForInStep β)} {Q : β → Shared → Prop} (q : Q b s) : wpAny M A (forIn ([] : List α) b f) Q E s := by rw [List.forIn_nil]; exact wpAny_pure q
theorem wpAny_no {M : Model} {A : Around} {E : Value → Shared → Prop} {s : Shared} {α : Type} {c : Prop} [Decidable c] {x y : Sem α} {Q : α → Shared → Prop} (h : ¬ c) (p : wpAny M A y Q E s) : wpAny M A (if c then x else y) Q E s := (if_neg h).symm ▸ p
end Mine
end
section
open PySem PySem.W PyProof.Rows PySem.Claim2Try PySem.Pin
namespace Mine

theorem staticOf_of_ns {h : Heap} {m : Str → Option Value} (hn : h.Ns cStatics m) (key : Str) : staticOf h key = m key := by
  obtain ⟨o, es, ep, ho, hd, _, hf⟩ := hn
  unfold staticOf
  rw [ho]
  dsimp only
  rw [hd]
  dsimp only
  rw [← hf key]
  rfl

/-- what the text's top leaves, seen from the heap that it found -/
structure AfterTop (p : Program) (h h' : Heap) (mg mg' : Str → Option Value) : Prop where
  old : ∀ b o, h.get? b = some o → b ≠ mainGlobals → b ≠ cStatics → h'.get? b = some o
  g : h'.Ns mainGlobals mg'
  st : ∃ mc, h'.Ns cStatics mc ∧ ∀ key v, mc key = some v → key.opensWith "type.__subclasses__." = true
  names : ∀ x v, mg' x = some v → x ∈ startupNames ∨ x ∈ p.boundNames
  laid : ∀ x ∈ laidNames, mg' x = mg x
  blt : mg' "__builtins__" = mg "__builtins__"

theorem topRan_of {p q : Program} {w : World} {h : Heap} {tk : Nat} {mb mg mg' : Str → Option Value} {c Pl : Addr} {os : OsState} {s' : Shared} {n : Nat} {t : Thread}
    (B : BootLeft9 q h mb mg c Pl) (hr : schedN (denote table) p w n (.single ⟨h, #[], {}, tk, os⟩ (topStub p)) = .running (.single s' t)) (ht : through t = true) (hl : s'.heap.life = h.life)
    (T : AfterTop p h s'.heap mg mg') (hos : s'.os = os) (hg : s'.gens = #[]) : TopRan p w ⟨h, #[], {}, tk, os⟩ s' := by
  obtain ⟨mc, hmc, hst⟩ := T.st
  have hb' : s'.heap.Ns builtinsNs mb := B.b.at fun o e => T.old _ _ e (by decide) (by decide)
  refine ⟨⟨n, t, hr, ht⟩, hl, Shared.rest_eq hos, fun b o hb hn => T.old b o hb (fun e => hn (.inl e)) fun e => hn (.inr (.inl e)), ?_, ?_, ?_, ?_, ?_, ?_, ?_, ?_⟩
  · intro key v hv
    rw [staticOf_of_ns hmc] at hv
    refine .inr (.inl ?_)
    unfold runKey
    rw [hst key v hv]; rfl
  · intro key
    rw [staticOf_of_ns hmc, staticOf_of_ns B.statics]
    cases hk : mc key with
    | none => exact .inl rfl
    | some v => exact .inr (.inr (.inl (hst key v hk)))
  · obtain ⟨o, es, ep, ho, hd, hs, _⟩ := T.g
    exact ⟨o, es, ep, ho, hd, hs⟩
  · intro name hne
    rw [builtinOf_of_ns hb', B.builtins name hne]
    rfl
  · obtain ⟨bm, o, h1, _, h3, _, h5, h6, h7, h8⟩ := B.bmod
    refine ⟨bm, o, ?_, T.old _ _ h5 h3 ?_, h6, h7⟩
    · rw [globalOf_of_ns T.g, T.blt, h1]
    · intro e
      obtain ⟨o2, es, ep, g1, g2, _⟩ := B.statics
      rw [e, g1] at h5
      cases h5
      rw [h8] at g2; cases g2
  · rw [hg]; intro g hgm; simp at hgm
  · intro x v hv
    rw [globalOf_of_ns T.g] at hv
    exact T.names x v hv
  · intro x hx
    rw [globalOf_of_ns T.g, globalOf_of_ns B.g]
    exact T.laid x hx

/-- the state in which the top starts -/
theorem boot_states {q : Program} {w : World} (hb : q.main.body = []) (hm : q.main.more = []) :
    (∃ s, AfterRun q w s) ∧ ∀ s, AfterRun q w s → ∃ h tk mb mg c Pl, BootLeft9 q h mb mg c Pl ∧ s = ⟨h, #[], {}, tk, (start q).1.os⟩ := by
  refine AfterImport.of_body9 (P := fun s => ∃ h tk mb mg c Pl, BootLeft9 q h mb mg c Pl ∧ s = ⟨h, #[], {}, tk, (start q).1.os⟩) (out := #[]) (fun h tk mb mg c Pl F B => ?_) hm
  rw [hb]
  refine codeAny_body rfl rfl (wpAny_mono (E := fun _ _ => False) (wpAny_execs_nil ?_) (fun _ _ x => x) fun _ _ x => x.elim)
  exact ⟨⟨_, rfl⟩, .of B.toBootLeft (fun b o _ _ e => e) B.g, ⟨h, tk, mb, mg, c, Pl, B, rfl⟩, rfl⟩

theorem holds_of {l : OpenLaw} (said : l.row.wellSaid = true) (hbare : l.prog.bare) (ho : opensWell l.prog = true) (hpr : l.row.toRowW.promised) (hw : l.writes = false)
    (fence : ∀ s, fenceModules? l.prog s = some s) (hbody : (opening l.prog).main.body = []) (hmore : (opening l.prog).main.more = [])
    (P : World → Shared → Prop)
    (top : ∀ w h tk mb mg c Pl os, BootLeft9 (opening l.prog) h mb mg c Pl →
      wpAny (model l.prog w) callerA (topStub l.prog).cur (fun fin s' => ∃ f, fin = .done f ∧ ((∃ mg', AfterTop l.prog h s'.heap mg mg') ∧ P w s' ∧ s'.os = os) ∧ s'.gens = #[]) (fun _ _ => False) ⟨h, #[], {}, tk, os⟩)
    (pin : ∀ w s, P w s → isTheDefsW l.prog s.heap l.name)
    (call : ∀ w s s₁ args vs as, P w s → l.row.toRowW.claim.pre args = true → WData.layableAll args = true → Laid [] w s s₁ args vs as →
      ∃ f mg, s₁.heap.Ns mainGlobals mg ∧ mg l.name = some f ∧ wpAny (model l.prog w) callerA (PySem.call f vs) (fun v s' => GoodWG l.row.toRowW.claim (classAt s.heap) (ExcName.means s.heap) args s₁ (.ok (.ret v)) s') (fun _ _ => False) s₁) : l.row.Holds := by
  refine ⟨said, hpr, ?_⟩
  refine ⟨⟨hbare, ho, rfl⟩, hpr.witness, fun w => ?_⟩
  obtain ⟨ex, all⟩ := boot_states (q := opening l.prog) (w := w) hbody hmore
  refine ⟨ex, fun s hs => ?_⟩
  obtain ⟨h, tk, mb, mg, c, Pl, B, rfl⟩ := all s hs
  have hs' : AfterImport (opening l.prog) w _ := hs
  have hz : Shared.asleep ⟨h, #[], {}, tk, (start (opening l.prog)).1.os⟩ := hs'.life
  refine ⟨_, fence _, rfl, ?_⟩
  obtain ⟨n, t, s', hr, ht, hl, ⟨⟨mg', T⟩, hP, hos⟩, hg⟩ := top_ends hz (top w h tk mb mg c Pl _ B)
  have R := topRan_of B hr ht hl T hos hg
  refine ⟨s', R, ?_, (fun x hx => nomatch hx), (fun x hx => nomatch hx), ?_⟩
  · intro n hn
    have : n = l.name := by
      have hn' : n ∈ [l.name] := hn
      simpa using hn'
    rw [this]
    exact pin w s' hP
  · have hz' : s'.asleep := Shared.asleep_of_life hl hz
    refine ClaimW.callFrom_of_specG (c := l.row.toRowW.claim) hz' hg fun args hpre hlay ord hord => ?_
    obtain ⟨⟨vs, s₁⟩, hlaid⟩ := Option.isSome_iff_exists.mp (layAllW_isSome (R := []) (cl := classAt s'.heap) (P := w.params) (ord := ord) (fun c hc => nomatch hc) args l.row.args s' (pre_splitW hpre).1)
    have keeps := layAllW_keeps _ _ _ hlaid
    have hal := layAllW_rest _ _ _ hlaid
    obtain ⟨as, hrd, hin, hold⟩ := reads_layAllW hord _ _ _ hlaid hlay s₁.heap (fun _ _ e => e)
    have L : Laid [] w s' s₁ args vs as := ⟨⟨ord, hord, hlaid⟩, hrd, hin, hold, keeps, hal.1.trans hg, hal.2.2.1⟩
    obtain ⟨f, mg1, hg1, hf, hc⟩ := call w s' s₁ args vs as hP hpre hlay L
    refine ⟨vs, s₁, hlaid, ?_⟩
    refine wpAny_bind (wpAny_nsGet hg1 ?_)
    rw [show mg1 l.row.name = some f from hf]
    refine wpAny_bind (wpAny_mono hc (fun v s2 g => wpAny_pure ⟨_, rfl, ?_⟩) fun _ _ x => x.elim)
    have z := g.laid (c := l.row.toRowW.claim) rfl rfl (ident_freeW (r := l.row.toRowW) rfl rfl rfl) L
    exact ⟨z.1, z.2.1, z.2.2, fun q => absurd (hw.symm.trans q) (by decide)⟩
end Mine
end
section
open PySem PySem.W PyProof.Rows PySem.Claim2Try PySem.Pin
namespace Mine

/-! a namespace told as a list of names and values -/
noncomputable def kv (e : DictEntry) : Option Str × Value := (match e.key with | .str n _ => some n | _ => none, e.val)
noncomputable def NsL (h : Heap) (a : Addr) (l : List (Str × Value)) : Prop := ∃ es n, h.get? a = some (dictOf es n) ∧ es.map kv = l.map fun x => (some x.1, x.2)
noncomputable def putP (name : Str) (v : Value) : List (Str × Value) → List (Str × Value)
  | [] => [(name, v)]
  | x :: r => if x.1 = name then (x.1, v) :: r else x :: putP name v r

theorem kv_str {e : DictEntry} {n : Str} {v : Value} (h : kv e = (some n, v)) : (∃ t, e.key = .str n t) ∧ e.val = v := by
  unfold kv at h
  obtain ⟨h1, h2⟩ := Prod.mk.inj h
  refine ⟨?_, h2⟩
  cases hk : e.key with
  | str m t => rw [hk] at h1; cases h1; exact ⟨t, rfl⟩
  | _ => rw [hk] at h1; cases h1
theorem isStr_kv {e : DictEntry} {n m : Str} {v : Value} (h : kv e = (some n, v)) : e.key.isStr m = decide (n = m) := by
  obtain ⟨⟨t, ht⟩, _⟩ := kv_str h
  rw [ht]
  show (n == m) = _
  rfl

theorem putL_kv (name : Str) (hs : Int) (t : Tok) (v : Value) : ∀ (es : List DictEntry) (l : List (Str × Value)), es.map kv = l.map (fun x => (some x.1, x.2)) →
    (putL name hs (.str name t) v es).map kv = (putP name v l).map fun x => (some x.1, x.2)
  | [], [], _ => rfl
  | [], _ :: _, h => by cases h
  | _ :: _, [], h => by cases h
  | e :: es, x :: l, h => by
    rw [List.map_cons, List.map_cons] at h
    obtain ⟨h1, h2⟩ := List.cons.inj h
    unfold putL putP
    rw [isStr_kv h1]
    by_cases q : x.1 = name
    · simp only [q, decide_true, if_true, List.map_cons]
      rw [h2]
      obtain ⟨⟨t', ht⟩, _⟩ := kv_str h1
      simp [kv, ht, q]
    · simp only [q, decide_false, Bool.false_eq_true, if_false, List.map_cons]
      rw [h1, putL_kv name hs t v es l h2]

theorem find_kv (name : Str) : ∀ (es : List DictEntry) (l : List (Str × Value)), es.map kv = l.map (fun x => (some x.1, x.2)) → (es.find? fun e => e.key.isStr name).map (·.val) = l.lookup name
  | [], [], _ => rfl
  | [], _ :: _, h => by cases h
  | _ :: _, [], h => by cases h
  | e :: es, x :: l, h => by
    rw [List.map_cons, List.map_cons] at h
    obtain ⟨h1, h2⟩ := List.cons.inj h
    obtain ⟨⟨t', ht⟩, hv⟩ := kv_str h1
    obtain ⟨xn, xv⟩ := x
    rw [List.find?_cons, isStr_kv h1, List.lookup_cons]
    by_cases q : xn = name
    · subst q; simp [hv]
    · have : (name == xn) = false := by rw [beq_eq_false_iff_ne]; exact fun e => q e.symm
      simp only [q, decide_false, this]
      exact find_kv name es l h2

theorem strKeys_kv {es : List DictEntry} {l : List (Str × Value)} (h : es.map kv = l.map fun x => (some x.1, x.2)) : ∀ e ∈ es, ∃ n t, e.key = .str n t := by
  intro e he
  have : kv e ∈ l.map fun x => (some x.1, x.2) := by rw [← h]; exact List.mem_map_of_mem he
  obtain ⟨x, _, hx⟩ := List.mem_map.mp this
  obtain ⟨⟨t, ht⟩, _⟩ := kv_str hx.symm
  exact ⟨_, t, ht⟩

theorem NsL.ns {h : Heap} {a : Addr} {l : List (Str × Value)} (x : NsL h a l) : h.Ns a fun n => l.lookup n := by
  obtain ⟨es, n, ho, he⟩ := x
  refine ⟨_, _, _, ho, rfl, fun e hm => strKeys_kv he e (by simpa using hm), fun name => ?_⟩
  unfold nsFind findBy
  rw [List.find?_toArray]
  exact find_kv name es l he
theorem NsL.at {h h' : Heap} {a : Addr} {l : List (Str × Value)} (x : NsL h a l) (k : ∀ o, h.get? a = some o → h'.get? a = some o) : NsL h' a l :=
  let ⟨es, n, ho, he⟩ := x; ⟨es, n, k _ ho, he⟩
theorem NsL.keeps {h h' : Heap} {a : Addr} {l : List (Str × Value)} (x : NsL h a l) (k : ∀ b o, h.get? b = some o → h'.get? b = some o) : NsL h' a l := x.at fun _ => k _ _

section
variable {M : Model} {A : Around} {E : Value → Shared → Prop} {s : Shared}
theorem wpAny_nsSetL {a : Addr} {l : List (Str × Value)} {name : Str} {v : Value} {Q : Unit → Shared → Prop} (hn : NsL s.heap a l)
    (h : ∀ h', NsL h' a (putP name v l) → Heap.SameBut a s.heap h' → Q () { s with heap := h', toks := s.toks + 1 }) : wpAny M A (nsSet a name v) Q E s := by
  obtain ⟨es, n, ho, he⟩ := hn
  unfold nsSet
  refine wpAny_bind ?_
  unfold strHash
  refine wpAny_bind (wpAny_askSetting (wpAny_pure ?_))
  refine wpAny_bind (wpAny_mkText (wpAny_bind (wpAny_loadPart ho ?_)))
  dsimp only
  rw [aRefKeyMayBeTheName_at, if_neg]
  · exact wpAny_updatePart ho (h _ ⟨_, _, (Heap.get?_update_self _ ho (by rw [putName_dict]; rfl)).trans (congrArg some (putName_dict ..)), putL_kv name _ _ v es l he⟩ (Heap.SameBut.update ..))
  · rw [Bool.and_eq_true]
    rintro ⟨_, h2⟩
    rw [List.any_toArray] at h2
    obtain ⟨e, hm, hr⟩ := List.any_eq_true.mp h2
    obtain ⟨m, t, ht⟩ := strKeys_kv he e hm
    rw [DictEntry.refKey, ht] at hr
    cases hr
end
end Mine
end
section
open PySem PySem.W PyProof.Rows PySem.Claim2Try PySem.Pin
namespace Mine

/-- a def of the text stands as a function object, everything of it at or above lo -/
noncomputable def FnAt (h : Heap) (lo : Nat) (v : Value) (name qual : Str) (params : Arguments) (body : List Stmt) (scope : Scope) : Prop :=
  ∃ a dV pm c doc P dv, v = .ref a ∧ lo ≤ a ∧ lo ≤ c ∧ lo ≤ P ∧
    h.get? a = some { cls := .type "function", data := .func (defFd name qual params body scope mainGlobals dV .none none pm (.ref c) doc) } ∧
    h.CodeRec (.ref c) qual ∧ h.IsCode c P #[] ∧ h.TableAt c P #[] ∧ h.DefaultsAt lo dv dV ∧ ConstVals params.defaults dv

theorem isCode_at {h h' : Heap} {c P : Addr} {ps} (x : h.IsCode c P ps) (kc : ∀ o, h.get? c = some o → h'.get? c = some o) (kP : ∀ o, h.get? P = some o → h'.get? P = some o) : h'.IsCode c P ps := by
  obtain ⟨o, vs, file, tf, flags, tg, inF, text, tt, op, a, r1, r2, r3, r4, r5, r6, b, r⟩ := x
  exact ⟨o, vs, file, tf, flags, tg, inF, text, tt, op, kc _ a, r1, r2, r3, r4, r5, r6, kP _ b, r⟩

theorem FnAt.keeps {h h' : Heap} {lo : Nat} {v : Value} {name qual : Str} {params : Arguments} {body : List Stmt} {scope : Scope} (x : FnAt h lo v name qual params body scope)
    (k : ∀ b o, lo ≤ b → h.get? b = some o → h'.get? b = some o) : FnAt h' lo v name qual params body scope := by
  obtain ⟨a, dV, pm, c, doc, P, dv, e, ha, hc, hP, ho, hr, hi, ht, hd, hv⟩ := x
  refine ⟨a, dV, pm, c, doc, P, dv, e, ha, hc, hP, k _ _ ha ho, hr.at fun o => k _ _ hc, isCode_at hi (fun o => k _ _ hc) (fun o => k _ _ hP), ?_, ?_, hv⟩
  · obtain ⟨⟨o, vs, q, r⟩, t⟩ := ht
    exact ⟨⟨o, vs, k _ _ hc q, r⟩, k _ _ hP t⟩
  · rcases hd with hd | ⟨n, T, e, hT, g⟩
    · exact .inl hd
    · exact .inr ⟨n, T, e, hT, k _ _ hT g⟩
theorem FnAt.lower {h : Heap} {lo lo' : Nat} {v : Value} {name qual : Str} {params : Arguments} {body : List Stmt} {scope : Scope} (x : FnAt h lo v name qual params body scope) (hl : lo' ≤ lo) : FnAt h lo' v name qual params body scope := by
  obtain ⟨a, dV, pm, c, doc, P, dv, e, ha, hc, hP, ho, hr, hi, ht, hd, hv⟩ := x
  refine ⟨a, dV, pm, c, doc, P, dv, e, Nat.le_trans hl ha, Nat.le_trans hl hc, Nat.le_trans hl hP, ho, hr, hi, ht, ?_, hv⟩
  rcases hd with hd | ⟨n, T, e, hT, g⟩
  · exact .inl hd
  · exact .inr ⟨n, T, e, Nat.le_trans hl hT, g⟩

/-- a def that the head's rule takes -/
structure DefOk (params : Arguments) (scope : Scope) : Prop where
  kw : params.kwonlyargs = []
  kd : params.kw_defaults = []
  const : ∀ e ∈ params.defaults, e.isPlainConst = true
  ann : ∀ env, annTrees params none env = []
  free : ∀ x ∈ scope.names, x.2 ≠ .free

noncomputable def defOkB (params : Arguments) (scope : Scope) : Bool :=
  params.kwonlyargs.isEmpty && params.kw_defaults.isEmpty && params.defaults.all Expr.isPlainConst && params.vararg.isNone && params.kwarg.isNone && params.posonlyargs.isEmpty && params.args.all (·.annotation.isNone) && scope.names.all (fun x => x.2 != .free)

theorem annotationsOf_none (env : Env) : ∀ l : List Arg, l.all (·.annotation.isNone) = true → annotationsOf l env = []
  | [], _ => rfl
  | ⟨n, none, p⟩ :: r, h => by
    rw [arm_annotationsOf_cons_2]
    exact annotationsOf_none env r (by simpa using h)
  | ⟨n, some a, p⟩ :: r, h => by simp at h
theorem defOk_of {params : Arguments} {scope : Scope} (h : defOkB params scope = true) : DefOk params scope := by
  obtain ⟨po, a, va, ko, kd, kwa, d⟩ := params
  simp only [defOkB, Bool.and_eq_true, List.isEmpty_iff, Option.isNone_iff_eq_none, List.all_eq_true] at h
  obtain ⟨⟨⟨⟨⟨⟨⟨h1, h2⟩, h3⟩, h4⟩, h5⟩, h6⟩, h7⟩, h8⟩ := h
  subst h1 h2 h4 h5 h6
  refine ⟨rfl, rfl, h3, fun env => ?_, fun x hx => by simpa using h8 x hx⟩
  unfold annTrees
  simp only [List.append_nil, Option.toList_none, evalOpt, Option.map_none]
  exact annotationsOf_none env a (List.all_eq_true.mpr fun x hx => by rw [h7 x hx]; rfl)

section
variable {M : Model} {A : Around} {E : Value → Shared → Prop} {s : Shared}
theorem wpAny_defAny {env : Env} {c Pl : Addr} {name : Str} {params : Arguments} {body : List Stmt} {scope : Scope} {pos : Pos} {mg} {ps : Array Value} {Q : Flow → Shared → Prop}
    (ok : DefOk params scope) (hgl : env.globals = mainGlobals) (hg : s.heap.Ns mainGlobals mg) (hcode : env.code = .ref c) (hok : s.heap.IsCode c Pl ps) (hnf : codeAmong pos ps.toList = none) (hgP : mainGlobals ≠ Pl)
    (hb : s.heap.BuiltinsAt mg Pl)
    (h : ∀ v c' h' tk, FnAt h' s.heap.objs.size v name (qualnameIn env name name) params body scope → Heap.ExtBut Pl s.heap h' → s.heap.objs.size ≤ h'.objs.size → h'.IsCode c Pl (ps ++ #[rawInt pos.line, rawInt pos.col, .ref c']) →
      wpAny M A (bindName env name v) (fun _ s' => Q .next s') E { s with heap := h', toks := tk }) :
    wpAny M A (exec (.FunctionDef name params body [] none [] scope none name pos) env) Q E s := by
  have hg' : s.heap.Ns env.globals mg := hgl ▸ hg
  have hgP' : env.globals ≠ Pl := hgl ▸ hgP
  rw [exec_def, defaultsOf_eq, ok.kd, ok.ann]
  refine wpAny_bind (wpAny_standAt (wpAny_bind (wpAny_holding ?_)))
  refine wpAny_bind (wpAny_evalAll_consts _ _ _ ok.const fun vs tk₁ hvs => ?_)
  refine wpAny_bind (wpAny_holding (wpAny_pure ?_))
  refine wpAny_holding ?_
  refine wpAny_bind (wpAny_pure ?_)
  refine wpAny_makeFunction_d0N (s := { s with toks := tk₁ }) (env := env) (c := c) (Pl := Pl) ok.kw ok.free hg' hcode hok hnf hgP' hb
    fun dV c' doc h₂ tk₃ hdef hx hge hlt hok' hrec htb => ?_
  obtain ⟨P', hP', hi, ht⟩ := htb
  dsimp only at hdef hx hge hP'
  have hsz : s.heap.objs.size ≤ h₂.objs.size := Nat.le_trans hge (Nat.le_of_lt hlt)
  have hPl : Pl < s.heap.objs.size := hok.lt.2
  rw [hgl]
  refine wpAny_bind (wpAny_standAt (wpAny_bind ?_))
  refine wpAny_mono (h (.ref h₂.objs.size) c' _ tk₃ ⟨_, dV, _, c', doc, P', vs, rfl, hsz, hge, hP', Heap.get?_push_size _ rfl, hrec.at fun o => Heap.get?_push_of_some _, hi.push _, ht.push _, ?_, hvs⟩
    (fun b o hb' e => Heap.get?_push_of_some _ (hx b o hb' e)) (by rw [Heap.size_push]; omega) (hok'.push _)) (fun _ _ z => wpAny_pure z) fun _ _ z => z
  rcases hdef with hd | ⟨hne, T, e, hT, hg⟩
  · exact .inl hd
  · exact .inr ⟨hne, T, e, hT, Heap.get?_push_of_some _ hg⟩
end
end Mine
end
section
open PySem PySem.W PyProof.Rows PySem.Claim2Try PySem.Pin
namespace Mine

noncomputable def clsEnv (scope : Scope) (qual : Str) (nsA c F : Addr) : Env :=
  { scope := scope, locals := nsA, globals := mainGlobals, cells := [], qual := qual ++ ".", code := .ref c, frame := some F, builtins := builtinsNs }

noncomputable def nameOf : Stmt → Str
  | .Assign [.Name n _] _ _ => n
  | .FunctionDef n _ _ _ _ _ _ _ _ _ => n
  | _ => Str.empty
noncomputable def placeOf : Stmt → Pos
  | .Assign _ _ p => p
  | .FunctionDef _ _ _ _ _ _ _ _ _ p => p
  | _ => default
noncomputable def eltOk : Expr → Bool
  | .Name x _ => x != ("__debug__" : Str)
  | .Constant (.int _) _ _ => true
  | _ => false
inductive EltV : Expr → Prop
  | name (x : Str) (p : Pos) (h : (x == ("__debug__" : Str)) = false) : EltV (.Name x p)
  | int (i : Int) (k : Nat) (p : Pos) : EltV (.Constant (.int i) k p)
theorem eltOk_cases {e : Expr} (h : eltOk e = true) : EltV e := by
  cases e with
  | Name x p => exact .name x p ((Bool.not_eq_true' _).mp h)
  | Constant c k p =>
    cases c with
    | int i => exact .int _ _ _
    | _ => exact absurd h Bool.false_ne_true
  | _ => exact absurd h Bool.false_ne_true
noncomputable def clsStmtB : Stmt → Bool
  | .Assign [.Name _ _] (.Constant (.int _) _ _) _ => true
  | .Assign [.Name _ _] (.Constant (.str _) _ _) _ => true
  | .Assign [.Name _ _] (.List elts _) _ => elts.all eltOk && decide (elts.length ≤ 1000)
  | .FunctionDef n params _ [] none [] scope none m _ => decide (n = m) && defOkB params scope
  | _ => false
noncomputable def eltNames : List Expr → List Str
  | [] => []
  | .Name x _ :: r => x :: eltNames r
  | _ :: r => eltNames r
noncomputable def namesRead : Stmt → List Str
  | .Assign [.Name _ _] (.List elts _) _ => eltNames elts
  | _ => []

/-- the items of a list display in a class body -/
inductive Items (l : List (Str × Value)) : List Expr → List Value → Prop
  | nil : Items l [] []
  | name {x : Str} {p : Pos} {es : List Expr} {v : Value} {vs : List Value} (h : l.lookup x = some v) (r : Items l es vs) : Items l (.Name x p :: es) (v :: vs)
  | const {c : Const} {k : Nat} {p : Pos} {es : List Expr} {v : Value} {vs : List Value} (h : c.Val v) (r : Items l es vs) : Items l (.Constant c k p :: es) (v :: vs)

inductive Made (h : Heap) (lo : Nat) (qual : Str) (l : List (Str × Value)) : Stmt → Value → Prop
  | asg {n : Str} {p : Pos} {c : Const} {k : Nat} {r q : Pos} {v : Value} (x : c.Val v) : Made h lo qual l (.Assign [.Name n p] (.Constant c k r) q) v
  | lst {n : Str} {p : Pos} {elts : List Expr} {r q : Pos} {a : Addr} {vs : List Value} (ha : lo ≤ a) (g : h.get? a = some { cls := .type "list", data := .seq vs.toArray }) (i : Items l elts vs) : Made h lo qual l (.Assign [.Name n p] (.List elts r) q) (.ref a)
  | fn {n : Str} {params : Arguments} {body : List Stmt} {d1 : List Expr} {d2 : Option Expr} {d3 : List TypeParam} {scope : Scope} {d4 : Option Scope} {d5 : Str} {d6 : Pos} {v : Value} (x : FnAt h lo v n (qual ++ "." ++ n) params body scope) : Made h lo qual l (.FunctionDef n params body d1 d2 d3 scope d4 d5 d6) v
noncomputable def BodyMade (h : Heap) (lo : Nat) (qual : Str) : List (Str × Value) → List Stmt → List (Str × Value) → Prop
  | l, [], l' => l' = l
  | l, st :: r, l' => ∃ v, Made h lo qual l st v ∧ BodyMade h lo qual (putP (nameOf st) v l) r l'

theorem Made.keeps {h h' : Heap} {lo : Nat} {qual : Str} {l : List (Str × Value)} {st : Stmt} {v : Value} (x : Made h lo qual l st v) (k : ∀ b o, lo ≤ b → h.get? b = some o → h'.get? b = some o) : Made h' lo qual l st v := by
  cases x with
  | asg x => exact .asg x
  | lst ha g i => exact .lst ha (k _ _ ha g) i
  | fn x => exact .fn (x.keeps k)
theorem BodyMade.keeps {h h' : Heap} {lo : Nat} {qual : Str} (k : ∀ b o, lo ≤ b → h.get? b = some o → h'.get? b = some o) : ∀ {b : List Stmt} {l l' : List (Str × Value)}, BodyMade h lo qual l b l' → BodyMade h' lo qual l b l'
  | [], _, _, x => x
  | _ :: _, _, _, ⟨v, m, r⟩ => ⟨v, m.keeps k, BodyMade.keeps k r⟩

inductive LinesBelow (L : Nat) : List Value → Prop
  | nil : LinesBelow L []
  | cons {a b : Int} {ta tb : Tok} {c : Value} {rest : List Value} (h : a < L) (r : LinesBelow L rest) : LinesBelow L (.int a ta :: .int b tb :: c :: rest)
theorem codeAmong_below {L : Nat} {pos : Pos} (hp : L ≤ pos.line) : ∀ l : List Value, LinesBelow L l → codeAmong pos l = none := by
  intro l h
  induction h with
  | nil => rfl
  | cons ha _ ih =>
    unfold codeAmong
    rw [if_neg]
    · exact ih
    · rw [Bool.and_eq_true]
      rintro ⟨e, _⟩
      have := beq_iff_eq.mp e
      omega
theorem LinesBelow.mono {L L' : Nat} (hL : L ≤ L') {l : List Value} (h : LinesBelow L l) : LinesBelow L' l := by
  induction h with
  | nil => exact .nil
  | cons ha _ ih => exact .cons (by omega) ih
theorem LinesBelow.snoc {L : Nat} {a b : Nat} {c : Value} (ha : a < L) {l : List Value} (h : LinesBelow L l) : LinesBelow L (l ++ [rawInt a, rawInt b, c]) := by
  induction h with
  | nil => exact .cons (by omega) .nil
  | cons ha _ ih => exact .cons ha ih

section
variable {M : Model} {A : Around} {E : Value → Shared → Prop} {s : Shared} {scope : Scope} {qual : Str} {nsA c F : Addr}

theorem storeName_clsEnv {x : Str} {v : Value} {l : List (Str × Value)} {Q : Unit → Shared → Prop} (hk : scope.kind = .class) (hl : scope.names.lookup x = some .local ∨ (scope.names.lookup x = none ∧ compilersOwnNames.contains x = true)) (hn : NsL s.heap nsA l)
    (h : ∀ h', NsL h' nsA (putP x v l) → Heap.SameBut nsA s.heap h' → Q () { s with heap := h', toks := s.toks + 1 }) : wpAny M A (storeName (clsEnv scope qual nsA c F) x v) Q E s := by
  have e : storeName (clsEnv scope qual nsA c F) x v = localSet (clsEnv scope qual nsA c F) x v := by
    have hb : (clsEnv scope qual nsA c F).blockKind = .class := by
      show (if scope.kind.isAnnotationScope then ScopeKind.function else scope.kind) = _
      rw [hk]; rfl
    have hs : (clsEnv scope qual nsA c F).scope.kind = .class := hk
    unfold storeName
    rcases hl with hl | ⟨hl, hc⟩
    · have hkd : (clsEnv scope qual nsA c F).kindOf x = some .local := hl
      rw [hkd, hs, hb]
      rfl
    · have hkd : (clsEnv scope qual nsA c F).kindOf x = none := hl
      rw [hkd, hs, hb, hc]
      rfl
  rw [e]
  unfold localSet
  obtain ⟨es, n, ho, he⟩ := id hn
  refine wpAny_bind (wpAny_load (o := dictOf es n) ho ?_)
  rw [if_pos (show ((Value.type "dict") == Value.type "dict") = true from by decide)]
  exact wpAny_nsSetL hn h

theorem loadName_clsEnv {x : Str} {v : Value} {l : List (Str × Value)} {Q : Value → Shared → Prop} (hk : scope.kind = .class) (hl : scope.names.lookup x = some .local) (hn : NsL s.heap nsA l) (hv : l.lookup x = some v)
    (h : Q v s) : wpAny M A (loadName (clsEnv scope qual nsA c F) x) Q E s := by
  have hb : (clsEnv scope qual nsA c F).blockKind = .class := by
    show (if scope.kind.isAnnotationScope then ScopeKind.function else scope.kind) = _
    rw [hk]; rfl
  have hkd : (clsEnv scope qual nsA c F).kindOf x = some .local := hl
  have hs : (clsEnv scope qual nsA c F).scope.kind = .class := hk
  unfold loadName
  rw [hs, hb, hkd]
  obtain ⟨es, n, ho, he⟩ := id hn
  show wpAny M A (localGet (clsEnv scope qual nsA c F) x >>= _) Q E s
  unfold localGet
  refine wpAny_bind (wpAny_bind (wpAny_load (o := dictOf es n) ho ?_))
  rw [if_pos (show ((Value.type "dict") == Value.type "dict") = true from by decide)]
  refine wpAny_nsGet hn.ns ?_
  rw [hv]
  exact wpAny_pure h

theorem items_clsEnv {pos : Pos} {l : List (Str × Value)} (hk : scope.kind = .class) (elts : List Expr) :
    ∀ (s : Shared) (Q : List Value → Shared → Prop), elts.all eltOk = true → (∀ x ∈ eltNames elts, scope.names.lookup x = some .local ∧ (l.lookup x).isSome = true) → NsL s.heap nsA l →
      (∀ vs tk, Items l elts vs → vs.length = elts.length → Q vs { s with toks := tk }) → wpAny M A (spliced (backTo pos (starEach elts (clsEnv scope qual nsA c F)))) Q E s := by
  induction elts with
  | nil => intro s Q _ _ _ h; exact wpAny_items_nil (h [] s.toks .nil rfl)
  | cons e r ih =>
    intro s Q ok hn hN h
    rw [List.all_cons, Bool.and_eq_true] at ok
    obtain ⟨x, p, hd⟩ | ⟨i, k, p⟩ := eltOk_cases ok.1
    · obtain ⟨hx, hs⟩ := hn x (List.mem_cons_self ..)
      obtain ⟨v, hv⟩ := Option.isSome_iff_exists.mp hs
      refine wpAny_items_cons (wpAny_Name (loadName_clsEnv hk hx hN hv ?_) hd)
      exact ih s _ ok.2 (fun y hy => hn y (List.mem_cons_of_mem _ hy)) hN fun vs tk hi hlen => h (v :: vs) tk (.name hv hi) (by simp [hlen])
    · refine wpAny_items_cons (wpAny_Constant_int ?_)
      exact ih _ _ ok.2 hn hN fun vs tk hi hlen => h (_ :: vs) tk (.const ⟨_, rfl⟩ hi) (by simp [hlen])
end
end Mine
end
section
open PySem PySem.W PyProof.Rows PySem.Claim2Try PySem.Pin
namespace Mine

structure Base (h0 : Heap) (mg : Str → Option Value) (nsA c Pl : Addr) : Prop where
  g : h0.Ns mainGlobals mg
  b : h0.BuiltinsAt mg Pl
  gP : mainGlobals ≠ Pl
  gN : mainGlobals ≠ nsA
  nP : nsA ≠ Pl
  nc : nsA ≠ c
  bN : ∀ bm, mg "__builtins__" = some (.ref bm) → bm ≠ nsA
noncomputable def Keep (h0 h : Heap) (nsA Pl : Addr) : Prop := ∀ b o, b ≠ Pl → b ≠ nsA → h0.get? b = some o → h.get? b = some o
theorem Base.g' {h0 h : Heap} {mg : Str → Option Value} {nsA c Pl : Addr} (B : Base h0 mg nsA c Pl) (K : Keep h0 h nsA Pl) : h.Ns mainGlobals mg := B.g.at fun o => K _ o B.gP B.gN
theorem Base.b' {h0 h : Heap} {mg : Str → Option Value} {nsA c Pl : Addr} (B : Base h0 mg nsA c Pl) (K : Keep h0 h nsA Pl) : h.BuiltinsAt mg Pl := by
  obtain ⟨bm, o, h1, h2, h3, h4, h5, h6⟩ := B.b
  exact ⟨bm, o, h1, h2, h3, h4, K _ _ h4 (B.bN bm h1) h5, h6⟩
theorem Keep.trans {h0 h h' : Heap} {nsA Pl : Addr} (K : Keep h0 h nsA Pl) (K' : Keep h h' nsA Pl) : Keep h0 h' nsA Pl := fun b o h1 h2 e => K' b o h1 h2 (K b o h1 h2 e)
theorem Keep.size {h h' : Heap} (hs : h.objs.size ≤ h'.objs.size) : h.objs.size ≤ h'.objs.size := hs

inductive ClsV : Stmt → Prop
  | asg (n : Str) (p : Pos) (c : Const) (k : Nat) (r q : Pos) (he : (Expr.Constant c k r).isPlainConst = true) : ClsV (.Assign [.Name n p] (.Constant c k r) q)
  | lst (n : Str) (p : Pos) (elts : List Expr) (r q : Pos) (he : elts.all eltOk = true) (hlen : elts.length ≤ 1000) : ClsV (.Assign [.Name n p] (.List elts r) q)
  | fn (n : Str) (params : Arguments) (body : List Stmt) (sc : Scope) (pos : Pos) (he : defOkB params sc = true) : ClsV (.FunctionDef n params body [] none [] sc none n pos)
theorem clsStmt_cases {st : Stmt} (h : clsStmtB st = true) : ClsV st := by
  cases st with
  | Assign ts e p =>
    cases ts with
    | nil => cases h
    | cons t ts =>
      cases t with
      | Name x q =>
        cases ts with
        | cons _ _ => cases e <;> exact absurd h Bool.false_ne_true
        | nil =>
          cases e with
          | Constant c k r =>
            cases c with
            | int _ => exact .asg _ _ _ _ _ _ rfl
            | str _ => exact .asg _ _ _ _ _ _ rfl
            | _ => exact absurd h Bool.false_ne_true
          | List es r =>
            have h : (es.all eltOk && decide (es.length ≤ 1000)) = true := h
            rw [Bool.and_eq_true] at h
            exact .lst _ _ _ _ _ h.1 (of_decide_eq_true h.2)
          | _ => exact absurd h Bool.false_ne_true
      | _ => exact absurd h Bool.false_ne_true
  | FunctionDef n params b ds r tp scope ts m p =>
    cases ds with
    | cons _ _ => cases h
    | nil =>
      cases r with
      | some _ => cases h
      | none =>
        cases tp with
        | cons _ _ => cases h
        | nil =>
          cases ts with
          | some _ => cases h
          | none =>
            have h : (decide (n = m) && defOkB params scope) = true := h
            rw [Bool.and_eq_true] at h
            obtain rfl := of_decide_eq_true h.1
            exact .fn _ _ _ _ _ h.2
  | _ => exact absurd h Bool.false_ne_true

section
variable {M : Model} {A : Around} {E : Value → Shared → Prop} {scope : Scope} {qual : Str} {nsA c F Pl : Addr} {lo : Nat} {h0 : Heap} {mg : Str → Option Value}

theorem wpAny_clsStmt {s : Shared} {l : List (Str × Value)} {ps : Array Value} {L : Nat} {st : Stmt} {Q : Flow → Shared → Prop} (B : Base h0 mg nsA c Pl) (hk : scope.kind = .class)
    (hloc : scope.names.lookup (nameOf st) = some .local) (ok : clsStmtB st = true) (K : Keep h0 s.heap nsA Pl) (hn : NsL s.heap nsA l) (hok : s.heap.IsCode c Pl ps) (hL : LinesBelow L ps.toList) (hp : L ≤ (placeOf st).line) (hlo : lo ≤ s.heap.objs.size)
    (hr : ∀ x ∈ namesRead st, scope.names.lookup x = some .local ∧ (l.lookup x).isSome = true)
    (h : ∀ v h' tk ps', Made h' lo qual l st v → NsL h' nsA (putP (nameOf st) v l) → h'.IsCode c Pl ps' → LinesBelow ((placeOf st).line + 1) ps'.toList → Keep s.heap h' nsA Pl → s.heap.objs.size ≤ h'.objs.size → Q .next { s with heap := h', toks := tk }) :
    wpAny M A (exec st (clsEnv scope qual nsA c F)) Q E s := by
  obtain ⟨n, p, c0, k0, r0, q, he⟩ | ⟨n, p, elts, r, q, he, hlen⟩ | ⟨n, params, body, sc, pos, he⟩ := clsStmt_cases ok
  · refine wpAny_Assign_Name (wpAny_eval_const he fun v tk hv => ?_)
    refine storeName_clsEnv hk (.inl hloc) hn fun h' hn' hs' => ?_
    exact h v h' _ ps (.asg hv) hn' (hok.sameBut hs' B.nc.symm B.nP.symm) (hL.mono (Nat.le_succ_of_le hp)) (fun b o _ hb e => (hs'.2 b hb).trans e) (Nat.le_of_eq hs'.1.symm)
  · refine wpAny_Assign_Name (List_ (items_clsEnv hk elts s _ he hr hn fun vs tk hi hvl => ?_))
    refine wpAny_newObj_type ?_ (by show vs.toArray.size ≤ sizeLine; rw [List.size_toArray, hvl, sizeLine]; omega)
    refine storeName_clsEnv (l := l) hk (.inl hloc) (hn.keeps fun b o e => Heap.get?_push_of_some _ e) fun h' hn' hs' => ?_
    have hne : s.heap.objs.size ≠ nsA := fun e => by
      obtain ⟨es, m, ho, _⟩ := hn
      have := Heap.lt_size ho
      rw [e] at this
      exact Nat.lt_irrefl _ this
    dsimp only at hs' hn'
    refine h _ h' _ ps (.lst hlo ((hs'.2 _ hne).trans (Heap.get?_push_size _ rfl)) hi) hn' ((hok.push _).sameBut hs' B.nc.symm B.nP.symm) (hL.mono (Nat.le_succ_of_le hp)) (fun b o _ hb e => (hs'.2 b hb).trans (Heap.get?_push_of_some _ e)) ?_
    rw [hs'.1, Heap.size_push]; omega
  · have hnl : nsA < s.heap.objs.size := by obtain ⟨es, m, ho, _⟩ := hn; exact Heap.lt_size ho
    refine wpAny_defAny (defOk_of he) rfl (B.g' K) rfl hok (codeAmong_below hp _ hL) B.gP (B.b' K) fun v c' h' tk hf hx hsz hok' => ?_
    refine wpAny_bindName (storeName_clsEnv (l := l) hk (.inl hloc) (hn.at fun o e => hx _ _ B.nP e) fun h2 hn2 hs2 => ?_)
    dsimp only at hs2 hn2
    refine h v h2 _ (ps ++ #[rawInt pos.line, rawInt pos.col, .ref c']) ?_ hn2 (hok'.sameBut hs2 B.nc.symm B.nP.symm) ?_ (fun b o hb hb2 e => (hs2.2 b hb2).trans (hx b o hb e)) (by rw [hs2.1]; exact hsz)
    · have hq : qualnameIn (clsEnv scope qual nsA c F) n n = qual ++ "." ++ n := by
        unfold qualnameIn
        have : (clsEnv scope qual nsA c F).kindOf n = some .local := hloc
        rw [this]; rfl
      rw [hq] at hf
      exact .fn ((hf.keeps fun b o hb e => (hs2.2 b (Nat.ne_of_gt (Nat.lt_of_lt_of_le hnl hb))).trans e).lower hlo)
    · have e : (ps ++ #[rawInt pos.line, rawInt pos.col, Value.ref c']).toList = ps.toList ++ [rawInt pos.line, rawInt pos.col, .ref c'] := by simp
      rw [e]
      exact (hL.mono (Nat.le_succ_of_le hp)).snoc (Nat.lt_succ_self _)

/-- lines go up from L -/
noncomputable def linesUp : Nat → List Stmt → Bool
  | _, [] => true
  | L, st :: r => decide (L ≤ (placeOf st).line) && linesUp ((placeOf st).line + 1) r
/-- the names that a body's displays read stand before -/
noncomputable def readsOk (known : List Str) : List Stmt → Prop
  | [] => True
  | st :: r => (∀ x ∈ namesRead st, x ∈ known) ∧ readsOk (nameOf st :: known) r

theorem putP_lookup {name : Str} {v : Value} : ∀ {l : List (Str × Value)}, (putP name v l).lookup name = some v
  | [] => by simp [putP]
  | (m, x) :: r => by
    unfold putP
    by_cases e : m = name
    · subst e; simp
    · rw [if_neg e, List.lookup_cons]
      have : (name == m) = false := by rw [beq_eq_false_iff_ne]; exact fun q => e q.symm
      rw [this]; exact putP_lookup
theorem putP_lookup_ne {name x : Str} {v : Value} (hne : x ≠ name) : ∀ {l : List (Str × Value)}, (putP name v l).lookup x = l.lookup x
  | [] => by
    have : (x == name) = false := by rw [beq_eq_false_iff_ne]; exact hne
    simp [putP, List.lookup_cons, this]
  | (m, y) :: r => by
    unfold putP
    by_cases e : m = name
    · subst e
      have : (x == m) = false := by rw [beq_eq_false_iff_ne]; exact hne
      rw [if_pos rfl, List.lookup_cons, List.lookup_cons, this]
    · rw [if_neg e, List.lookup_cons, List.lookup_cons]
      cases x == m with
      | true => rfl
      | false => exact putP_lookup_ne hne

theorem execs_cls (B : Base h0 mg nsA c Pl) (hk : scope.kind = .class) : ∀ (body : List Stmt) (known : List Str) (s : Shared) (l : List (Str × Value)) (ps : Array Value) (L : Nat) (Q : Flow → Shared → Prop),
    body.all clsStmtB = true → (∀ st ∈ body, scope.names.lookup (nameOf st) = some .local) → (∀ x ∈ known, scope.names.lookup x = some .local ∧ (l.lookup x).isSome = true) → readsOk known body → linesUp L body = true →
    Keep h0 s.heap nsA Pl → NsL s.heap nsA l → s.heap.IsCode c Pl ps → LinesBelow L ps.toList → lo ≤ s.heap.objs.size → nsA < lo → Pl < lo →
    (∀ h' tk l' ps', BodyMade h' lo qual l body l' → NsL h' nsA l' → h'.IsCode c Pl ps' → Keep s.heap h' nsA Pl → s.heap.objs.size ≤ h'.objs.size → Q .next { s with heap := h', toks := tk }) →
    wpAny M A (execs body (clsEnv scope qual nsA c F)) Q E s
  | [], _, s, l, ps, L, Q, _, _, _, _, _, _, hn, hok, _, _, _, _, h => wpAny_execs_nil (h s.heap s.toks l ps rfl hn hok (fun _ _ _ _ e => e) (Nat.le_refl _))
  | st :: r, known, s, l, ps, L, Q, ok, hloc, hkn, hrd, hl, K, hn, hok, hL, hlo, hN, hP, h => by
    rw [List.all_cons, Bool.and_eq_true] at ok
    simp only [linesUp, Bool.and_eq_true, decide_eq_true_eq] at hl
    refine wpAny_execs_cons (wpAny_clsStmt B hk (hloc st (List.mem_cons_self ..)) ok.1 K hn hok hL hl.1 hlo (fun x hx => hkn x (hrd.1 x hx)) fun v h' tk ps' hm hn' hok' hL' K' hsz => ?_)
    refine execs_cls B hk r (nameOf st :: known) _ (putP (nameOf st) v l) ps' ((placeOf st).line + 1) Q ok.2 (fun st' hs' => hloc st' (List.mem_cons_of_mem _ hs')) ?_ hrd.2 hl.2 (K.trans K') hn' hok' hL' (Nat.le_trans hlo hsz) hN hP fun h2 tk2 l2 ps2 hb2 hn2 hok2 K2 hsz2 => ?_
    · intro x hx
      by_cases e : x = nameOf st
      · subst e; exact ⟨hloc st (List.mem_cons_self ..), by rw [putP_lookup]; rfl⟩
      · rw [putP_lookup_ne e]
        exact hkn x ((List.mem_cons.mp hx).resolve_left e)
    · exact h h2 tk2 l2 ps2 ⟨v, hm.keeps fun b o hb e => K2 b o (Nat.ne_of_gt (Nat.lt_of_lt_of_le hP hb)) (Nat.ne_of_gt (Nat.lt_of_lt_of_le hN hb)) e, hb2⟩ hn2 hok2 (K'.trans K2) (Nat.le_trans hsz hsz2)
end
end Mine
end
section
set_option maxRecDepth 100000
open PySem PySem.W PyProof.Rows PySem.Claim2Try PySem.Pin Builtin Builtin.ObjectAttr
namespace Mine
section
variable {prog : Program} {w : World} {A : Around} {E : Value → Shared → Prop} {h : Heap} {g : Array GenState} {d : Drawn} {t : Nat} {os : OsState}
theorem nilIn {h : Heap} : Frag.In [] h := fun _ _ e => by cases e
noncomputable abbrev prepObj : Obj := { cls := .type "builtin_function_or_method", data := .fields #[.builtin "type.__prepare__", .type "type"] }
theorem cmd_kind : builtinKind "classmethod_descriptor.__get__" = some .slot := by decide +kernel
theorem cmd_split : splitId "classmethod_descriptor.__get__" = some ("classmethod_descriptor", "__get__") := by decide +kernel
theorem cmd_plain : plainId "classmethod_descriptor.__get__" = true := by decide +kernel
theorem cmd_entry : entryFor table "classmethod_descriptor.__get__" = some Builtin.«classmethod_descriptor.__get__» := entryFor_of_tree (by kernel_rfl)
theorem cmd_args (a b c : Value) : argsOk "classmethod_descriptor.__get__" ⟨[a, b, c], []⟩ := by unfold argsOk; kernel_rfl
theorem prep_run {Q : PySem.Fin → Shared → Prop} (hq : Q (.done (.ret (.ref h.objs.size))) ⟨h.push prepObj, g, d, t, os⟩) :
    wpAny (model prog w) A (Builtin.«classmethod_descriptor.__get__» ⟨[.builtin "type.__prepare__", .none, .type "type"], []⟩) Q E ⟨h, g, d, t, os⟩ := by
  have e : Builtin.«classmethod_descriptor.__get__» ⟨[.builtin "type.__prepare__", .none, .type "type"], []⟩ = (do ret (← newFields "builtin_function_or_method" [.builtin "type.__prepare__", .type "type"])) := by kernel_rfl
  rw [e]
  refine wpAny_bind (wpAny_newObj_type (wpAny_pure hq) (by size_fits))
theorem a1 : subIn [] (.type "type") (.type "type") = some true := by kernel_rfl
theorem L1 {M : Model} {h : Heap} : Looks M h (typeOf (.type "type")) (.type "type") := Looks.of_pure (by kernel_rfl)
theorem a2 {M : Model} {h : Heap} : Looks M h (isInstance (.type "type") (.type "type")) true := L1.andThen (looks_subIn (K := []) nilIn a1)
theorem a4 : findCls [] (.type "type") (.type "type") (Str.ofString "__prepare__") = some (.get (.builtin "classmethod_descriptor.__get__") (.builtin "type.__prepare__") .none (.type "type")) := by kernel_rfl
theorem a5 {M : Model} {h : Heap} : Looks M h (opaqueClassAbove (.type "type")) none := Looks.of_pure (by kernel_rfl)
theorem a6 {M : Model} {h : Heap} : Looks M h (isInstance (.builtin "type.__prepare__") (.type "classmethod_descriptor")) true := Looks.of_pure (by kernel_rfl)
theorem prep_get {Q : Option Value → Shared → Prop} (hq : Q (some (.ref h.objs.size)) ⟨h.push prepObj, g, d, t + 1, os⟩) :
    wpAny (model prog w) A (getAttr? (.type "type") "__prepare__") Q E ⟨h, g, d, t, os⟩ := by
  have L1 := L1 (M := model prog w) (h := h)
  have L2 : Looks (model prog w) h (typeLookup (.type "type") "__getattribute__") (some (.builtin "type.__getattribute__")) := looks_findIn (K := []) nilIn (by kernel_rfl)
  unfold getAttr?
  refine wpAny_bind (wpAny_mkText ?_)
  unfold getAttrBy?
  refine wpAny_bind (wpAny_attempt (wpAny_holding (wpAny_bind (L1.at (wpAny_bind (L2.at ?_))))))
  dsimp only
  rw [if_neg (by decide +kernel)]
  refine wpAny_bind (wpAny_pure (wpAny_bind (wpAny_attempt (wpAny_holding ?_))))
  unfold callGetattribute
  rw [if_neg (by decide +kernel)]
  unfold boundAndCalled
  rw [KF.slot_tga.bind]
  refine wpAny_bind (wpAny_pure ?_)
  show wpAny _ _ (call (.builtin "type.__getattribute__") [.type "type", .str "__prepare__" t]) _ _ _
  refine wpAny_call ?_
  refine codeAny_call_builtin KF.slot_tga.plain KF.entry_tga ?_
  refine @check_slot (model prog w) _ _ ⟨h, g, d, t + 1, os⟩ "type.__getattribute__" "type" "__getattribute__" (.type "type") [.str "__prepare__" t] [] _ (by decide +kernel) (by decide +kernel) a2 (KF.args_tga _ _) ?_
  refine tga_run (s := ⟨h, g, d, t + 1, os⟩) (K := []) (c := .type "type") (mc := .type "type") (name := Str.ofString "__prepare__") (tk := t) (r := .get (.builtin "classmethod_descriptor.__get__") (.builtin "type.__prepare__") .none (.type "type")) nilIn a5 L1 a4 ?_
  refine wpAny_bind (wpAny_holding (wpAny_call ?_))
  refine codeAny_call_builtin cmd_plain cmd_entry (@check_slot (model prog w) _ _ ⟨h, g, d, t + 1, os⟩ "classmethod_descriptor.__get__" "classmethod_descriptor" "__get__" (.builtin "type.__prepare__") [.none, .type "type"] [] _ cmd_kind cmd_split a6 (cmd_args _ _ _) ?_)
  refine prep_run (wpAny_pure ?_)
  refine handed_on rfl ?_
  exact wpAny_pure hq
theorem tp_check (n b : Value) : checkBoundCall "type.__prepare__" ⟨[.type "type", n, b], []⟩ = pure () := by kernel_rfl
theorem tp_entry : entryFor table "type.__prepare__" = some Builtin.«type.__prepare__» := entryFor_of_tree (by kernel_rfl)
theorem prep_call {q : Addr} {n b : Value} {Q : Value → Shared → Prop} (ho : h.get? q = some prepObj) (hq : Q (.ref h.objs.size) ⟨h.push (dictOf [] 0), g, d, t, os⟩) :
    wpAny (model prog w) A (call (.ref q) [n, b] []) Q E ⟨h, g, d, t, os⟩ := by
  refine wpAny_call (codeAny_of_tree ?_)
  show wpAny _ _ (callAny (.ref q) _) _ _ _
  unfold callAny
  refine wpAny_bind (wpAny_load (o := prepObj) ho ?_)
  show wpAny _ _ (checkBoundCall "type.__prepare__" ⟨[.type "type", n, b], []⟩ >>= _) _ _ _
  rw [tp_check]
  refine wpAny_bind (wpAny_pure ?_)
  refine wpAny_bind (wpAny_pure ?_)
  refine wpAny_pure (And.intro (Code.quiet_builtin _ (by decide +kernel)) ?_)
  refine codeAny_builtin tp_entry ?_
  exact wpAny_bind (wpAny_newObj_type (wpAny_pure hq) (by size_fits))
end
end Mine
end
section
set_option maxRecDepth 100000
open PySem PySem.W PyProof.Rows PySem.Claim2Try PySem.Pin Builtin Builtin.ObjectAttr
namespace Mine
section
variable {M : Model} {A : Around} {E : Value → Shared → Prop} {s : Shared}

theorem wpAny_classCode {env : Env} {c P : Addr} {ps : Array Value} {pos : Pos} {firstLine : Nat} {name qual : Str} {scope : Scope} {Q : Value → Shared → Prop}
    (hc : env.code = .ref c) (hok : s.heap.IsCode c P ps) (hnf : codeAmong pos ps.toList = none)
    (hQ : ∀ c' P' h' tk, Heap.ExtBut P s.heap h' → s.heap.objs.size ≤ c' → s.heap.objs.size ≤ P' → s.heap.objs.size ≤ h'.objs.size → h'.IsCode c P (ps ++ #[rawInt pos.line, rawInt pos.col, .ref c']) → h'.IsCode c' P' #[] →
      Q (.ref c') { s with heap := h', toks := tk }) : wpAny M A (classCode env pos firstLine name qual scope) Q E s := by
  obtain ⟨o, vs, file, tf, flags, tg, inF, text, tt, op, ho, hd, h11, h18, h7, h9, h10, hop, hpd, htr, hne⟩ := id hok
  have hPs : P < s.heap.objs.size := Heap.lt_size hop
  unfold classCode codeAt
  rw [hc, if_neg (show ¬ ((Value.ref c == Value.none) = true) from Bool.false_ne_true)]
  refine wpAny_bind (wpAny_fieldsOf ho hd ?_)
  rw [h11]
  refine wpAny_bind (wpAny_fieldsOf hop hpd ?_)
  rw [hnf, h18, h7, h9, h10]
  refine wpAny_bind (wpAny_newCodeX fun c' P' h' tk hk hc' hP' hcode' _ _ => ?_)
  have hop' := hk _ _ hop
  refine wpAny_bind (wpAny_updateFieldsOfTheText hop' hpd ?_)
  have hnew : (Obj.mapFields (fun vs => if (codeAmong pos vs.toList).isSome = true then vs else vs ++ #[rawInt pos.line, rawInt pos.col, .ref c']) op).data = .fields (ps ++ #[rawInt pos.line, rawInt pos.col, .ref c']) := by
    rw [Obj.data_mapFields hpd, hnf]; rfl
  have hget := Heap.get?_update_self (h := h') (fun o => Obj.mapFields (fun vs => if (codeAmong pos vs.toList).isSome = true then vs else vs ++ #[rawInt pos.line, rawInt pos.col, .ref c']) o) hop' (Obj.isFreed_of_fields hnew)
  refine wpAny_bind (wpAny_fieldsOf hget hnew ?_)
  have hl : (ps ++ #[rawInt pos.line, rawInt pos.col, Value.ref c']).toList = ps.toList ++ [rawInt pos.line, rawInt pos.col, .ref c'] := by simp
  rw [hl, codeAmong_snoc _ htr hnf]
  have hx : ∀ f, Heap.ExtBut P s.heap (h'.update P f) := fun f b o' hb e => (Heap.SameBut.update ..).extBut b o' hb (hk b o' e)
  have hcP : c' ≠ P := Nat.ne_of_gt (Nat.lt_of_lt_of_le hPs hc')
  have hPP : P' ≠ P := Nat.ne_of_gt (Nat.lt_of_lt_of_le hPs hP')
  refine wpAny_pure (hQ c' P' _ _ (hx _) hc' hP' ?_ ?_ ?_)
  · rw [Heap.size_after_update]; exact Nat.le_trans hc' (Nat.le_of_lt hcode'.lt.1)
  · exact ⟨o, vs, file, tf, flags, tg, inF, text, tt, _, hx _ _ _ hne ho, hd, h11, h18, h7, h9, h10, hget, hnew, by rw [hl]; exact TriplesOk_snoc _ _ _ _ htr, hne⟩
  · exact hcode'.extBut (Heap.SameBut.update ..).extBut hcP hPP
end
theorem loadName_clsGlobal {M : Model} {A : Around} {E : Value → Shared → Prop} {s : Shared} {scope : Scope} {qual : Str} {nsA c F : Addr} {x : Str} {v : Value} {l : List (Str × Value)} {mg : Str → Option Value} {Q : Value → Shared → Prop} (hk : scope.kind = .class)
    (hl : scope.names.lookup x = none) (hc : compilersOwnNames.contains x = true) (hn : NsL s.heap nsA l) (hx : l.lookup x = none) (hg : s.heap.Ns mainGlobals mg) (hv : mg x = some v) (h : Q v s) :
    wpAny M A (loadName (clsEnv scope qual nsA c F) x) Q E s := by
  have hb : (clsEnv scope qual nsA c F).blockKind = .class := by
    show (if scope.kind.isAnnotationScope then ScopeKind.function else scope.kind) = _
    rw [hk]; rfl
  have hkd : (clsEnv scope qual nsA c F).kindOf x = none := hl
  have hs : (clsEnv scope qual nsA c F).scope.kind = .class := hk
  unfold loadName
  rw [hs, hb, hkd]
  obtain ⟨es, n, ho, he⟩ := id hn
  show wpAny M A (if (!compilersOwnNames.contains x) = true then _ else _) Q E s
  rw [hc]
  show wpAny M A (localGet (clsEnv scope qual nsA c F) x >>= _) Q E s
  unfold localGet
  refine wpAny_bind (wpAny_bind (wpAny_load (o := dictOf es n) ho ?_))
  rw [if_pos (show ((Value.type "dict") == Value.type "dict") = true from by decide)]
  refine wpAny_nsGet hn.ns ?_
  rw [hx]
  show wpAny M A (loadGlobal (clsEnv scope qual nsA c F) x) Q E s
  unfold loadGlobal
  refine wpAny_bind (wpAny_nsGet (m := mg) hg ?_)
  rw [hv]
  exact wpAny_pure h
theorem start3 (a b c : Value) : putP ("__firstlineno__" : Str) c (putP ("__qualname__" : Str) b (putP ("__module__" : Str) a [])) = [(("__module__" : Str), a), (("__qualname__" : Str), b), (("__firstlineno__" : Str), c)] := by
  have e1 : ¬ (("__module__" : Str) = ("__qualname__" : Str)) := by decide +kernel
  have e2 : ¬ (("__module__" : Str) = ("__firstlineno__" : Str)) := by decide +kernel
  have e3 : ¬ (("__qualname__" : Str) = ("__firstlineno__" : Str)) := by decide +kernel
  simp only [putP, e1, e2, e3, if_false]
/-- what a class body's run finds and leaves -/
structure ClsOk (scope : Scope) (body : List Stmt) (statics : List Str) (L : Nat) : Prop where
  kind : scope.kind = .class
  names : ∀ st ∈ body, scope.names.lookup (nameOf st) = some .local
  stmts : body.all clsStmtB = true
  reads : readsOk [] body
  lines : linesUp L body = true
  free : ∀ x ∈ scope.names, x.2 ≠ .free
  own : ∀ x, compilersOwnNames.contains x = true → scope.names.lookup x = none
  cell : scope.names.lookup ("__class__" : Str) = none ∧ scope.names.lookup ("__classdict__" : Str) = none
  ann : hasAnns body = false
  doc : docOf body = none

section
variable {prog : Program} {w : World} {A : Around} {E : Value → Shared → Prop} {s : Shared}

theorem wpAny_buildClass {name qual : Str} {body : List Stmt} {scope : Scope} {statics : List Str} {firstLine : Nat} {pos : Pos} {c Pl F : Addr} {mg : Str → Option Value} {ps : Array Value} {Q : Value → Shared → Prop}
    (ok : ClsOk scope body statics 0) (hg : s.heap.Ns mainGlobals mg) (hb : s.heap.BuiltinsAt mg Pl) (hgP : mainGlobals ≠ Pl) (hok : s.heap.IsCode c Pl ps) (hnf : codeAmong pos ps.toList = none) (hlim : s.heap.NoLimit) (hstP : cStatics ≠ Pl)
    (hd : A.depth < recursionLimit) (hsys : sysModules < s.heap.objs.size) (hname : ∃ nm, mg "__name__" = some nm)
    (h : ∀ (h' : Heap) tk nm nsA bT l l' ft items lo (tn tq tf : Tok), mg "__name__" = some nm → s.heap.objs.size ≤ nsA → h'.get? bT = some { cls := .type "tuple", data := .seq #[] } → s.heap.objs.size ≤ bT → NsL h' nsA (putP "__static_attributes__" (.ref ft) l') →
      h'.get? ft = some { cls := .type "tuple", data := .seq items } →
      l = [(("__module__" : Str), nm), (("__qualname__" : Str), .str qual tq), (("__firstlineno__" : Str), .int firstLine tf)] → s.heap.objs.size ≤ lo → nsA < lo → BodyMade h' lo qual l body l' → (∀ b o, b ≠ Pl → s.heap.get? b = some o → h'.get? b = some o) →
      (∃ c', h'.IsCode c Pl (ps ++ #[rawInt pos.line, rawInt pos.col, .ref c'])) → s.heap.objs.size ≤ h'.objs.size →
      wpAny (model prog w) A (call (.type "type") [.str name tn, .ref bT, .ref nsA] []) Q E { s with heap := h', toks := tk }) :
    wpAny (model prog w) A (buildClass name qual [] [] body scope statics firstLine (mainEnv prog c F) pos none) Q E s := by
  obtain ⟨hh, g, d, t, os⟩ := s
  unfold buildClass
  refine wpAny_bind (wpAny_newTuple ?_)
  refine wpAny_bind (wpAny_pure ?_)
  refine wpAny_bind (wpAny_pure ?_)
  refine wpAny_bind (wpAny_pure ?_)
  refine wpAny_bind (wpAny_pure ?_)
  refine wpAny_bind (wpAny_mkText ?_)
  refine wpAny_bind (wpAny_pure (wpAny_holding ?_))
  refine wpAny_bind (prep_get ?_)
  refine wpAny_bind (prep_call (Heap.get?_push_size _ rfl) ?_)
  dsimp only at hg hb hok hlim hsys h
  show wpAny _ _ _ _ _ ⟨((hh.push { cls := .type "tuple", data := .seq ([] : List Value).toArray }).push prepObj).push (dictOf [] 0), g, d, t + 1 + 1, os⟩
  generalize hT : hh.push { cls := .type "tuple", data := .seq ([] : List Value).toArray } = H1
  have k1 : ∀ b o, hh.get? b = some o → H1.get? b = some o := fun b o e => hT ▸ Heap.get?_push_of_some _ e
  have z1 : H1.objs.size = hh.objs.size + 1 := by rw [← hT, Heap.size_push]
  have gT : H1.get? hh.objs.size = some { cls := .type "tuple", data := .seq ([] : List Value).toArray } := by rw [← hT]; exact Heap.get?_push_size _ rfl
  generalize hH : (H1.push prepObj).push (dictOf [] 0) = H2
  have k2 : ∀ b o, H1.get? b = some o → H2.get? b = some o := fun b o e => hH ▸ Heap.get?_push_of_some _ (Heap.get?_push_of_some _ e)
  have z2 : H2.objs.size = hh.objs.size + 3 := by rw [← hH, Heap.size_push, Heap.size_push, z1]
  have zn : (H1.push prepObj).objs.size = hh.objs.size + 2 := by rw [Heap.size_push, z1]
  have gN : H2.get? (hh.objs.size + 2) = some (dictOf [] 0) := by rw [← hH, ← zn]; exact Heap.get?_push_size _ rfl
  rw [zn]
  generalize hN : hh.objs.size + 2 = nsA at gN ⊢
  have hne : (nsA == sysModules) = false := by
    rw [beq_eq_false_iff_ne]
    exact Nat.ne_of_gt (Nat.lt_of_lt_of_le hsys (by rw [← hN]; exact Nat.le_add_right _ _))
  refine wpAny_to (by unfold notTheModulesDict; rw [hne]; rfl) ?_
  have L3 : Looks (model prog w) H2 (specialOf (.ref nsA) "__getitem__") (some (.builtin "dict.__getitem__")) := looks_specialIn (K := [(nsA, dictOf [] 0)]) (fun a o e => by
    simp only [List.lookup] at e
    split at e
    · rename_i q; cases e; rw [beq_iff_eq.mp q]; exact gN
    · cases e) (by simp only [specialIn, typeIn, List.lookup, beq_self_eq_true, Option.map_some, Option.bind_some]; kernel_rfl)
  refine wpAny_step (fun q => L3.at q) ?_
  k_node
  k_node
  refine wpAny_holding ?_
  have c1 : (scope.names.lookup ("__class__" : Str) == some NameKind.cell) = false := by rw [ok.cell.1]; rfl
  have c2 : (scope.names.lookup ("__classdict__" : Str) == some NameKind.cell) = false := by rw [ok.cell.2]; rfl
  k_node
  rw [c1]
  k_node
  refine wpAny_step (fun q => wpAny_pure q) ?_
  k_node
  rw [c2]
  k_node
  refine wpAny_step (fun q => wpAny_pure q) ?_
  show wpAny _ _ (classCode (mainEnv prog c F) pos firstLine name qual scope >>= _) _ _ _
  have k12 : ∀ b o, hh.get? b = some o → H2.get? b = some o := fun b o e => k2 b o (k1 b o e)
  refine wpAny_bind (wpAny_classCode (P := Pl) rfl (hok.keeps k12) hnf fun c' P' H3 tk hx hc' hP' hsz hok3 hcode3 => ?_)
  dsimp only at hx hc' hP' hsz
  have k3 : ∀ b o, b ≠ Pl → hh.get? b = some o → H3.get? b = some o := fun b o hb e => hx b o hb (k12 b o e)
  have hPl : Pl < hh.objs.size := hok.lt.2
  have hg3 : H3.Ns mainGlobals mg := hg.at fun o => k3 _ o hgP
  have hnl : hh.objs.size ≤ nsA := by rw [← hN]; exact Nat.le_add_right _ _
  have hnP : nsA ≠ Pl := Nat.ne_of_gt (Nat.lt_of_lt_of_le hPl hnl)
  have gN3 : H3.get? nsA = some (dictOf [] 0) := hx _ _ hnP gN
  obtain ⟨bm, bo, hbm, hne0, hbG, hbP, hbo, hcls, hdict, hdata⟩ := id hb
  refine wpAny_bind (wpAny_builtinsFor (bm := bm) hg3 hbm hne0 (k3 _ _ hbP hbo) hcls hdict hdata ?_)
  unfold newBodyFrame
  refine wpAny_bind (wpAny_bind (wpAny_nsGet hg3 (wpAny_alloc ?_)))
  refine wpAny_to (closureFor_none ok.free) ?_
  dsimp only
  generalize hH4 : H3.push _ = H4
  have k4 : ∀ b o, H3.get? b = some o → H4.get? b = some o := fun b o e => hH4 ▸ Heap.get?_push_of_some _ e
  have z4 : H4.objs.size = H3.objs.size + 1 := by rw [← hH4, Heap.size_push]
  generalize H3.objs.size = Fb
  refine wpAny_holding ?_
  have k04 : ∀ b o, b ≠ Pl → hh.get? b = some o → H4.get? b = some o := fun b o hb e => k4 b o (k3 b o hb e)
  have hlim4 : H4.NoLimit := hlim.at fun o => k04 _ o hstP
  refine wpAny_bind (wpAny_enterFrame hlim4 hd ?_)
  refine wpAny_bind (wpAny_onRaise ?_)
  obtain ⟨nm, hnm⟩ := hname
  have hN4 : NsL H4 nsA [] := ⟨[], 0, k4 _ _ gN3, rfl⟩
  refine wpAny_bind (loadName_clsGlobal (scope := scope) (qual := qual) (nsA := nsA) (c := c') (F := Fb) (l := []) ok.kind (ok.own _ (by decide +kernel)) (by decide +kernel) hN4 rfl (hg3.keeps k4) hnm ?_)
  refine wpAny_bind (storeName_clsEnv (scope := scope) (qual := qual) (nsA := nsA) (c := c') (F := Fb) (l := []) ok.kind (.inr ⟨ok.own _ (by decide +kernel), by decide +kernel⟩) hN4 fun H5 hN5 hs5 => ?_)
  refine wpAny_bind (wpAny_mkText ?_)
  refine wpAny_bind (storeName_clsEnv (scope := scope) (qual := qual) (nsA := nsA) (c := c') (F := Fb) ok.kind (.inr ⟨ok.own _ (by decide +kernel), by decide +kernel⟩) hN5 fun H6 hN6 hs6 => ?_)
  refine wpAny_bind (wpAny_mkInt ?_)
  refine wpAny_bind (storeName_clsEnv (scope := scope) (qual := qual) (nsA := nsA) (c := c') (F := Fb) ok.kind (.inr ⟨ok.own _ (by decide +kernel), by decide +kernel⟩) hN6 fun H7 hN7 hs7 => ?_)
  refine wpAny_pure ?_
  dsimp only at hs5 hs6 hs7 hN7 ⊢
  have s47 : Heap.SameBut nsA H4 H7 := (hs5.trans hs6).trans hs7
  rw [start3] at hN7
  have hnlt : nsA < H2.objs.size := Heap.lt_size gN
  have hcn : c' ≠ nsA := Nat.ne_of_gt (Nat.lt_of_lt_of_le hnlt hc')
  have hPn : P' ≠ nsA := Nat.ne_of_gt (Nat.lt_of_lt_of_le hnlt hP')
  have hgn : mainGlobals ≠ nsA := Nat.ne_of_lt (Nat.lt_of_lt_of_le hg.lt hnl)
  have hbn : bm ≠ nsA := Nat.ne_of_lt (Nat.lt_of_lt_of_le (Heap.lt_size hbo) hnl)
  have z02 : hh.objs.size ≤ H2.objs.size := by rw [z2]; exact Nat.le_add_right _ _
  have k07 : ∀ b o, b ≠ Pl → b ≠ nsA → hh.get? b = some o → H7.get? b = some o := fun b o h1 h2 e => (s47.2 b h2).trans (k04 b o h1 e)
  have B : Base H7 mg nsA c' P' := ⟨hg.at fun o => k07 _ o hgP hgn, ⟨bm, bo, hbm, hne0, hbG, Nat.ne_of_lt (Nat.lt_of_lt_of_le (Heap.lt_size hbo) (Nat.le_trans z02 hP')), k07 _ _ hbP hbn hbo, hcls, hdict, hdata⟩,
    Nat.ne_of_lt (Nat.lt_of_lt_of_le hg.lt (Nat.le_trans z02 hP')), hgn, hPn.symm, hcn.symm, fun b' e => by rw [hbm] at e; cases e; exact hbn⟩
  have hcode7 : H7.IsCode c' P' #[] := (hcode3.keeps k4).sameBut s47 hcn hPn
  refine wpAny_bind (wpAny_run (codeAny_body (env := clsEnv scope qual nsA c' Fb) ok.ann ok.doc ?_))
  refine execs_cls (h0 := H7) (lo := H7.objs.size) (F := Fb) B ok.kind body [] _ _ #[] 0 _ ok.stmts ok.names (fun _ hx => nomatch hx) ok.reads ok.lines (fun _ _ _ _ e => e) hN7 hcode7 .nil (Nat.le_refl _) ?_ hcode7.lt.2 fun H8 tk8 l8 ps8 hb8 hN8 hok8 K8 hsz8 => ?_
  · obtain ⟨es, m, ho, _⟩ := hN7; exact Heap.lt_size ho
  dsimp only at K8 hsz8 ⊢
  have z7 : hh.objs.size ≤ H7.objs.size := by
    rw [s47.1, z4]
    exact Nat.le_trans z02 (Nat.le_trans hsz (Nat.le_succ _))
  have hnl8 : nsA < H8.objs.size := by obtain ⟨es, m, ho, _⟩ := hN8; exact Heap.lt_size ho
  refine wpAny_bind (wpAny_onRaise ?_)
  refine wpAny_bind (wpAny_mkStrs fun vs => ?_)
  refine wpAny_bind (wpAny_newTextTuple ?_)
  refine wpAny_bind (storeName_clsEnv (scope := scope) (qual := qual) (nsA := nsA) (c := c') (F := Fb) (l := l8) ok.kind (.inr ⟨ok.own _ (by decide +kernel), by decide +kernel⟩) (hN8.keeps fun b o e => Heap.get?_push_of_some _ e) fun H9 hN9 hs9 => ?_)
  refine wpAny_pure ?_
  dsimp only at hs9 hN9 ⊢
  have k89 : ∀ b o, b ≠ nsA → H8.get? b = some o → H9.get? b = some o := fun b o hb e => (hs9.2 b hb).trans (Heap.get?_push_of_some _ e)
  have k09 : ∀ b o, b ≠ Pl → hh.get? b = some o → H9.get? b = some o := fun b o hb e =>
    have hbn : b ≠ nsA := Nat.ne_of_lt (Nat.lt_of_lt_of_le (Heap.lt_size e) hnl)
    have hbP' : b ≠ P' := Nat.ne_of_lt (Nat.lt_of_lt_of_le (Heap.lt_size e) (Nat.le_trans z02 hP'))
    k89 b o hbn (K8 b o hbP' hbn (k07 b o hb hbn e))
  have h77 : nsA < H7.objs.size := by obtain ⟨es, m, ho, _⟩ := hN7; exact Heap.lt_size ho
  have hbm9 := hb8.keeps (h' := H9) fun b o hb e => k89 b o (Nat.ne_of_gt (Nat.lt_of_lt_of_le h77 hb)) e
  have k39 : ∀ b o, b ≠ nsA → b ≠ P' → H3.get? b = some o → H9.get? b = some o := fun b o h1 h2 e => k89 b o h1 (K8 b o h2 h1 ((s47.2 b h1).trans (k4 b o e)))
  have hbTn : hh.objs.size ≠ nsA := by rw [← hN]; exact Nat.ne_of_lt (Nat.lt_add_of_pos_right (by decide))
  have hbTP' : hh.objs.size ≠ P' := Nat.ne_of_lt (Nat.lt_of_lt_of_le (by rw [z2]; exact Nat.lt_add_of_pos_right (by decide)) hP')
  refine wpAny_bind (wpAny_mono (h H9 _ nm nsA hh.objs.size _ l8 H8.objs.size vs.toArray H7.objs.size _ _ _ hnm hnl ?_ (Nat.le_refl _) hN9 ?_ (by rfl) z7 h77 hbm9 k09 ?_ ?_) (fun v s' hq => wpAny_pure hq) fun _ _ x => x)
  · exact k39 _ _ hbTn hbTP' (hx _ _ (Nat.ne_of_gt hPl) (k2 _ _ gT))
  · exact (hs9.2 _ (Nat.ne_of_gt hnl8)).trans (Heap.get?_push_size _ rfl)
  · have hcl : c < hh.objs.size := hok.lt.1
    exact ⟨c', isCode_at hok3 (fun o => k39 _ o (Nat.ne_of_lt (Nat.lt_of_lt_of_le hcl hnl)) (Nat.ne_of_lt (Nat.lt_of_lt_of_le hcl (Nat.le_trans z02 hP')))) (fun o => k39 _ o hnP.symm (Nat.ne_of_lt (Nat.lt_of_lt_of_le hPl (Nat.le_trans z02 hP'))))⟩
  · rw [hs9.1, Heap.size_push]
    exact Nat.le_trans z7 (Nat.le_trans hsz8 (Nat.le_succ _))
end
end Mine
end
section
set_option maxRecDepth 100000
open PySem PySem.W PyProof.Rows PySem.Claim2Try PySem.Pin Builtin Builtin.ObjectAttr
namespace Mine
noncomputable def dropP (name : Str) : List (Str × Value) → List (Str × Value)
  | [] => []
  | x :: r => if x.1 = name then r else x :: dropP name r
theorem dropP_lookup_ne {name x : Str} (hne : x ≠ name) : ∀ {l : List (Str × Value)}, (dropP name l).lookup x = l.lookup x
  | [] => rfl
  | (m, y) :: r => by
    unfold dropP
    by_cases e : m = name
    · subst e
      have : (x == m) = false := by rw [beq_eq_false_iff_ne]; exact hne
      rw [if_pos rfl, List.lookup_cons, this]
    · rw [if_neg e, List.lookup_cons, List.lookup_cons]
      cases x == m with
      | true => rfl
      | false => exact dropP_lookup_ne hne
theorem mem_dropP {name : Str} {x : Str × Value} : ∀ {l : List (Str × Value)}, x ∈ dropP name l → x ∈ l
  | [], h => h
  | y :: r, h => by
    unfold dropP at h
    split at h
    · exact List.mem_cons_of_mem _ h
    · rcases List.mem_cons.mp h with rfl | h
      · exact List.mem_cons_self ..
      · exact List.mem_cons_of_mem _ (mem_dropP h)
theorem mem_putP {name : Str} {v : Value} {x : Str × Value} : ∀ {l : List (Str × Value)}, x ∈ putP name v l → x.2 = v ∨ x ∈ l
  | [], h => by simp [putP] at h; exact .inl (by rw [h])
  | y :: r, h => by
    unfold putP at h
    split at h
    · rcases List.mem_cons.mp h with rfl | h
      · exact .inl rfl
      · exact .inr (List.mem_cons_of_mem _ h)
    · rcases List.mem_cons.mp h with rfl | h
      · exact .inr (List.mem_cons_self ..)
      · exact (mem_putP h).imp id (List.mem_cons_of_mem _)

theorem erase_kv (name : Str) : ∀ (es : List DictEntry) (l : List (Str × Value)), es.map kv = l.map (fun x => (some x.1, x.2)) →
    (∃ i, es.findIdx? (fun e => e.key.isStr name) = some i ∧ (es.eraseIdx i).map kv = (dropP name l).map fun x => (some x.1, x.2)) ∨ (es.findIdx? (fun e => e.key.isStr name) = none ∧ l.lookup name = none)
  | [], [], _ => .inr ⟨rfl, rfl⟩
  | [], _ :: _, h => by cases h
  | _ :: _, [], h => by cases h
  | e :: es, x :: l, h => by
    rw [List.map_cons, List.map_cons] at h
    obtain ⟨h1, h2⟩ := List.cons.inj h
    obtain ⟨xn, xv⟩ := x
    rw [List.findIdx?_cons, isStr_kv h1]
    by_cases q : xn = name
    · subst q
      refine .inl ⟨0, by simp, ?_⟩
      simp [dropP, h2]
    · simp only [q, decide_false, Bool.false_eq_true, if_false]
      have hq : (name == xn) = false := by rw [beq_eq_false_iff_ne]; exact fun e => q e.symm
      rcases erase_kv name es l h2 with ⟨i, hi, he⟩ | ⟨hi, hl⟩
      · refine .inl ⟨i + 1, by rw [hi]; rfl, ?_⟩
        rw [List.eraseIdx_cons_succ, List.map_cons, he, h1]
        simp [dropP, q]
      · exact .inr ⟨by rw [hi]; rfl, by rw [List.lookup_cons, hq]; exact hl⟩

theorem wpAny_nsDelL {M : Model} {A : Around} {E : Value → Shared → Prop} {s : Shared} {a : Addr} {l : List (Str × Value)} {name : Str} {Q : Bool → Shared → Prop} (hn : NsL s.heap a l) (hs : (l.lookup name).isSome = true)
    (h : ∀ h', NsL h' a (dropP name l) → Heap.SameBut a s.heap h' → Q true { s with heap := h' }) : wpAny M A (nsDel a name) Q E s := by
  obtain ⟨es, n, ho, he⟩ := hn
  unfold nsDel
  refine wpAny_bind (wpAny_loadPart ho ?_)
  rw [nsHas_eq]
  rcases erase_kv name es l he with ⟨i, hi, her⟩ | ⟨_, hl⟩
  · have hany : es.toArray.any (fun e => e.key.isStr name) = true := by
      rw [List.any_toArray, ← any_of_findIdx, hi]; rfl
    show wpAny M A (nsHasByArray name (dictOf es n) >>= _) Q E s
    unfold nsHasByArray
    dsimp only
    rw [if_pos hany]
    refine wpAny_bind (wpAny_pure ?_)
    rw [if_pos rfl]
    have hdrop : Obj.dropName name (dictOf es n) = dictOf (es.eraseIdx i) (n + 1) := by
      rw [Obj.dropName_eq]
      unfold Obj.dropNameByArray dictOf
      simp only [List.findIdx?_toArray, hi]
      simp [Array.eraseIdxIfInBounds, List.eraseIdx_toArray]
      intro hlt
      exact (List.eraseIdx_of_length_le hlt).symm
    refine wpAny_bind (wpAny_updatePart ho (wpAny_pure (h _ ⟨_, _, (Heap.get?_update_self _ ho (by rw [hdrop]; rfl)).trans (congrArg some hdrop), her⟩ (Heap.SameBut.update ..))))
  · rw [hl] at hs; cases hs

/-- a value that a class body binds: nothing asks it for its name -/
noncomputable def CV (h : Heap) : Value → Prop
  | .none => True
  | .int _ _ => True
  | .str _ _ => True
  | .ref a => ∃ o, h.get? a = some o ∧ (o.cls = .type "function" ∨ o.cls = .type "list" ∨ o.cls = .type "tuple" ∨ o.cls = .type "getset_descriptor")
  | _ => False
theorem CV.at {h h' : Heap} {v : Value} (x : CV h v) (k : ∀ b o, v = .ref b → h.get? b = some o → h'.get? b = some o) : CV h' v := by
  cases v with
  | ref a => obtain ⟨o, ho, r⟩ := x; exact ⟨o, k _ _ rfl ho, r⟩
  | _ => exact x
theorem CV.looks {M : Model} {h : Heap} {v : Value} (x : CV h v) : Looks M h (specialOf v "__set_name__") none := by
  have lt : ∀ n, fastLookup n ("__set_name__" : Str) = some none → Looks M h (typeLookup (.type n) "__set_name__") none := fun n e => looks_findIn (K := []) nilIn e
  cases v with
  | none => exact (Looks.of_pure rfl : Looks M h (typeOf .none) (.type "NoneType")).andThen (lt _ (by kernel_rfl))
  | int i t => exact (Looks.of_pure rfl : Looks M h (typeOf (.int i t)) (.type "int")).andThen (lt _ (by kernel_rfl))
  | str i t => exact (Looks.of_pure rfl : Looks M h (typeOf (.str i t)) (.type "str")).andThen (lt _ (by kernel_rfl))
  | ref a =>
    obtain ⟨o, ho, hc⟩ := x
    have lo : Looks M h (typeOf (.ref a)) o.cls := (Looks.ld ho).andThen .now
    rcases hc with hc | hc | hc | hc <;> rw [hc] at lo <;> exact lo.andThen (lt _ (by kernel_rfl))
  | _ => exact x.elim
theorem CV.held {h : Heap} {v : Value} (x : CV h v) (k : Value) : Builtin.laidUnderItsOwnName k v = false := by
  cases v <;> first | exact x.elim | (cases k <;> rfl)

theorem CV.of_made {h : Heap} {lo : Nat} {qual : Str} {l : List (Str × Value)} {st : Stmt} {v : Value} (ok : clsStmtB st = true) (x : Made h lo qual l st v) : CV h v := by
  cases x with
  | @asg _ _ c0 _ _ _ _ x =>
    cases c0 with
    | int i => obtain ⟨t, rfl⟩ := x; trivial
    | str i => obtain ⟨t, rfl⟩ := x; trivial
    | _ => exact absurd ok Bool.false_ne_true
  | lst _ g _ => exact ⟨_, g, .inr (.inl rfl)⟩
  | fn x =>
    obtain ⟨a, dV, pm, c, doc, P, dv, rfl, ha, hc, hP, ho, _⟩ := x
    exact ⟨_, ho, .inl rfl⟩
theorem CV.of_body {h : Heap} {lo : Nat} {qual : Str} : ∀ {b : List Stmt} {l l' : List (Str × Value)}, b.all clsStmtB = true → BodyMade h lo qual l b l' → (∀ x ∈ l, CV h x.2) → ∀ x ∈ l', CV h x.2
  | [], l, l', _, x, hl => by cases x; exact hl
  | st :: r, l, l', ok, ⟨v, m, x⟩, hl => by
    rw [List.all_cons, Bool.and_eq_true] at ok
    refine CV.of_body ok.2 x fun y hy => ?_
    rcases mem_putP hy with e | e
    · rw [e]; exact CV.of_made ok.1 m
    · exact hl y e
end Mine
end
section
set_option maxRecDepth 100000
open PySem PySem.W PyProof.Rows PySem.Claim2Try PySem.Pin Builtin Builtin.ObjectAttr
namespace Mine
/-- a class over object alone, its names told as a list -/
structure ClsAt (h : Heap) (C ns : Addr) (l : List (Str × Value)) (cd : ClassData) (sl : Array (Option Value)) : Prop where
  obj : h.get? C = some ⟨.type "type", none, .cls cd, sl⟩
  mro : cd.mro = [.ref C, .type "object"]
  at_ : cd.ns = ns
  names : NsL h ns l
theorem ClsAt.keeps {h h' : Heap} {C ns : Addr} {l : List (Str × Value)} {cd : ClassData} {sl : Array (Option Value)} (x : ClsAt h C ns l cd sl) (k : ∀ b o, h.get? b = some o → h'.get? b = some o) : ClsAt h' C ns l cd sl :=
  ⟨k _ _ x.obj, x.mro, x.at_, x.names.keeps k⟩
theorem looks_ns {M : Model} {h : Heap} {ns : Addr} {l : List (Str × Value)} (x : NsL h ns l) (name : Str) : Looks M h (nsGet ns name) (l.lookup name) := fun _ _ _ _ k q => wpAny_nsGet (x.keeps k).ns q
theorem ClsAt.own {M : Model} {h : Heap} {C ns : Addr} {l : List (Str × Value)} {cd : ClassData} {sl : Array (Option Value)} (x : ClsAt h C ns l cd sl) (name : Str) : Looks M h (classOwn (.ref C) name) (l.lookup name) := by
  intro A Q E s k q
  refine wpAny_bind (wpAny_bind (wpAny_load (k _ _ x.obj) (wpAny_pure ?_)))
  show wpAny M A (nsGet cd.ns name) Q E s
  rw [x.at_]
  exact looks_ns x.names name A Q E s k q
theorem ClsAt.find {M : Model} {h : Heap} {C ns : Addr} {l : List (Str × Value)} {cd : ClassData} {sl : Array (Option Value)} (x : ClsAt h C ns l cd sl) {name : Str} {v : Value} (e : l.lookup name = some v) : Looks M h (typeLookup (.ref C) name) (some v) := by
  intro A Q E s k q
  rw [typeLookup_eq]
  refine wpAny_bind (wpAny_bind (wpAny_bind (wpAny_load (k _ _ x.obj) (wpAny_pure (wpAny_pure ?_)))))
  show wpAny M A (lookupAlong cd.mro name) Q E s
  rw [x.mro, lookupAlong_cons]
  refine wpAny_bind (x.own name A _ E s k ?_)
  rw [e]
  exact wpAny_pure q
theorem ClsAt.past {M : Model} {h : Heap} {C ns : Addr} {l : List (Str × Value)} {cd : ClassData} {sl : Array (Option Value)} (x : ClsAt h C ns l cd sl) {name : Str} {r : Option Value} (e : l.lookup name = none) (f : fastBuiltinOwn "object" name = r) : Looks M h (typeLookup (.ref C) name) r := by
  intro A Q E s k q
  rw [typeLookup_eq]
  refine wpAny_bind (wpAny_bind (wpAny_bind (wpAny_load (k _ _ x.obj) (wpAny_pure (wpAny_pure ?_)))))
  show wpAny M A (lookupAlong cd.mro name) Q E s
  rw [x.mro, lookupAlong_cons]
  refine wpAny_bind (x.own name A _ E s k ?_)
  rw [e]
  show wpAny M A (lookupAlong [.type "object"] name) Q E s
  rw [lookupAlong_cons]
  refine wpAny_bind (looks_ownIn (K := []) nilIn (c := .type "object") (r := r) (by rw [← f]; rfl) A _ E s (fun _ _ e => by exact e) ?_)
  cases r with
  | none => exact wpAny_pure q
  | some v => exact wpAny_pure q

section
variable {M : Model} {A : Around} {E : Value → Shared → Prop} {s : Shared}
theorem slots_set {sl : Array (Option Value)} {i : Nat} {v : Option Value} : ((sl ++ Array.replicate (i + 1 - sl.size) none).setIfInBounds i v)[i]? = some v := by
  rw [Array.getElem?_setIfInBounds_self_of_lt]
  rw [Array.size_append, Array.size_replicate]
  omega
theorem slots_size {sl : Array (Option Value)} {i : Nat} {v : Option Value} : ((sl ++ Array.replicate (i + 1 - sl.size) none).setIfInBounds i v).size = max sl.size (i + 1) := by
  rw [Array.size_setIfInBounds, Array.size_append, Array.size_replicate]
  omega
theorem six_of {sl : Array (Option Value)} {x : Option Value} (hs : sl.size = 6) (h4 : sl[4]? = some x) : ∃ k0 k1 k2 k3 k5, sl = #[k0, k1, k2, k3, x, k5] := by
  obtain ⟨l⟩ := sl
  rcases l with _ | ⟨a0, _ | ⟨a1, _ | ⟨a2, _ | ⟨a3, _ | ⟨a4, _ | ⟨a5, _ | ⟨a6, l⟩⟩⟩⟩⟩⟩⟩ <;> simp at hs
  simp at h4
  subst h4
  exact ⟨_, _, _, _, _, rfl⟩
theorem slots_keep {sl : Array (Option Value)} {i j : Nat} {v x : Option Value} (hne : j ≠ i) (hx : sl[j]? = some x) : ((sl ++ Array.replicate (i + 1 - sl.size) none).setIfInBounds i v)[j]? = some x := by
  have hj : j < sl.size := by
    rcases Nat.lt_or_ge j sl.size with h | h
    · exact h
    · rw [Array.getElem?_eq_none h] at hx; cases hx
  rw [Array.getElem?_setIfInBounds_ne (Ne.symm hne), Array.getElem?_append_left hj, hx]
theorem wpAny_setSlot {a : Addr} {i : Nat} {v : Option Value} {c : Value} {dd : Option Addr} {cd : ClassData} {sl : Array (Option Value)} {Q : Unit → Shared → Prop} (ho : s.heap.get? a = some ⟨c, dd, .cls cd, sl⟩) (hi : i < sizeLine)
    (h : ∀ h' (sl' : Array (Option Value)), (sl'[i]? = some v ∧ sl'.size = max sl.size (i + 1)) → (∀ j x, j ≠ i → sl[j]? = some x → sl'[j]? = some x) → h'.get? a = some ⟨c, dd, .cls cd, sl'⟩ → Heap.SameBut a s.heap h' → Q () { s with heap := h' }) : wpAny M A (setSlotAt a i v) Q E s := by
  unfold setSlotAt
  rw [if_neg (Nat.not_le.mpr hi)]
  exact wpAny_updatePart ho (h _ _ ⟨slots_set, slots_size⟩ (fun j x hne hx => slots_keep hne hx) (Heap.get?_update_self _ ho rfl) (Heap.SameBut.update ..))
theorem wpAny_updCls {a : Addr} {f : ClassData → ClassData} {c : Value} {dd : Option Addr} {cd : ClassData} {sl : Array (Option Value)} {Q : Unit → Shared → Prop} (ho : s.heap.get? a = some ⟨c, dd, .cls cd, sl⟩) 
    (h : ∀ h', h'.get? a = some ⟨c, dd, .cls (f cd), sl⟩ → Heap.SameBut a s.heap h' → Q () { s with heap := h' }) (hp : (Data.cls (f cd)).pastItsLine = none := by rfl) : wpAny M A (updateCls a f) Q E s := by
  unfold updateCls
  refine wpAny_bind (wpAny_load ho ?_)
  have hg := Heap.get?_update_self (Obj.mapCls f) ho rfl
  refine wpAny_bind (wpAny_update ho ?_)
  exact wpAny_lookBehind hg hp (h _ hg (Heap.SameBut.update ..))
end
end Mine
end
section
set_option maxRecDepth 100000
open PySem PySem.W PyProof.Rows PySem.Claim2Try PySem.Pin Builtin Builtin.ObjectAttr
namespace Mine
section
variable {prog : Program} {w : World} {A : Around} {E : Value → Shared → Prop} {h : Heap} {g : Array GenState} {d : Drawn} {t : Nat} {os : OsState}
theorem tc_entry : entryFor table "type.__call__" = some Builtin.«type.__call__» := entryFor_of_tree (by kernel_rfl)
noncomputable abbrev superObj (a b c : Value) : Obj := { cls := .type "super", data := .fields #[a, b, c] }
theorem looks_isType {M : Model} {C : Addr} {oc : Value} {od : Option Addr} {cd : ClassData} {sl : Array (Option Value)} (ho : h.get? C = some ⟨oc, od, .cls cd, sl⟩) : Looks M h (isType (.ref C)) true := by
  unfold isType loadHead
  exact (Looks.ld ho).andThen .now
theorem looks_checkSuper {M : Model} {C : Addr} {oc : Value} {od : Option Addr} {cd : ClassData} {sl : Array (Option Value)} (ho : h.get? C = some ⟨oc, od, .cls cd, sl⟩) : Looks M h (checkTypeCall "super" ⟨[.ref C, .ref C], []⟩) () := by
  have e : checkTypeCall "super" ⟨[.ref C, .ref C], []⟩ = (do
      if !(← isType (.ref C)) then
        rule "super.call.not-a-type"
        raiseError "TypeError" s!"super() argument 1 must be a type, not {← PySem.typeNameOf (.ref C)}"
      pure ()) := by kernel_rfl
  rw [e]
  exact (looks_isType ho).andThen .now
theorem mro_super : mroOf (.type "super") = pure [.type "super", .type "object"] := by kernel_rfl
theorem made_super : Bind.madeBy (.type "super") = pure (some "super.__new__") := by kernel_rfl
theorem sn_check (C : Addr) : checkBuiltinCall "super.__new__" ⟨[.type "super", .ref C, .ref C], []⟩ = pure () := by kernel_rfl
theorem sn_entry : entryFor table "super.__new__" = some Builtin.«super.__new__» := entryFor_of_tree (by kernel_rfl)
theorem si_entry : entryFor table "super.__init__" = some Builtin.«super.__init__» := entryFor_of_tree (by kernel_rfl)
theorem sn_plain : plainId "super.__new__" = true := by decide +kernel
theorem si_plain : plainId "super.__init__" = true := by decide +kernel
theorem sn_run (C : Addr) : Builtin.«super.__new__» ⟨[.type "super", .ref C, .ref C], []⟩ = (do ret (← newFields "super" [.none, .none, .none])) := by kernel_rfl
theorem si_kind : builtinKind "super.__init__" = some .slot := by decide +kernel
theorem si_split : splitId "super.__init__" = some ("super", "__init__") := by decide +kernel
theorem si_args (a b c : Value) : argsOk "super.__init__" ⟨[a, b, c], []⟩ := by unfold argsOk; kernel_rfl
theorem si_bind (self : Value) : bindSpecial (.builtin "super.__init__") self = pure (.builtin "super.__init__", [self]) := by kernel_rfl
theorem one_in {a : Addr} {o : Obj} (ho : h.get? a = some o) : Frag.In [(a, o)] h := fun b o' e => by
  simp only [List.lookup] at e
  split at e
  · rename_i q; cases e; rw [beq_iff_eq.mp q]; exact ho
  · cases e
theorem looks_type {M : Model} {a : Addr} {o : Obj} {c : Value} (ho : h.get? a = some o) (hc : o.cls = c) : Looks M h (typeOf (.ref a)) c := hc ▸ (Looks.ld ho).andThen .now
theorem looks_mro {M : Model} {C ns : Addr} {l : List (Str × Value)} {cd : ClassData} {sl : Array (Option Value)} (X : ClsAt h C ns l cd sl) : Looks M h (mroOf (.ref C)) [.ref C, .type "object"] := by
  rw [← X.mro]
  exact ((Looks.ld (part := none) X.obj).andThen .now).andThen .now
theorem looks_sub {M : Model} {C ns : Addr} {l : List (Str × Value)} {cd : ClassData} {sl : Array (Option Value)} (X : ClsAt h C ns l cd sl) (b : Value) : Looks M h (isSubtype (.ref C) b) ([.ref C, .type "object"].contains b) := by
  unfold isSubtype
  exact (looks_mro X).andThen .now
theorem superInit {C ns S : Addr} {l : List (Str × Value)} {cd : ClassData} {sl : Array (Option Value)} (X : ClsAt h C ns l cd sl) (hS : h.get? S = some (superObj .none .none .none)) {Q : PySem.Fin → Shared → Prop}
    (hq : ∀ h', h'.get? S = some (superObj (.ref C) (.ref C) (.ref C)) → Heap.SameBut S h h' → Q (.done (.ret .none)) ⟨h', g, d, t, os⟩) :
    wpAny (model prog w) A (Builtin.«super.__init__» ⟨[.ref S, .ref C, .ref C], []⟩) Q E ⟨h, g, d, t, os⟩ := by
  have L1 := looks_isType (M := model prog w) X.obj
  have L2 : Looks (model prog w) h (isSubtype (.ref C) (.ref C)) true := by
    have := looks_sub (M := model prog w) X (.ref C)
    rwa [show ([Value.ref C, .type "object"].contains (.ref C)) = true by simp] at this
  unfold Builtin.«super.__init__»
  refine wpAny_bind (wpAny_pure ?_)
  k_node
  refine wpAny_bind (wpAny_pure ?_)
  k_node
  refine wpAny_bind (L1.at ?_)
  k_node
  k_node
  k_node
  refine wpAny_bind (wpAny_bind (L1.at ?_))
  k_node
  refine wpAny_bind (L2.at ?_)
  k_node
  refine wpAny_pure ?_
  refine wpAny_bind (wpAny_setField hS rfl (by decide) ?_)
  have g1 := Heap.get?_update_self (Obj.mapFields (·.setIfInBounds 0 (.ref C))) hS rfl
  refine wpAny_bind (wpAny_setField g1 rfl (by simp) ?_)
  have g2 := Heap.get?_update_self (Obj.mapFields (·.setIfInBounds 1 (.ref C))) g1 rfl
  refine wpAny_bind (wpAny_setField g2 rfl (by simp) ?_)
  have g3 := Heap.get?_update_self (Obj.mapFields (·.setIfInBounds 2 (.ref C))) g2 rfl
  exact wpAny_pure (hq _ g3 (((Heap.SameBut.update ..).trans (Heap.SameBut.update ..)).trans (Heap.SameBut.update ..)))
set_option maxHeartbeats 2000000 in
theorem superMake {C ns : Addr} {l : List (Str × Value)} {cd : ClassData} {sl : Array (Option Value)} (X : ClsAt h C ns l cd sl) {Q : Value → Shared → Prop}
    (hq : ∀ S h', h'.get? S = some (superObj (.ref C) (.ref C) (.ref C)) → (∀ b o, h.get? b = some o → h'.get? b = some o) → Q (.ref S) ⟨h', g, d, t, os⟩) :
    wpAny (model prog w) A (call (.type "super") [.ref C, .ref C] []) Q E ⟨h, g, d, t, os⟩ := by
  refine wpAny_call (codeAny_of_tree ?_)
  show wpAny _ _ (callAny (.type "super") _) _ _ _
  refine wpAny_pure (And.intro (Code.quiet_builtin _ (by decide +kernel)) ?_)
  refine codeAny_builtin tc_entry ?_
  unfold Builtin.«type.__call__»
  k_node
  k_node
  k_node
  k_node
  k_node
  refine wpAny_bind ((looks_checkSuper X.obj).at ?_)
  k_node
  rw [mro_super]
  refine wpAny_bind (wpAny_pure ?_)
  k_node
  k_node
  rw [made_super]
  refine wpAny_bind (wpAny_pure ?_)
  k_node
  k_node
  refine wpAny_bind (wpAny_pure ?_)
  refine wpAny_bind (wpAny_holding (wpAny_call ?_))
  refine codeAny_call_builtin sn_plain sn_entry ?_
  show wpAny _ _ (checkBuiltinCall "super.__new__" ⟨[.type "super", .ref C, .ref C], []⟩) _ _ _
  rw [sn_check]
  refine wpAny_pure ?_
  show wpAny _ _ (Builtin.«super.__new__» ⟨[.type "super", .ref C, .ref C], []⟩) _ _ _
  rw [sn_run]
  refine wpAny_bind (wpAny_newObj_type (wpAny_pure ?_) (by size_fits))
  show wpAny _ _ _ _ _ ⟨h.push (superObj .none .none .none), g, d, t, os⟩
  generalize hH1 : h.push (superObj .none .none .none) = H1
  have k1 : ∀ b o, h.get? b = some o → H1.get? b = some o := fun b o e => hH1 ▸ Heap.get?_push_of_some _ e
  have S1 : H1.get? h.objs.size = some (superObj .none .none .none) := by rw [← hH1]; exact Heap.get?_push_size _ rfl
  generalize hS : h.objs.size = S at S1
  have hSC : S ≠ C := fun e => by
    have := Heap.lt_size X.obj
    rw [hS, e] at this
    exact Nat.lt_irrefl _ this
  have T1 := looks_type (M := model prog w) S1 rfl
  have I1 : Looks (model prog w) H1 (isInstance (.ref S) (.type "super")) true := T1.andThen (looks_subIn (K := []) nilIn (by kernel_rfl))
  refine wpAny_bind (I1.at ?_)
  k_node
  have P1 : Looks (model prog w) H1 (specialOf (.ref S) "__init__") (some (.builtin "super.__init__")) := T1.andThen (looks_findIn (K := []) nilIn (by kernel_rfl))
  refine wpAny_bind (wpAny_holding ?_)
  unfold callSpecial?
  refine wpAny_bind (P1.at ?_)
  refine wpAny_holding ?_
  rw [si_bind]
  refine wpAny_bind (wpAny_pure ?_)
  refine wpAny_bind (wpAny_call ?_)
  refine codeAny_call_builtin si_plain si_entry ?_
  refine @check_slot (model prog w) _ _ ⟨H1, g, d, t, os⟩ "super.__init__" "super" "__init__" (.ref S) [.ref C, .ref C] [] _ si_kind si_split I1 (si_args _ _ _) ?_
  refine superInit (X.keeps k1) S1 fun h' S2 s2 => ?_
  refine wpAny_pure ?_
  k_node
  k_node
  refine wpAny_pure (hq S h' S2 fun b o e => ?_)
  have hb : b ≠ S := fun q => by
    have := Heap.lt_size e
    rw [hS, q] at this
    exact Nat.lt_irrefl _ this
  exact (s2.2 b hb).trans (k1 b o e)
end
end Mine
end
section
set_option maxRecDepth 100000
open PySem PySem.W PyProof.Rows PySem.Claim2Try PySem.Pin Builtin Builtin.ObjectAttr
namespace Mine
section
variable {prog : Program} {w : World} {A : Around} {E : Value → Shared → Prop} {h : Heap} {g : Array GenState} {d : Drawn} {t : Nat} {os : OsState}
noncomputable abbrev subObj (C : Addr) : Obj := { cls := .type "builtin_function_or_method", data := .fields #[.builtin "object.__init_subclass__", .ref C] }
theorem sg_kind : builtinKind "super.__getattribute__" = some .slot := by decide +kernel
theorem sg_split : splitId "super.__getattribute__" = some ("super", "__getattribute__") := by decide +kernel
theorem sg_args (a b : Value) : argsOk "super.__getattribute__" ⟨[a, b], []⟩ := by unfold argsOk; kernel_rfl
theorem sg_bind (self : Value) : bindSpecial (.builtin "super.__getattribute__") self = pure (.builtin "super.__getattribute__", [self]) := by kernel_rfl
theorem sg_entry : entryFor table "super.__getattribute__" = some Builtin.«super.__getattribute__» := entryFor_of_tree (by kernel_rfl)
theorem sg_plain : plainId "super.__getattribute__" = true := by decide +kernel
theorem looks_opaqueC {M : Model} {C : Addr} {mc : Str → Option Value} (hst : h.Ns cStatics mc) (hno : mc "thirdparty.any" = none) : Looks M h (opaqueClassAbove (.ref C)) none := by
  have a : Looks M h anyOpaqueLoaded false := by
    unfold anyOpaqueLoaded
    intro A Q E s k q
    refine wpAny_bind (wpAny_nsGet (hst.keeps k) ?_)
    rw [hno]
    exact wpAny_pure q
  exact Looks.andThen (a := false) a (by show Looks M h (if (!false) = true then pure none else _) none; rw [if_pos (show (!false) = true from rfl)]; exact .now)
theorem own_sub : classOwn (.type "object") ("__init_subclass__" : Str) = pure (some (.builtin "object.__init_subclass__")) := by kernel_rfl
theorem type_sub : typeOf (.builtin "object.__init_subclass__") = pure (.type "classmethod_descriptor") := by kernel_rfl
theorem get_cmd : typeLookup (.type "classmethod_descriptor") ("__get__" : Str) = pure (some (.builtin "classmethod_descriptor.__get__")) := by kernel_rfl
theorem inst_sub {M : Model} {h : Heap} : Looks M h (isInstance (.builtin "object.__init_subclass__") (.type "classmethod_descriptor")) true := Looks.of_pure (by kernel_rfl)
theorem cmd_run {C ns : Addr} {l : List (Str × Value)} {cd : ClassData} {sl : Array (Option Value)} (X : ClsAt h C ns l cd sl) {Q : PySem.Fin → Shared → Prop} (hq : Q (.done (.ret (.ref h.objs.size))) ⟨h.push (subObj C), g, d, t, os⟩) :
    wpAny (model prog w) A (Builtin.«classmethod_descriptor.__get__» ⟨[.builtin "object.__init_subclass__", .none, .ref C], []⟩) Q E ⟨h, g, d, t, os⟩ := by
  have L1 := looks_isType (M := model prog w) X.obj
  have L2 : Looks (model prog w) h (isSubtype (.ref C) (.type "object")) true := by
    have := looks_sub (M := model prog w) X (.type "object")
    rwa [show ([Value.ref C, .type "object"].contains (.type "object")) = true by simp] at this
  unfold Builtin.«classmethod_descriptor.__get__»
  refine wpAny_bind (wpAny_pure ?_)
  k_node
  k_node
  refine wpAny_bind (wpAny_pure ?_)
  k_node
  refine wpAny_bind (L1.at ?_)
  k_node
  k_node
  refine wpAny_bind (L2.at ?_)
  k_node
  k_node
  exact wpAny_bind (wpAny_newObj_type (wpAny_pure hq) (by size_fits))
theorem superGet {C ns S : Addr} {l : List (Str × Value)} {cd : ClassData} {sl : Array (Option Value)} {mc : Str → Option Value} (X : ClsAt h C ns l cd sl) (hS : h.get? S = some (superObj (.ref C) (.ref C) (.ref C))) (hst : h.Ns cStatics mc) (hno : mc "thirdparty.any" = none) {Q : PySem.Fin → Shared → Prop} {tk : Tok}
    (hq : Q (.done (.ret (.ref h.objs.size))) ⟨h.push (subObj C), g, d, t, os⟩) :
    wpAny (model prog w) A (Builtin.«super.__getattribute__» ⟨[.ref S, .str "__init_subclass__" tk], []⟩) Q E ⟨h, g, d, t, os⟩ := by
  have LO := looks_opaqueC (M := model prog w) (C := C) hst hno
  have LM := looks_mro (M := model prog w) X
  unfold Builtin.«super.__getattribute__»
  refine wpAny_bind (wpAny_pure ?_)
  k_node
  k_node
  refine wpAny_bind (wpAny_pure ?_)
  k_node
  k_node
  refine wpAny_bind (wpAny_field (x := .ref C) hS rfl rfl ?_)
  refine wpAny_bind (wpAny_field (x := .ref C) hS rfl rfl ?_)
  refine wpAny_bind (wpAny_field (x := .ref C) hS rfl rfl ?_)
  k_node
  k_node
  k_node
  unfold notOfAnOpaqueClass
  refine wpAny_bind (wpAny_bind (LO.at (wpAny_pure ?_)))
  k_node
  k_node
  refine wpAny_bind (LM.at ?_)
  k_node
  rw [show (List.drop 1 (List.dropWhile (fun x => x != Value.ref C) [Value.ref C, Value.type "object"])) = [Value.type "object"] by
    rw [List.dropWhile_cons, if_neg (by simp)]; rfl]
  refine wpAny_bind ?_
  rw [List.forIn_cons, own_sub]
  refine wpAny_bind (wpAny_bind (wpAny_pure ?_))
  k_node
  rw [type_sub]
  refine wpAny_bind (wpAny_pure ?_)
  rw [get_cmd]
  refine wpAny_bind (wpAny_pure ?_)
  k_node
  rw [if_pos (show (Value.ref C == Value.ref C) = true by simp)]
  refine wpAny_bind (wpAny_holding (wpAny_call ?_))
  refine codeAny_call_builtin cmd_plain cmd_entry (@check_slot (model prog w) _ _ ⟨h, g, d, t, os⟩ "classmethod_descriptor.__get__" "classmethod_descriptor" "__get__" (.builtin "object.__init_subclass__") [.none, .ref C] [] _ cmd_kind cmd_split inst_sub (cmd_args _ _ _) ?_)
  refine cmd_run X ?_
  refine wpAny_bind (wpAny_pure (wpAny_pure ?_))
  exact wpAny_pure (wpAny_pure hq)
theorem sub_get {C ns S : Addr} {l : List (Str × Value)} {cd : ClassData} {sl : Array (Option Value)} {mc : Str → Option Value} (X : ClsAt h C ns l cd sl) (hS : h.get? S = some (superObj (.ref C) (.ref C) (.ref C))) (hst : h.Ns cStatics mc) (hno : mc "thirdparty.any" = none) {Q : Value → Shared → Prop}
    (hq : Q (.ref h.objs.size) ⟨h.push (subObj C), g, d, t + 1, os⟩) : wpAny (model prog w) A (getAttr (.ref S) "__init_subclass__") Q E ⟨h, g, d, t, os⟩ := by
  have T1 := looks_type (M := model prog w) (c := .type "super") hS rfl
  have I1 : Looks (model prog w) h (isInstance (.ref S) (.type "super")) true := T1.andThen (looks_subIn (K := []) nilIn (by kernel_rfl))
  have L2 : Looks (model prog w) h (typeLookup (.type "super") "__getattribute__") (some (.builtin "super.__getattribute__")) := looks_findIn (K := []) nilIn (by kernel_rfl)
  unfold getAttr
  refine wpAny_bind (wpAny_mkText ?_)
  unfold getAttrBy
  refine wpAny_holding (wpAny_bind (T1.at (wpAny_bind (L2.at ?_))))
  k_node
  rw [if_neg (by decide +kernel)]
  unfold getAttrByItsOwn
  refine wpAny_bind (wpAny_pure (wpAny_bind (wpAny_attempt (wpAny_holding ?_))))
  unfold callGetattribute
  rw [if_neg (by decide +kernel)]
  unfold boundAndCalled
  rw [sg_bind]
  refine wpAny_bind (wpAny_pure ?_)
  show wpAny _ _ (call (.builtin "super.__getattribute__") [.ref S, .str "__init_subclass__" t]) _ _ _
  refine wpAny_call (codeAny_call_builtin sg_plain sg_entry ?_)
  refine @check_slot (model prog w) _ _ ⟨h, g, d, t + 1, os⟩ "super.__getattribute__" "super" "__getattribute__" (.ref S) [.str "__init_subclass__" t] [] _ sg_kind sg_split I1 (sg_args _ _) ?_
  refine superGet X hS hst hno ?_
  exact handed_on rfl hq
theorem va_sub : Manifest.varargsMethods.contains "object.__init_subclass__" = false := by decide +kernel
theorem ca_sub (C : Addr) : Bind.checkArgs "object.__init_subclass__" ⟨.noArgs, toString (Str.ofString "MPU").toString ++ toString "." ++ toString (Bind.lastOf "object.__init_subclass__"), "__init_subclass__", .cls, []⟩ ⟨[.ref C], []⟩ = pure () := by kernel_rfl
theorem is_entry : entryFor table "object.__init_subclass__" = some Builtin.«object.__init_subclass__» := entryFor_of_tree (by kernel_rfl)
theorem is_run (C : Addr) : Builtin.«object.__init_subclass__» ⟨[.ref C], []⟩ = ret .none := by kernel_rfl
set_option maxHeartbeats 1000000 in
theorem sub_call {q C ns : Addr} {l : List (Str × Value)} {cd : ClassData} {sl : Array (Option Value)} (X : ClsAt h C ns l cd sl) (hqn : cd.qualname = Str.ofString "MPU") {Q : Value → Shared → Prop} (ho : h.get? q = some (subObj C)) (hq : Q .none ⟨h, g, d, t, os⟩) :
    wpAny (model prog w) A (call (.ref q) [] []) Q E ⟨h, g, d, t, os⟩ := by
  have T1 := looks_type (M := model prog w) (c := .type "type") X.obj rfl
  have L1 := looks_isType (M := model prog w) X.obj
  have I1 : Looks (model prog w) h (isInstance (.ref C) (.type "module")) false := T1.andThen (looks_subIn (K := []) nilIn (by kernel_rfl))
  refine wpAny_call (codeAny_of_tree ?_)
  show wpAny _ _ (callAny (.ref q) _) _ _ _
  unfold callAny
  refine wpAny_bind (wpAny_load (o := subObj C) ho ?_)
  show wpAny _ _ (checkBoundCall "object.__init_subclass__" ⟨[.ref C], []⟩ >>= _) _ _ _
  refine wpAny_bind ?_
  unfold checkBoundCall
  k_node
  k_node
  k_node
  refine wpAny_bind (I1.at ?_)
  rw [va_sub]
  k_node
  refine wpAny_bind (L1.at ?_)
  k_node
  k_node
  refine wpAny_bind (wpAny_pure ?_)
  k_node
  refine wpAny_bind (wpAny_bind (wpAny_load X.obj (wpAny_pure ?_)))
  k_node
  refine wpAny_bind (T1.at ?_)
  k_node
  show wpAny _ _ (Bind.checkArgs "object.__init_subclass__" ⟨.noArgs, toString cd.qualname.toString ++ toString "." ++ toString (Bind.lastOf "object.__init_subclass__"), "__init_subclass__", .cls, []⟩ ⟨[.ref C], []⟩) _ _ _
  rw [hqn, ca_sub]
  refine wpAny_pure ?_
  refine wpAny_pure (And.intro (Code.quiet_builtin _ (by decide +kernel)) ?_)
  refine codeAny_builtin is_entry ?_
  show wpAny _ _ (Builtin.«object.__init_subclass__» ⟨[.ref C], []⟩) _ _ _
  rw [is_run]
  exact wpAny_pure hq
end
end Mine
end
section
set_option maxRecDepth 100000
open PySem PySem.W PyProof.Rows PySem.Claim2Try PySem.Pin Builtin Builtin.ObjectAttr
namespace Mine
theorem tcall_eq (n b ns : Value) : Builtin.«type.__call__» ⟨[.type "type", n, b, ns], []⟩ = (do
    let obj ← holding [.builtin "type.__new__"] (call (.builtin "type.__new__") [.type "type", n, b, ns] [])
    if !(← isInstance obj (.type "type")) then rule "type.call.new-gave-other-type"; return ← ret obj
    match ← holding [obj] (callSpecial? obj "__init__" [n, b, ns] []) with
    | none => ret obj
    | some r =>
      if r != .none then
        rule "type.call.init-returned-value"
        raiseError "TypeError" s!"__init__() should return None, not '{← typeNameOf r}'"
      ret obj) := by kernel_rfl
theorem tn_check (n : Str) (t : Tok) (b ns : Addr) : checkBuiltinCall "type.__new__" ⟨[.type "type", .str n t, .ref b, .ref ns], []⟩ = pure () := by kernel_rfl
theorem tn_entry : entryFor table "type.__new__" = some Builtin.«type.__new__» := entryFor_of_tree (by kernel_rfl)
theorem ti_entry : entryFor table "type.__init__" = some Builtin.«type.__init__» := entryFor_of_tree (by kernel_rfl)
theorem noteObj (a : Addr) : noteSubclassOfBuiltin "object" a = pure () := by kernel_rfl

theorem turned_obj : notOverATurnedClass [.type "object"] = pure () := by kernel_rfl
theorem ext_obj : extendedBase [.type "object"] = pure (.type "object") := by kernel_rfl
noncomputable abbrev plan0 : Slots.Plan := { names := [], dict := true, weak := true, inherited := [] }
theorem best_obj : Slots.bestBase [.type "object"] = pure (.type "object") := by kernel_rfl
theorem slots_obj : Slots.slotNamesOf (.type "object") = pure [] := by kernel_rfl
theorem gd_obj : Slots.givesDict (.type "object") = pure false := by kernel_rfl
theorem gw_obj : Slots.givesWeak (.type "object") = pure false := by kernel_rfl
theorem vs_obj : Slots.varSize (.type "object") = pure false := by kernel_rfl
theorem read_obj {name : Str} {es : Array DictEntry} (h : es.find? (fun e => e.key.isStr "__slots__") = none) : Slots.read name [.type "object"] es = pure plan0 := by
  unfold Slots.read
  rw [best_obj, pure_bind, slots_obj, pure_bind, gd_obj, pure_bind, gw_obj, pure_bind, vs_obj, pure_bind, h]
  rfl

theorem hook_none : mroHook? (.type "type") = pure none := by kernel_rfl
theorem lin_obj : linearize [.type "object"] mroOf = pure [.type "object"] := by kernel_rfl
theorem made_obj : Bind.madeBy (.type "object") = pure (some "object.__new__") := by kernel_rfl
theorem del_obj : ((Manifest.find? "object").elim false fun ty => ty.attrs.any fun x => x.1 == "__del__") = false := by decide +kernel
theorem own_new : fastBuiltinOwn "object" ("__new__" : Str) = some (.builtin "object.__new__") := by kernel_rfl
theorem end_new : ("object.__new__".endsWith ".__new__") = true := by decide +kernel

section
variable {prog : Program} {w : World} {A : Around} {E : Value → Shared → Prop} {h : Heap} {g : Array GenState} {d : Drawn} {t : Nat} {os : OsState}
/-- what type.__new__ leaves -/
structure NewCls (h h' : Heap) (C : Addr) (l : List (Str × Value)) : Prop where
  keep : ∀ b o, h.get? b = some o → h'.get? b = some o
  cls : ∃ ns Da Wa cd sl, ClsAt h' C ns (putP "__doc__" .none (putP "__weakref__" (.ref Wa) (putP "__dict__" (.ref Da) (dropP "__qualname__" l)))) cd sl ∧ cd.name = "MPU" ∧ cd.abstract = false ∧ cd.hasDel = false ∧ cd.hasDict = true ∧ cd.slotNames = [] ∧
    cd.bases = [.type "object"] ∧ (∃ k0 k1 k2 k3 k5, sl = #[k0, k1, k2, k3, some (.builtin "object.__new__"), k5]) ∧ h.objs.size ≤ C ∧ h.objs.size ≤ ns
theorem install0 {M : Model} {A : Around} {E : Value → Shared → Prop} {s : Shared} {a ns : Addr} {c : Value} {dd : Option Addr} {cd : ClassData} {sl : Array (Option Value)} {Q : Unit → Shared → Prop} (ho : s.heap.get? a = some ⟨c, dd, .cls cd, sl⟩)
    (h : ∀ h', h'.get? a = some ⟨c, dd, .cls { cd with hasDict := true, slotNames := [] }, sl⟩ → Heap.SameBut a s.heap h' → Q () { s with heap := h' }) (hp : (Data.cls { cd with hasDict := true, slotNames := [] }).pastItsLine = none := by rfl) : wpAny M A (Slots.install (.ref a) ns [.type "object"] plan0) Q E s := by
  unfold Slots.install
  refine wpAny_bind (wpAny_pure ?_)
  refine wpAny_bind ?_
  rw [List.forIn_cons, gd_obj]
  refine wpAny_bind (wpAny_bind (wpAny_pure (wpAny_pure ?_)))
  refine wpAny_pure ?_
  k_node
  rw [if_neg (by rw [sizeLine]; decide)]
  exact wpAny_updCls ho h hp
theorem anyM_del {C : Addr} {mro : List Value} {f : Value → Sem Bool} (h : List.filter (fun x => x != Value.ref C) mro = [Value.type "object"]) (hf : f (.type "object") = pure false := by exact congrArg pure del_obj) : List.anyM f (List.filter (fun x => x != Value.ref C) mro) = pure false := by
  rw [h, List.anyM, List.anyM, hf]; rfl
theorem nsGetAt {M : Model} {A : Around} {E : Value → Shared → Prop} {s : Shared} {β : Type} {a : Addr} {l : List (Str × Value)} {x : Str} {v : Option Value} {k : Option Value → Sem β} {Q : β → Shared → Prop} (N : NsL s.heap a l) (e : l.lookup x = v) (p : wpAny M A (k v) Q E s) : wpAny M A (nsGet a x >>= k) Q E s := wpAny_bind (wpAny_nsGet N.ns (e ▸ p))
noncomputable def absentNames : List Str := ["__slots__", "__doc__", "__new__", "__init_subclass__", "__class_getitem__", "__classcell__", "__classdictcell__", "__del__", "__dict__", "__weakref__", "__eq__"]
set_option maxHeartbeats 4000000 in
theorem wpAny_typeNew {tn tq : Tok} {bT nsA : Addr} {l : List (Str × Value)} {Q : PySem.Fin → Shared → Prop}
    (hT : h.get? bT = some { cls := .type "tuple", data := .seq #[] }) (hN : NsL h nsA l) (hsys : nsA ≠ sysModules) (lm : (l.lookup ("__module__" : Str)).isSome = true) (lq : l.lookup ("__qualname__" : Str) = some (.str "MPU" tq))
    (la : ∀ x ∈ absentNames, l.lookup x = none) (cv : ∀ x ∈ l, CV h x.2) (hlen : l.length ≤ 1000)
    {mc : Str → Option Value} (hst : h.Ns cStatics mc) (hno : mc "thirdparty.any" = none) (hq : ∀ h' tk C, NewCls h h' C l → Q (.done (.ret (.ref C))) ⟨h', g, d, tk, os⟩) :
    wpAny (model prog w) A (Builtin.«type.__new__» ⟨[.type "type", .str "MPU" tn, .ref bT, .ref nsA], []⟩) Q E ⟨h, g, d, t, os⟩ := by
  obtain ⟨es, en, ho, he⟩ := id hN
  have X : Frag.In [(bT, { cls := .type "tuple", data := .seq #[] })] h := fun a o e => by
    simp only [List.lookup] at e
    split at e
    · rename_i q; cases e; rw [beq_iff_eq.mp q]; exact hT
    · cases e
  have X2 : Frag.In [(nsA, dictOf es en)] h := fun a o e => by
    simp only [List.lookup] at e
    split at e
    · rename_i q; cases e; rw [beq_iff_eq.mp q]; exact ho
    · cases e
  have L1 : Looks (model prog w) h (isInstance (.ref bT) (.type "tuple")) true := looks_instIn X (by simp only [instIn, typeIn, List.lookup, beq_self_eq_true, Option.map_some, Option.bind_some]; kernel_rfl)
  have L2 : Looks (model prog w) h (isInstance (.ref nsA) (.type "dict")) true := looks_instIn X2 (by simp only [instIn, typeIn, List.lookup, beq_self_eq_true, Option.map_some, Option.bind_some]; kernel_rfl)
  have L3 : Looks (model prog w) h (specialOf (.ref nsA) "__iter__") (some (.builtin "dict.__iter__")) := looks_specialIn X2 (by simp only [specialIn, typeIn, List.lookup, beq_self_eq_true, Option.map_some, Option.bind_some]; kernel_rfl)
  have hfind : ∀ x : Str, (es.find? fun e => e.key.isStr x).map (·.val) = l.lookup x := fun x => find_kv x es l he
  have hnone : ∀ x : Str, l.lookup x = none → es.toArray.find? (fun e => e.key.isStr x) = none := fun x hx => by
    rw [List.find?_toArray]
    have := hfind x
    rw [hx] at this
    exact Option.map_eq_none_iff.mp this
  have hlenE : es.length = l.length := by
    have := congrArg List.length he
    simpa using this
  unfold Builtin.«type.__new__»
  refine wpAny_step (fun q => wpAny_pure q) ?_
  refine wpAny_step (fun q => L1.at q) ?_
  refine wpAny_step (fun q => L2.at q) ?_
  refine wpAny_step (fun q => wpAny_seqItems hT rfl q) ?_
  refine wpAny_step (fun q => wpAny_pure q) ?_
  refine wpAny_step (fun q => wpAny_pure q) ?_
  refine wpAny_to turned_obj ?_
  refine wpAny_to ext_obj ?_
  have hs1 : (nsA == sysModules) = false := by rw [beq_eq_false_iff_ne]; exact hsys
  refine wpAny_no (by rw [hs1]; decide) ?_
  refine wpAny_step (fun q => wpAny_dictEntries ho rfl q) ?_
  refine wpAny_step (fun q => L3.at q) ?_
  refine wpAny_yes (by rw [show (some (Value.builtin "dict.__iter__") == some (Value.builtin "dict.__iter__")) = true from by decide +kernel, Bool.or_true]) ?_
  refine wpAny_step (fun q => wpAny_pure q) ?_
  refine wpAny_bind (wpAny_holding (wpAny_is (read_obj (hnone _ (la _ (by decide +kernel)))) ?_))
  refine wpAny_bind (wpAny_newObj_type ?_ (by show es.toArray.size ≤ sizeLine + 1; rw [List.size_toArray, hlenE, sizeLine]; omega))
  show wpAny _ _ _ _ _ ⟨h.push (dictOf es 0), g, d, t, os⟩
  generalize hH1 : h.push (dictOf es 0) = H1
  have k1 : ∀ b o, h.get? b = some o → H1.get? b = some o := fun b o e => hH1 ▸ Heap.get?_push_of_some _ e
  have z1 : H1.objs.size = h.objs.size + 1 := by rw [← hH1, Heap.size_push]
  have N1 : NsL H1 h.objs.size l := ⟨es, 0, by rw [← hH1]; exact Heap.get?_push_size _ rfl, he⟩
  generalize hns : h.objs.size = ns at *
  have hmod : es.toArray.any (fun x => x.key.isStr (Str.ofString "__module__")) = true := by
    rw [List.any_toArray, ← any_of_findIdx]
    rcases erase_kv (Str.ofString "__module__") es l he with ⟨i, hi, _⟩ | ⟨_, hl⟩
    · rw [hi]; rfl
    · rw [hl] at lm; cases lm
  refine wpAny_no (show ¬ ((!(es.toArray.any fun x => x.key.isStr (Str.ofString "__module__"))) = true) by rw [hmod]; decide) ?_
  refine wpAny_bind (wpAny_no (by decide +kernel) (wpAny_pure ?_))
  refine wpAny_no (by decide +kernel) ?_
  refine nsGetAt N1 (lq) ?_
  refine nsGetAt N1 (lq) ?_
  refine wpAny_step (fun q => wpAny_pure q) ?_
  refine wpAny_step (fun q => wpAny_pure q) ?_
  refine nsGetAt N1 (la _ (by decide +kernel)) ?_
  refine wpAny_step (fun q => wpAny_alloc q) ?_
  show wpAny _ _ _ _ _ ⟨H1.push { cls := .type "type", data := .cls { name := "MPU", bases := [.type "object"], mro := [], ns := ns, qualname := "MPU" } }, g, d, t, os⟩
  generalize hH2 : H1.push { cls := .type "type", data := .cls { name := "MPU", bases := [.type "object"], mro := [], ns := ns, qualname := "MPU" } } = H2
  have k2 : ∀ b o, H1.get? b = some o → H2.get? b = some o := fun b o e => hH2 ▸ Heap.get?_push_of_some _ e
  have z2 : H2.objs.size = ns + 2 := by rw [← hH2, Heap.size_push, z1]
  have C2 : H2.get? H1.objs.size = some ⟨.type "type", none, .cls { name := "MPU", bases := [.type "object"], mro := [], ns := ns, qualname := "MPU" }, #[]⟩ := by rw [← hH2]; exact Heap.get?_push_size _ rfl
  show wpAny _ _ _ _ _ _
  rw [show Shared.heap ⟨H1, g, d, t, os⟩ = H1 from rfl, z1]
  rw [z1] at C2
  generalize hC : ns + 1 = C at *
  have hnC : ns ≠ C := by rw [← hC]; exact Nat.ne_of_lt (Nat.lt_succ_self _)
  have N2 := N1.keeps k2
  refine wpAny_bind (wpAny_setSlot C2 (by rw [sizeLine]; decide) fun H3 sl3 e3 _ C3 s3 => ?_)
  have N3 : NsL H3 ns l := N2.at fun o e => (s3.2 _ hnC).trans e
  refine wpAny_bind (wpAny_setSlot C3 (by rw [sizeLine]; decide) fun H4 sl4 e4 _ C4 s4 => ?_)
  have N4 : NsL H4 ns l := N3.at fun o e => (s4.2 _ hnC).trans e
  refine wpAny_bind (wpAny_nsDelL N4 (by rw [lq]; rfl) fun H5 N5 s5 => ?_)
  have C5 := (s5.2 C hnC.symm).trans C4
  have la5 : ∀ x ∈ absentNames, (dropP ("__qualname__" : Str) l).lookup x = none := fun x hx => by
    rw [dropP_lookup_ne, la x hx]
    rintro rfl
    exact absurd hx (by decide +kernel)
  refine nsGetAt N5 (la5 _ (by decide +kernel)) ?_
  refine wpAny_bind (wpAny_forC (nsGetAt N5 (la5 _ (by decide +kernel)) (wpAny_pure ?_)))
  refine wpAny_forC (nsGetAt N5 (la5 _ (by decide +kernel)) (wpAny_pure ?_))
  refine wpAny_forN ?_
  refine nsGetAt N5 (la5 _ (by decide +kernel)) ?_
  refine nsGetAt N5 (la5 _ (by decide +kernel)) ?_
  refine wpAny_to hook_none ?_
  refine wpAny_to lin_obj ?_
  refine wpAny_step (fun q => wpAny_pure q) ?_
  have hfil : List.filter (fun x => x != Value.ref C) (Value.ref C :: [Value.type "object"]) = [Value.type "object"] := by
    rw [List.filter_cons, if_neg (by simp), List.filter_cons, if_pos (by simp)]; rfl
  refine wpAny_to (anyM_del hfil) ?_
  have hdel : es.toArray.any (fun x => x.key.isStr (Str.ofString "__del__")) = false := by
    rw [List.any_toArray, ← any_of_findIdx]
    rcases erase_kv (Str.ofString "__del__") es l he with ⟨i, hi, _⟩ | ⟨hi, _⟩
    · have := hfind (Str.ofString "__del__")
      rw [la _ (by decide +kernel)] at this
      have h2 := Option.map_eq_none_iff.mp this
      rw [List.findIdx?_eq_none_iff.mpr (fun e he' => by simpa using List.find?_eq_none.mp h2 e he')]; rfl
    · rw [hi]; rfl
  refine wpAny_bind (wpAny_updCls C5 fun H6 C6 s6 => ?_)
  replace C6 : H6.get? C = some ⟨.type "type", none, .cls { name := "MPU", bases := [.type "object"], mro := [.ref C, .type "object"], ns := ns, qualname := "MPU", hasDel := false }, sl4⟩ := by rw [C6]; simp only [hdel, Bool.or_false]
  have N6 := N5.at fun o e => (s6.2 _ hnC).trans e
  refine wpAny_to made_obj ?_
  refine wpAny_bind (wpAny_setSlot C6 (by rw [sizeLine]; decide) fun H7 sl7 e7 _ C7 s7 => ?_)
  have N7 := N6.at fun o e => (s7.2 _ hnC).trans e
  have A7 := ClsAt.mk C7 rfl rfl N7
  have L7 : Looks (model prog w) H7 (typeLookup (.ref C) "__new__") (some (.builtin "object.__new__")) := A7.past (la5 _ (by decide +kernel)) own_new
  unfold Bind.refreshMaker
  refine wpAny_bind (wpAny_bind (wpAny_bind (wpAny_loadPart C7 (wpAny_pure ?_))))
  rw [e7.1]
  refine wpAny_step (fun q => L7.at q) ?_
  refine wpAny_no (by rw [end_new]; decide) ?_
  refine wpAny_pure ?_
  refine wpAny_bind (install0 C7 fun H8 C8 s8 => ?_)
  have N8 := N7.at fun o e => (s8.2 _ hnC).trans e
  refine wpAny_to gw_obj ?_
  refine wpAny_bind (wpAny_setSlot C8 (by rw [sizeLine]; decide) fun H9 sl9 e9 k9 C9 s9 => ?_)
  have N9 := N8.at fun o e => (s9.2 _ hnC).trans e
  have e94 := six_of (by rw [e9.2, e7.2, e4.2, e3.2]; rfl) (k9 4 _ (by decide) e7.1)
  show wpAny _ _ _ _ _ ⟨H9, g, d, t, os⟩
  refine nsGetAt N9 (la5 _ (by decide +kernel)) ?_
  refine wpAny_step (fun q => wpAny_mkStr q) ?_
  refine wpAny_bind (wpAny_newObj_type ?_ (by size_fits))
  show wpAny _ _ _ _ _ ⟨H9.push { cls := .type "getset_descriptor", data := .fields #[.str "__dict__" t, .ref C, .builtin "function.__dict__", .builtin "function.__dict__#set"] }, g, d, t + 1, os⟩
  generalize hH10 : H9.push _ = H10
  have k10 : ∀ b o, H9.get? b = some o → H10.get? b = some o := fun b o e => hH10 ▸ Heap.get?_push_of_some _ e
  have D10 : H10.get? H9.objs.size = some { cls := .type "getset_descriptor", data := .fields #[.str "__dict__" t, .ref C, .builtin "function.__dict__", .builtin "function.__dict__#set"] } := by rw [← hH10]; exact Heap.get?_push_size _ rfl
  have hDn : H9.objs.size ≠ ns := fun e => by
    obtain ⟨es', m, ho', _⟩ := N9
    have := Heap.lt_size ho'
    rw [e] at this
    exact Nat.lt_irrefl _ this
  have hDC : H9.objs.size ≠ C := fun e => by
    have := Heap.lt_size C9
    rw [e] at this
    exact Nat.lt_irrefl _ this
  show wpAny _ _ (nsSet ns "__dict__" (.ref H9.objs.size) >>= _) _ _ _
  generalize hD : H9.objs.size = Da at *
  refine wpAny_bind (wpAny_nsSetL (N9.keeps k10) fun H11 N11 s11 => ?_)
  have C11 := (s11.2 C hnC.symm).trans (k10 _ _ C9)
  have D11 := (s11.2 Da hDn).trans D10
  show wpAny _ _ _ _ _ ⟨H11, g, d, t + 1 + 1, os⟩
  refine nsGetAt N11 (by rw [putP_lookup_ne (by decide +kernel), la5 _ (by decide +kernel)]) ?_
  refine wpAny_step (fun q => wpAny_mkStr q) ?_
  refine wpAny_bind (wpAny_newObj_type ?_ (by size_fits))
  show wpAny _ _ _ _ _ ⟨H11.push { cls := .type "getset_descriptor", data := .fields #[.str "__weakref__" (t + 1 + 1), .ref C, .builtin "ExceptionGroup.__weakref__", .none] }, g, d, t + 1 + 1 + 1, os⟩
  generalize hH12 : H11.push _ = H12
  have k12 : ∀ b o, H11.get? b = some o → H12.get? b = some o := fun b o e => hH12 ▸ Heap.get?_push_of_some _ e
  have W12 : H12.get? H11.objs.size = some { cls := .type "getset_descriptor", data := .fields #[.str "__weakref__" (t + 1 + 1), .ref C, .builtin "ExceptionGroup.__weakref__", .none] } := by rw [← hH12]; exact Heap.get?_push_size _ rfl
  have hWn : H11.objs.size ≠ ns := fun e => by
    obtain ⟨es', m, ho', _⟩ := N11
    have := Heap.lt_size ho'
    rw [e] at this
    exact Nat.lt_irrefl _ this
  show wpAny _ _ (nsSet ns "__weakref__" (.ref H11.objs.size) >>= _) _ _ _
  generalize hW : H11.objs.size = Wa at *
  refine wpAny_bind (wpAny_nsSetL (N11.keeps k12) fun H13 N13 s13 => ?_)
  have C13 := (s13.2 C hnC.symm).trans (k12 _ _ C11)
  have D13 := (s13.2 Da hDn).trans (k12 _ _ D11)
  have W13 := (s13.2 Wa hWn).trans W12
  show wpAny _ _ _ _ _ ⟨H13, g, d, t + 1 + 1 + 1 + 1, os⟩
  refine nsGetAt N13 (by rw [putP_lookup_ne (by decide +kernel), putP_lookup_ne (by decide +kernel), la5 _ (by decide +kernel)]) ?_
  refine wpAny_bind (wpAny_nsSetL N13 fun H14 N14 s14 => ?_)
  have C14 := (s14.2 C hnC.symm).trans C13
  have D14 := (s14.2 Da hDn).trans D13
  have W14 := (s14.2 Wa hWn).trans W13
  show wpAny _ _ _ _ _ ⟨H14, g, d, t + 1 + 1 + 1 + 1 + 1, os⟩
  refine nsGetAt N14 (by rw [putP_lookup_ne (by decide +kernel), putP_lookup_ne (by decide +kernel), putP_lookup_ne (by decide +kernel), la5 _ (by decide +kernel)]) ?_
  refine wpAny_bind (wpAny_forC (wpAny_to (noteObj C) (wpAny_pure ?_)))
  refine wpAny_forN ?_
  refine wpAny_bind (wpAny_tryCatch (wpAny_holding ?_))
  obtain ⟨es14, n14, ho14, he14⟩ := id N14
  refine wpAny_step (fun q => wpAny_dictEntries ho14 rfl q) ?_
  refine wpAny_bind ?_
  rw [List.forIn_toArray]
  refine wpAny_forIn_list _ (fun rest b s' => b = false ∧ s' = ⟨H14, g, d, t + 1 + 1 + 1 + 1 + 1, os⟩ ∧ ∀ e ∈ rest, ∃ n t, e.key = .str n t) _ ?_ ?_ es14 _ ⟨rfl, rfl, strKeys_kv he14⟩
  · rintro e rest b s' ⟨rfl, rfl, hk⟩
    obtain ⟨n, tk, hkey⟩ := hk e (List.mem_cons_self ..)
    rw [hkey]
    exact wpAny_bind (wpAny_pure (wpAny_pure ⟨rfl, rfl, fun e' he' => hk e' (List.mem_cons_of_mem _ he')⟩))
  · rintro b s' ⟨rfl, rfl, _⟩
    refine wpAny_step (fun q => wpAny_dictEntries ho14 rfl q) ?_
    refine wpAny_bind ?_
    rw [List.forIn_toArray]
    have kall : ∀ b o, b ≠ ns → b ≠ C → h.get? b = some o → H14.get? b = some o := fun b o hn hc e =>
      (s14.2 b hn).trans ((s13.2 b hn).trans (k12 b o ((s11.2 b hn).trans (k10 b o ((s9.2 b hc).trans ((s8.2 b hc).trans ((s7.2 b hc).trans ((s6.2 b hc).trans ((s5.2 b hn).trans ((s4.2 b hc).trans ((s3.2 b hc).trans (k2 b o (k1 b o e)))))))))))))
    have kold : ∀ b o, h.get? b = some o → H14.get? b = some o := fun b o e => by
      have hb := Heap.lt_size e
      rw [hns] at hb
      exact kall b o (Nat.ne_of_lt hb) (by rw [← hC]; exact Nat.ne_of_lt (Nat.lt_succ_of_lt hb)) e
    have cv14 : ∀ x ∈ putP ("__doc__" : Str) .none (putP ("__weakref__" : Str) (.ref Wa) (putP ("__dict__" : Str) (.ref Da) (dropP ("__qualname__" : Str) l))), CV H14 x.2 := fun x hx => by
      rcases mem_putP hx with e | hx
      · rw [e]; trivial
      rcases mem_putP hx with e | hx
      · rw [e]; exact ⟨_, W14, .inr (.inr (.inr rfl))⟩
      rcases mem_putP hx with e | hx
      · rw [e]; exact ⟨_, D14, .inr (.inr (.inr rfl))⟩
      exact (cv x (mem_dropP hx)).at fun b o _ e => kold b o e
    have cve : ∀ e ∈ es14, CV H14 e.val := fun e hm => by
      have : kv e ∈ es14.map kv := List.mem_map_of_mem hm
      rw [he14] at this
      obtain ⟨x, hx, hkv⟩ := List.mem_map.mp this
      rw [(kv_str hkv.symm).2]
      exact cv14 x hx
    refine wpAny_forIn_list _ (fun rest b s' => s' = ⟨H14, g, d, t + 1 + 1 + 1 + 1 + 1, os⟩ ∧ ∀ e ∈ rest, CV H14 e.val) _ ?_ ?_ es14 _ ⟨rfl, cve⟩
    · rintro e rest b s' ⟨rfl, hk⟩
      have hcv := hk e (List.mem_cons_self ..)
      rw [hcv.held]
      refine wpAny_bind (hcv.looks.at ?_)
      exact wpAny_pure ⟨rfl, fun e' he' => hk e' (List.mem_cons_of_mem _ he')⟩
    · rintro b s' ⟨rfl, _⟩
      have X14 := ClsAt.mk C14 rfl rfl N14
      refine wpAny_bind (superMake X14 fun S H15 S15 k15 => ?_)
      have X15 := X14.keeps k15
      have hst15 : H15.Ns cStatics mc := (hst.keeps kold).keeps k15
      refine wpAny_bind (wpAny_holding (sub_get X15 S15 hst15 hno ?_))
      refine wpAny_bind (sub_call (X15.keeps fun b o e => Heap.get?_push_of_some _ e) rfl (Heap.get?_push_size _ rfl) ?_)
      refine wpAny_pure (wpAny_pure ?_)
      have k16 : ∀ b o, H14.get? b = some o → (H15.push (subObj C)).get? b = some o := fun b o e => Heap.get?_push_of_some _ (k15 b o e)
      refine hq _ _ C ⟨fun b o e => k16 b o (kold b o e), ns, Da, Wa, _, _, X14.keeps k16, rfl, rfl, rfl, rfl, rfl, rfl, e94, ?_, ?_⟩
      · rw [hns, ← hC]; exact Nat.le_succ _
      · rw [hns]; exact Nat.le_refl _
end
end Mine
end
section
set_option maxRecDepth 100000
open PySem PySem.W PyProof.Rows PySem.Claim2Try PySem.Pin Builtin Builtin.ObjectAttr
namespace Mine
theorem tn_plain : plainId "type.__new__" = true := by decide +kernel
theorem ti_plain : plainId "type.__init__" = true := by decide +kernel
theorem ti_kind : builtinKind "type.__init__" = some .slot := by decide +kernel
theorem ti_split : splitId "type.__init__" = some ("type", "__init__") := by decide +kernel
theorem ti_args (a b c d : Value) : argsOk "type.__init__" ⟨[a, b, c, d], []⟩ := by unfold argsOk; kernel_rfl
theorem ti_bind (self : Value) : bindSpecial (.builtin "type.__init__") self = pure (.builtin "type.__init__", [self]) := by kernel_rfl
theorem ti_run (a b c d : Value) : Builtin.«type.__init__» ⟨[a, b, c, d], []⟩ = ret .none := by kernel_rfl
section
variable {prog : Program} {w : World} {A : Around} {E : Value → Shared → Prop} {h : Heap} {g : Array GenState} {d : Drawn} {t : Nat} {os : OsState}
set_option maxHeartbeats 1000000 in
theorem wpAny_typeCall {tn tq : Tok} {bT nsA : Addr} {l : List (Str × Value)} {Q : Value → Shared → Prop}
    (hT : h.get? bT = some { cls := .type "tuple", data := .seq #[] }) (hN : NsL h nsA l) (hsys : nsA ≠ sysModules) (lm : (l.lookup ("__module__" : Str)).isSome = true) (lq : l.lookup ("__qualname__" : Str) = some (.str "MPU" tq))
    (la : ∀ x ∈ absentNames, l.lookup x = none) (cv : ∀ x ∈ l, CV h x.2) (hlen : l.length ≤ 1000)
    {mc : Str → Option Value} (hst : h.Ns cStatics mc) (hno : mc "thirdparty.any" = none) (hq : ∀ h' tk C, NewCls h h' C l → Q (.ref C) ⟨h', g, d, tk, os⟩) :
    wpAny (model prog w) A (call (.type "type") [.str "MPU" tn, .ref bT, .ref nsA] []) Q E ⟨h, g, d, t, os⟩ := by
  refine wpAny_call (codeAny_of_tree ?_)
  show wpAny _ _ (callAny (.type "type") _) _ _ _
  refine wpAny_pure (And.intro (Code.quiet_builtin _ (by decide +kernel)) ?_)
  refine codeAny_builtin tc_entry ?_
  show wpAny _ _ (Builtin.«type.__call__» ⟨[.type "type", .str "MPU" tn, .ref bT, .ref nsA], []⟩) _ _ _
  rw [tcall_eq]
  refine wpAny_bind (wpAny_holding (wpAny_call ?_))
  refine codeAny_call_builtin tn_plain tn_entry ?_
  show wpAny _ _ (checkBuiltinCall "type.__new__" ⟨[.type "type", .str "MPU" tn, .ref bT, .ref nsA], []⟩) _ _ _
  rw [tn_check]
  refine wpAny_pure ?_
  show wpAny _ _ (Builtin.«type.__new__» ⟨[.type "type", .str "MPU" tn, .ref bT, .ref nsA], []⟩) _ _ _
  refine wpAny_typeNew hT hN hsys lm lq la cv hlen hst hno fun h' tk C nc => ?_
  obtain ⟨ns, Da, Wa, cd, sl, X, _⟩ := id nc.cls
  have T1 := looks_type (M := model prog w) (c := .type "type") X.obj rfl
  have I1 : Looks (model prog w) h' (isInstance (.ref C) (.type "type")) true := T1.andThen (looks_subIn (K := []) nilIn (by kernel_rfl))
  have P1 : Looks (model prog w) h' (specialOf (.ref C) "__init__") (some (.builtin "type.__init__")) := T1.andThen (looks_findIn (K := []) nilIn (by kernel_rfl))
  refine wpAny_bind (I1.at ?_)
  k_node
  refine wpAny_bind (wpAny_holding ?_)
  unfold callSpecial?
  refine wpAny_bind (P1.at ?_)
  refine wpAny_holding ?_
  rw [ti_bind]
  refine wpAny_bind (wpAny_pure ?_)
  refine wpAny_bind (wpAny_call ?_)
  refine codeAny_call_builtin ti_plain ti_entry ?_
  refine @check_slot (model prog w) _ _ ⟨h', g, d, tk, os⟩ "type.__init__" "type" "__init__" (.ref C) [.str "MPU" tn, .ref bT, .ref nsA] [] _ ti_kind ti_split I1 (ti_args _ _ _ _) ?_
  show wpAny _ _ (Builtin.«type.__init__» ⟨[.ref C, .str "MPU" tn, .ref bT, .ref nsA], []⟩) _ _ _
  rw [ti_run]
  refine wpAny_pure (wpAny_pure ?_)
  k_node
  exact wpAny_pure (hq h' tk C nc)
end
end Mine
end
section
set_option maxRecDepth 100000
open PySem PySem.W PyProof.Rows PySem.Claim2Try PySem.Pin Builtin Builtin.ObjectAttr
namespace Mine
/-- what the top's first steps leave, once and for all -/
structure Top0 (h0 : Heap) (mg0 : Str → Option Value) (c Pl : Addr) : Prop where
  gP : mainGlobals ≠ Pl
  gc : mainGlobals ≠ c
  sP : cStatics ≠ Pl
  b : h0.BuiltinsAt mg0 Pl
  st : h0.Ns cStatics (fun _ => none)
  blt : ∃ mb, h0.Ns builtinsNs mb ∧ mb "__build_class__" = some (.builtin "__build_class__")
  bP : builtinsNs ≠ Pl
  sys : sysModules < h0.objs.size
  lt : mainGlobals < h0.objs.size
  Plt : Pl < h0.objs.size
noncomputable abbrev upd (mg : Str → Option Value) (x : Str) (v : Value) : Str → Option Value := fun y => if y = x then some v else mg y
/-- the state between two statements of the top -/
structure Mid (h0 h : Heap) (mg0 mg : Str → Option Value) (c Pl : Addr) (L : Nat) : Prop where
  old : ∀ b o, b ≠ mainGlobals → b ≠ Pl → h0.get? b = some o → h.get? b = some o
  g : h.Ns mainGlobals mg
  code : ∃ ps, h.IsCode c Pl ps ∧ LinesBelow L ps.toList
  sz : h0.objs.size ≤ h.objs.size
  bl : mg "__builtins__" = mg0 "__builtins__"
theorem Mid.b {h0 h : Heap} {mg0 mg : Str → Option Value} {c Pl : Addr} {L : Nat} (T : Top0 h0 mg0 c Pl) (m : Mid h0 h mg0 mg c Pl L) : h.BuiltinsAt mg Pl := by
  obtain ⟨bm, o, h1, h2, h3, h4, h5, h6⟩ := T.b
  exact ⟨bm, o, m.bl.trans h1, h2, h3, h4, m.old _ _ h3 h4 h5, h6⟩
section
variable {M : Model} {A : Around} {E : Value → Shared → Prop} {s : Shared} {prog : Program} {c Pl F : Addr} {h0 : Heap} {mg0 mg : Str → Option Value} {L : Nat}
theorem mid_bind {h : Heap} {x : Str} {v : Value} {Q : Unit → Shared → Prop} (T : Top0 h0 mg0 c Pl) (m : Mid h0 s.heap mg0 mg c Pl L) (hloc : prog.main.scope.names.lookup x = some .local) (hmod : prog.main.scope.kind = .module) (hx : x ≠ "__builtins__")
    (h : ∀ h' tk, Mid h0 h' mg0 (upd mg x v) c Pl L → (∀ b o, b ≠ mainGlobals → s.heap.get? b = some o → h'.get? b = some o) → h'.objs.size = s.heap.objs.size → Q () { s with heap := h', toks := tk }) :
    wpAny M A (storeName (mainEnv prog c F) x v) Q E s := by
  refine wpAny_storeName_local (env := mainEnv prog c F) hloc m.g (fun h' hg' hs' => ?_) (by show (prog.main.scope.kind == .class || (prog.main.scope.kind == .module && mainGlobals != mainGlobals)) = false; rw [hmod]; rfl)
  obtain ⟨ps, hc, hl⟩ := m.code
  refine h h' _ ⟨fun b o h1 h2 e => (hs'.2 b h1).trans (m.old b o h1 h2 e), hg', ⟨ps, hc.sameBut hs' T.gc.symm T.gP.symm, hl⟩, Nat.le_trans m.sz (Nat.le_of_eq hs'.1.symm), ?_⟩ (fun b o hb e => (hs'.2 b hb).trans e) hs'.1
  show (if _ then _ else _) = _
  rw [if_neg hx.symm]; exact m.bl
theorem mid_assign {x v : Str} {p q r : Pos} {k : Nat} {Q : Flow → Shared → Prop} (T : Top0 h0 mg0 c Pl) (m : Mid h0 s.heap mg0 mg c Pl L) (hloc : prog.main.scope.names.lookup x = some .local) (hmod : prog.main.scope.kind = .module) (hx : x ≠ "__builtins__")
    (h : ∀ t h' tk, Mid h0 h' mg0 (upd mg x (.str v t)) c Pl L → (∀ b o, b ≠ mainGlobals → s.heap.get? b = some o → h'.get? b = some o) → h'.objs.size = s.heap.objs.size → Q .next { s with heap := h', toks := tk }) :
    wpAny M A (exec (.Assign [.Name x p] (.Constant (.str v) k q) r) (mainEnv prog c F)) Q E s := by
  refine wpAny_Assign_Name (wpAny_eval_const rfl fun w tk hv => ?_)
  obtain ⟨t, rfl⟩ := hv
  exact mid_bind (s := { s with toks := tk }) (h := h0) T m hloc hmod hx fun h' tk' m' k' z' => h t h' tk' m' k' z'
theorem mid_def {name : Str} {params : Arguments} {body : List Stmt} {scope : Scope} {pos : Pos} {Q : Flow → Shared → Prop} (T : Top0 h0 mg0 c Pl) (m : Mid h0 s.heap mg0 mg c Pl L) (hloc : prog.main.scope.names.lookup name = some .local) (hmod : prog.main.scope.kind = .module) (hx : name ≠ "__builtins__")
    (ok : defOkB params scope = true) (hp : L ≤ pos.line)
    (h : ∀ v h' tk, FnAt h' s.heap.objs.size v name (qualnameIn (mainEnv prog c F) name name) params body scope → Mid h0 h' mg0 (upd mg name v) c Pl (pos.line + 1) → (∀ b o, b ≠ mainGlobals → b ≠ Pl → s.heap.get? b = some o → h'.get? b = some o) → s.heap.objs.size ≤ h'.objs.size → Q .next { s with heap := h', toks := tk }) :
    wpAny M A (exec (.FunctionDef name params body [] none [] scope none name pos) (mainEnv prog c F)) Q E s := by
  obtain ⟨ps, hc, hl⟩ := m.code
  refine wpAny_defAny (defOk_of ok) rfl m.g rfl hc (codeAmong_below hp _ hl) T.gP (m.b T) fun v c' h' tk hf hx' hsz hok' => ?_
  have m1 : Mid h0 h' mg0 mg c Pl (pos.line + 1) := ⟨fun b o h1 h2 e => hx' b o h2 (m.old b o h1 h2 e), m.g.at fun o => hx' _ o T.gP, ⟨_, hok', by
    rw [Array.toList_append]; exact LinesBelow.snoc (Nat.lt_succ_self _) (hl.mono (Nat.le_succ_of_le hp))⟩, Nat.le_trans m.sz hsz, m.bl⟩
  refine wpAny_bindName (mid_bind (s := { s with heap := h', toks := tk }) (h := h0) T m1 hloc hmod hx fun h'' tk' m' k' z' => ?_)
  exact h v h'' tk' (hf.keeps fun b o hb e => k' b o (Nat.ne_of_gt (Nat.lt_of_lt_of_le (Nat.lt_of_lt_of_le T.lt m.sz) hb)) e) m' (fun b o h1 h2 e => k' b o h1 (hx' b o h2 e)) (Nat.le_trans hsz (Nat.le_of_eq z'.symm))
end
end Mine
end
section
set_option maxRecDepth 100000
open PySem PySem.W PyProof.Rows PySem.Claim2Try PySem.Pin Builtin Builtin.ObjectAttr
namespace Mine
theorem putP_length {name : Str} {v : Value} : ∀ l : List (Str × Value), (putP name v l).length ≤ l.length + 1
  | [] => Nat.le_refl _
  | x :: r => by
    unfold putP
    split
    · exact Nat.le_succ _
    · exact Nat.succ_le_succ (putP_length r)
theorem BodyMade.length {h : Heap} {lo : Nat} {qual : Str} : ∀ {b : List Stmt} {l l' : List (Str × Value)}, BodyMade h lo qual l b l' → l'.length ≤ l.length + b.length
  | [], _, _, x => by cases x; exact Nat.le_refl _
  | st :: r, l, l', ⟨v, _, x⟩ => by
    have h1 := BodyMade.length x
    have h2 := putP_length (name := nameOf st) (v := v) l
    rw [List.length_cons]
    omega
theorem BodyMade.ne {h : Heap} {lo : Nat} {qual x : Str} : ∀ {b : List Stmt} {l l' : List (Str × Value)}, BodyMade h lo qual l b l' → (b.all fun st => nameOf st != x) = true → l'.lookup x = l.lookup x
  | [], _, _, e, _ => by cases e; rfl
  | st :: r, l, l', ⟨v, _, e⟩, hx => by
    rw [List.all_cons, Bool.and_eq_true] at hx
    rw [BodyMade.ne e hx.2, putP_lookup_ne]
    have := hx.1
    simp at this
    exact fun q => this q.symm
theorem Made.lower {h : Heap} {lo lo' : Nat} {qual : Str} {l : List (Str × Value)} {st : Stmt} {v : Value} (hl : lo' ≤ lo) (x : Made h lo qual l st v) : Made h lo' qual l st v := by
  cases x with
  | asg x => exact .asg x
  | lst ha g i => exact .lst (Nat.le_trans hl ha) g i
  | fn x => exact .fn (x.lower hl)
theorem BodyMade.lower {h : Heap} {lo lo' : Nat} {qual : Str} (hl : lo' ≤ lo) : ∀ {b : List Stmt} {l l' : List (Str × Value)}, BodyMade h lo qual l b l' → BodyMade h lo' qual l b l'
  | [], _, _, x => x
  | _ :: _, _, _, ⟨v, m, r⟩ => ⟨v, m.lower hl, BodyMade.lower hl r⟩
/-- the class stands: its list, its record -/
structure ClsMade (h : Heap) (lo : Nat) (C : Addr) (body : List Stmt) : Prop where
  made : ∃ ns Da Wa ft cd sl nm tm tq tf fl l', ClsAt h C ns (putP "__doc__" .none (putP "__weakref__" (.ref Wa) (putP "__dict__" (.ref Da) (dropP "__qualname__" (putP "__static_attributes__" (.ref ft) l'))))) cd sl ∧
    cd.name = "MPU" ∧ cd.abstract = false ∧ cd.hasDel = false ∧ cd.hasDict = true ∧ cd.slotNames = [] ∧ cd.bases = [.type "object"] ∧ (∃ k0 k1 k2 k3 k5, sl = #[k0, k1, k2, k3, some (.builtin "object.__new__"), k5]) ∧ lo ≤ C ∧ lo ≤ ns ∧
    BodyMade h lo "MPU" [(("__module__" : Str), .str nm tm), (("__qualname__" : Str), .str "MPU" tq), (("__firstlineno__" : Str), .int fl tf)] body l'
noncomputable def clsAbsent : List Str := "__qualname__" :: "__module__" :: "__static_attributes__" :: absentNames
structure ClsMore (body : List Stmt) : Prop where
  abs : ∀ x ∈ clsAbsent, (body.all fun st => nameOf st != x) = true
  len : body.length ≤ 900
section
variable {prog : Program} {w : World} {A : Around} {E : Value → Shared → Prop} {s : Shared} {c Pl F : Addr} {h0 : Heap} {mg0 mg : Str → Option Value} {L : Nat}
theorem mid_class {body : List Stmt} {scope : Scope} {statics : List Str} {pos : Pos} {x1 : Option Scope} {nm : Str} {tm : Tok} {Q : Flow → Shared → Prop} (T : Top0 h0 mg0 c Pl) (m : Mid h0 s.heap mg0 mg c Pl L) (hloc : prog.main.scope.names.lookup ("MPU" : Str) = some .local) (hmod : prog.main.scope.kind = .module)
    (ok : ClsOk scope body statics 0) (more : ClsMore body) (hp : L ≤ pos.line) (hd : A.depth < recursionLimit) (hnm : mg "__name__" = some (.str nm tm))
    (h : ∀ C h' tk, ClsMade h' s.heap.objs.size C body → Mid h0 h' mg0 (upd mg "MPU" (.ref C)) c Pl (pos.line + 1) → (∀ b o, b ≠ mainGlobals → b ≠ Pl → s.heap.get? b = some o → h'.get? b = some o) → s.heap.objs.size ≤ h'.objs.size → Q .next { s with heap := h', toks := tk }) :
    wpAny (model prog w) A (exec (.ClassDef "MPU" [] [] body [] [] scope x1 "MPU" statics pos) (mainEnv prog c F)) Q E s := by
  obtain ⟨ps, hc, hl⟩ := m.code
  obtain ⟨mb, hmb, hbc⟩ := T.blt
  rw [arm_exec_ClassDef]
  refine wpAny_bind (wpAny_pure ?_)
  refine wpAny_bind (wpAny_standAt ?_)
  refine wpAny_bind ?_
  unfold buildClassGuard
  refine wpAny_bind (wpAny_nsGet (a := builtinsNs) (hmb.at fun o => m.old _ o (by decide) T.bP) ?_)
  rw [hbc]
  refine wpAny_pure ?_
  refine wpAny_bind (wpAny_holding ?_)
  refine wpAny_bind (wpAny_pure ?_)
  refine wpAny_bind (wpAny_standAt ?_)
  refine wpAny_holding ?_
  have hq : qualnameIn (mainEnv prog c F) "MPU" "MPU" = "MPU" := by
    show (if (prog.main.scope.names.lookup ("MPU" : Str) == some NameKind.globalExplicit) = true then _ else _) = _
    rw [hloc]; rfl
  rw [hq]
  show wpAny _ _ (buildClass "MPU" "MPU" [] [] body scope statics pos.line (mainEnv prog c F) pos none) _ _ _
  have hst : s.heap.Ns cStatics (fun _ => none) := T.st.at fun o => m.old _ o (by decide) T.sP
  refine wpAny_buildClass ok m.g (m.b T) T.gP hc (codeAmong_below hp _ hl) ⟨_, hst, rfl⟩ T.sP hd (Nat.lt_of_lt_of_le T.sys m.sz) ⟨_, hnm⟩ ?_
  intro h' tk nm' nsA bT l l' ft items lo tn tq tf e1 hn hT hbT hN hft el hlo hnlo bm old cod hsz
  rw [hnm] at e1
  cases e1
  have ab : ∀ x ∈ clsAbsent, l'.lookup x = l.lookup x := fun x hx => bm.ne (more.abs x hx)
  have sa : ∀ x ∈ absentNames, x ≠ ("__static_attributes__" : Str) := by decide +kernel
  have sl3 : ∀ x ∈ absentNames, x ≠ ("__module__" : Str) ∧ x ≠ ("__qualname__" : Str) ∧ x ≠ ("__firstlineno__" : Str) := by decide +kernel
  have hl0 : ∀ x ∈ absentNames, l.lookup x = none := fun x hx => by
    obtain ⟨q1, q2, q3⟩ := sl3 x hx
    rw [el]
    simp only [List.lookup, beq_eq_false_iff_ne.mpr q1, beq_eq_false_iff_ne.mpr q2, beq_eq_false_iff_ne.mpr q3]
  show wpAny _ _ _ _ _ ⟨h', s.gens, s.drawn, tk, s.os⟩
  refine wpAny_typeCall (tq := tq) hT hN (Nat.ne_of_gt (Nat.lt_of_lt_of_le T.sys (Nat.le_trans m.sz hn))) ?_ ?_ ?_ ?_ ?_ (hst.at fun o => old _ o T.sP) rfl ?_
  · rw [putP_lookup_ne (by decide +kernel), ab _ (by decide +kernel), el]; rfl
  · rw [putP_lookup_ne (by decide +kernel), ab _ (by decide +kernel), el]
    have e1 : (("__qualname__" : Str) == ("__module__" : Str)) = false := by decide +kernel
    have e2 : (("__qualname__" : Str) == ("__qualname__" : Str)) = true := by decide +kernel
    simp only [List.lookup, e1, e2]
  · intro x hx
    rw [putP_lookup_ne (sa x hx), ab x (List.mem_cons_of_mem _ (List.mem_cons_of_mem _ (List.mem_cons_of_mem _ hx))), hl0 x hx]
  · intro x hx
    rcases mem_putP hx with e | hx
    · rw [e]; exact ⟨_, hft, .inr (.inr (.inl rfl))⟩
    · refine CV.of_body ok.stmts bm (fun y hy => ?_) x hx
      rw [el] at hy
      simp only [List.mem_cons, List.not_mem_nil, or_false] at hy
      rcases hy with rfl | rfl | rfl <;> trivial
  · have h1 := putP_length (name := "__static_attributes__") (v := .ref ft) l'
    have h2 := bm.length
    have h3 := more.len
    have h4 : l.length = 3 := by rw [el]; rfl
    omega
  intro h2 tk2 C nc
  obtain ⟨ns, Da, Wa, cd, sl, X, c1, c2, c3, c4, c5, c6, c7, c8, c9⟩ := nc.cls
  refine wpAny_bind (wpAny_pure ?_)
  refine wpAny_bind (wpAny_standAt ?_)
  have sz2 : s.heap.objs.size ≤ h2.objs.size := Nat.le_trans hsz (Nat.le_trans c8 (Nat.le_of_lt (Heap.lt_size X.obj)))
  obtain ⟨c', cod'⟩ := cod
  have m1 : Mid h0 h2 mg0 mg c Pl (pos.line + 1) := ⟨fun b o h1 h2 e => nc.keep _ _ (old b o h2 (m.old b o h1 h2 e)), m.g.at fun o e => nc.keep _ _ (old _ o T.gP e), ⟨_, cod'.keeps nc.keep, by
    rw [Array.toList_append]; exact LinesBelow.snoc (Nat.lt_succ_self _) (hl.mono (Nat.le_succ_of_le hp))⟩, Nat.le_trans m.sz sz2, m.bl⟩
  refine wpAny_bind (wpAny_bindName (mid_bind (s := ⟨h2, s.gens, s.drawn, tk2, s.os⟩) (h := h0) T m1 hloc hmod (by decide +kernel) fun h3 tk' m' k' z' => wpAny_pure ?_))
  have hg : ∀ b, s.heap.objs.size ≤ b → b ≠ mainGlobals := fun b hb => Nat.ne_of_gt (Nat.lt_of_lt_of_le (Nat.lt_of_lt_of_le T.lt m.sz) hb)
  refine h C h3 tk' ⟨ns, Da, Wa, ft, cd, sl, nm, tm, tq, tf, pos.line, l', ?_, c1, c2, c3, c4, c5, c6, c7, Nat.le_trans hsz c8, Nat.le_trans hsz c9, ?_⟩ m' (fun b o h1 h2 e => k' b o h1 (nc.keep _ _ (old b o h2 e))) (Nat.le_trans sz2 (Nat.le_of_eq z'.symm))
  · exact ⟨k' _ _ (hg _ (Nat.le_trans hsz c8)) X.obj, X.mro, X.at_, X.names.at fun o => k' _ o (hg _ (Nat.le_trans hsz c9))⟩
  · rw [← el]
    exact (bm.lower hlo).keeps fun b o hb e => k' b o (hg b hb) (nc.keep _ _ e)
end
end Mine
end
section
set_option maxRecDepth 100000
open PySem PySem.W PyProof.Rows PySem.Claim2Try PySem.Pin Builtin Builtin.ObjectAttr
namespace Mine
noncomputable def topName : Stmt → Str
  | .Assign [.Name n _] _ _ => n
  | .FunctionDef n _ _ _ _ _ _ _ _ _ => n
  | .ClassDef n _ _ _ _ _ _ _ _ _ _ => n
  | _ => Str.empty
noncomputable def topLine : Stmt → Nat
  | .FunctionDef _ _ _ _ _ _ _ _ _ p => p.line
  | .ClassDef _ _ _ _ _ _ _ _ _ _ p => p.line
  | _ => 0
noncomputable def topStmtB : Stmt → Bool
  | .Assign [.Name x _] (.Constant (.str _) _ _) _ => decide (x = "__name__")
  | .FunctionDef n params _ [] none [] scope none m _ => decide (n = m) && defOkB params scope && decide (n ≠ "__name__")
  | .ClassDef n [] [] _ [] [] _ _ m _ _ => decide (n = "MPU") && decide (m = "MPU")
  | _ => false
inductive TopOne (h : Heap) (lo : Nat) : Stmt → Value → Prop
  | asg {n : Str} {p : Pos} {s : Str} {k : Nat} {r q : Pos} {t : Tok} : TopOne h lo (.Assign [.Name n p] (.Constant (.str s) k r) q) (.str s t)
  | fn {n : Str} {params : Arguments} {body : List Stmt} {d1 : List Expr} {d2 : Option Expr} {d3 : List TypeParam} {scope : Scope} {d4 : Option Scope} {d5 : Str} {d6 : Pos} {v : Value} (x : FnAt h lo v n n params body scope) : TopOne h lo (.FunctionDef n params body d1 d2 d3 scope d4 d5 d6) v
  | cls {n : Str} {d1 : List Expr} {d2 : List Keyword} {body : List Stmt} {d3 : List Expr} {d4 : List TypeParam} {d5 : Scope} {d6 : Option Scope} {d7 : Str} {d8 : List Str} {d9 : Pos} {C : Addr} (x : ClsMade h lo C body) : TopOne h lo (.ClassDef n d1 d2 body d3 d4 d5 d6 d7 d8 d9) (.ref C)
noncomputable def TopMade (h : Heap) (lo : Nat) : (Str → Option Value) → List Stmt → (Str → Option Value) → Prop
  | mg, [], mg' => mg' = mg
  | mg, st :: r, mg' => ∃ v, TopOne h lo st v ∧ TopMade h lo (upd mg (topName st) v) r mg'
theorem ClsMade.keeps {h h' : Heap} {lo : Nat} {C : Addr} {body : List Stmt} (k : ∀ b o, lo ≤ b → h.get? b = some o → h'.get? b = some o) (x : ClsMade h lo C body) : ClsMade h' lo C body := by
  obtain ⟨ns, Da, Wa, ft, cd, sl, nm, tm, tq, tf, fl, l', X, c1, c2, c3, c4, c5, c6, c7, c8, c9, b⟩ := x.made
  exact ⟨ns, Da, Wa, ft, cd, sl, nm, tm, tq, tf, fl, l', ⟨k _ _ c8 X.obj, X.mro, X.at_, X.names.at fun o => k _ o c9⟩, c1, c2, c3, c4, c5, c6, c7, c8, c9, b.keeps k⟩
theorem ClsMade.lower {h : Heap} {lo lo' : Nat} {C : Addr} {body : List Stmt} (hl : lo' ≤ lo) (x : ClsMade h lo C body) : ClsMade h lo' C body := by
  obtain ⟨ns, Da, Wa, ft, cd, sl, nm, tm, tq, tf, fl, l', X, c1, c2, c3, c4, c5, c6, c7, c8, c9, b⟩ := x.made
  exact ⟨ns, Da, Wa, ft, cd, sl, nm, tm, tq, tf, fl, l', X, c1, c2, c3, c4, c5, c6, c7, Nat.le_trans hl c8, Nat.le_trans hl c9, b.lower hl⟩
theorem TopOne.keeps {h h' : Heap} {lo : Nat} {st : Stmt} {v : Value} (k : ∀ b o, lo ≤ b → h.get? b = some o → h'.get? b = some o) (x : TopOne h lo st v) : TopOne h' lo st v := by
  cases x with
  | asg => exact .asg
  | fn x => exact .fn (x.keeps k)
  | cls x => exact .cls (x.keeps k)
theorem TopMade.keeps {h h' : Heap} {lo : Nat} (k : ∀ b o, lo ≤ b → h.get? b = some o → h'.get? b = some o) : ∀ {b : List Stmt} {l l' : Str → Option Value}, TopMade h lo l b l' → TopMade h' lo l b l'
  | [], _, _, x => x
  | _ :: _, _, _, ⟨v, m, r⟩ => ⟨v, m.keeps k, TopMade.keeps k r⟩
theorem TopMade.snoc {h : Heap} {lo : Nat} {st : Stmt} {v : Value} (y : TopOne h lo st v) : ∀ {b : List Stmt} {l l' : Str → Option Value}, TopMade h lo l b l' → TopMade h lo l (b ++ [st]) (upd l' (topName st) v)
  | [], _, _, x => by cases x; exact ⟨v, y, rfl⟩
  | _ :: _, _, _, ⟨u, m, r⟩ => ⟨u, m, TopMade.snoc y r⟩
theorem TopMade.ne {h : Heap} {lo : Nat} {x : Str} : ∀ {b : List Stmt} {l l' : Str → Option Value}, TopMade h lo l b l' → (b.all fun st => topName st != x) = true → l' x = l x
  | [], _, _, e, _ => by cases e; rfl
  | st :: r, l, l', ⟨v, _, e⟩, hx => by
    rw [List.all_cons, Bool.and_eq_true] at hx
    rw [TopMade.ne e hx.2]
    have := hx.1
    simp at this
    exact if_neg fun q => this q.symm
noncomputable def topUp : Nat → List Stmt → Bool
  | _, [] => true
  | L, st :: r => match st with
    | .Assign .. => topUp L r
    | st => decide (L ≤ topLine st) && topUp (topLine st + 1) r
noncomputable def ClassesOk : List Stmt → Prop
  | [] => True
  | .ClassDef _ _ _ body _ _ scope _ _ statics _ :: r => (ClsOk scope body statics 0 ∧ ClsMore body) ∧ ClassesOk r
  | _ :: r => ClassesOk r
inductive TopV : Stmt → Prop
  | asg (p : Pos) (v : Str) (k : Nat) (q z : Pos) : TopV (.Assign [.Name "__name__" p] (.Constant (.str v) k q) z)
  | fn (n : Str) (params : Arguments) (body : List Stmt) (scope : Scope) (pos : Pos) (hok : defOkB params scope = true) (hne : n ≠ "__name__") : TopV (.FunctionDef n params body [] none [] scope none n pos)
  | cls (body : List Stmt) (scope : Scope) (x1 : Option Scope) (statics : List Str) (pos : Pos) : TopV (.ClassDef "MPU" [] [] body [] [] scope x1 "MPU" statics pos)
theorem topStmt_cases {st : Stmt} (h : topStmtB st = true) : TopV st := by
  cases st with
  | Assign ts e p =>
    cases ts with
    | nil => cases h
    | cons t ts =>
      cases t with
      | Name x q =>
        cases ts with
        | cons _ _ => cases h
        | nil =>
          cases e with
          | Constant c k r =>
            cases c with
            | str v =>
              obtain rfl := of_decide_eq_true h
              exact .asg _ _ _ _ _
            | _ => exact absurd h Bool.false_ne_true
          | _ => exact absurd h Bool.false_ne_true
      | _ => exact absurd h Bool.false_ne_true
  | FunctionDef n params b ds r tp scope ts m p =>
    cases ds with
    | cons _ _ => cases h
    | nil =>
      cases r with
      | some _ => cases h
      | none =>
        cases tp with
        | cons _ _ => cases h
        | nil =>
          cases ts with
          | some _ => cases h
          | none =>
            have h : (decide (n = m) && defOkB params scope && decide (n ≠ "__name__")) = true := h
            rw [Bool.and_eq_true, Bool.and_eq_true] at h
            obtain rfl := of_decide_eq_true h.1.1
            exact .fn _ _ _ _ _ h.1.2 (of_decide_eq_true h.2)
  | ClassDef n bs ks b ds tp scope x1 m statics p =>
    cases bs with
    | cons _ _ => cases h
    | nil =>
      cases ks with
      | cons _ _ => cases h
      | nil =>
        cases ds with
        | cons _ _ => cases h
        | nil =>
          cases tp with
          | cons _ _ => cases h
          | nil =>
            have h : (decide (n = "MPU") && decide (m = "MPU")) = true := h
            rw [Bool.and_eq_true] at h
            obtain rfl := of_decide_eq_true h.1
            obtain rfl := of_decide_eq_true h.2
            exact .cls _ _ _ _ _
  | _ => exact absurd h Bool.false_ne_true
theorem empty_append (n : Str) : Str.empty ++ n = n := by
  cases n
  show (⟨#[] ++ _⟩ : Str) = _
  rw [Array.empty_append]
section
variable {prog : Program} {w : World} {A : Around} {E : Value → Shared → Prop} {c Pl F : Addr} {h0 : Heap} {mg0 : Str → Option Value}
theorem execs_top (T : Top0 h0 mg0 c Pl) (hmod : prog.main.scope.kind = .module) (hd : A.depth < recursionLimit) : ∀ (b done : List Stmt) (s : Shared) (mg : Str → Option Value) (L : Nat) (Q : Flow → Shared → Prop), b.all topStmtB = true → (∀ st ∈ b, prog.main.scope.names.lookup (topName st) = some .local ∧ topName st ≠ "__builtins__") →
    topUp L b = true → ClassesOk b → (∃ nm tm, mg "__name__" = some (.str nm tm)) → Mid h0 s.heap mg0 mg c Pl L → TopMade s.heap h0.objs.size mg0 done mg →
    (∀ mg' h' tk L', Mid h0 h' mg0 mg' c Pl L' → TopMade h' h0.objs.size mg0 (done ++ b) mg' → Q .next { s with heap := h', toks := tk }) →
    wpAny (model prog w) A (execs b (mainEnv prog c F)) Q E s
  | [], done, s, mg, L, Q, _, _, _, _, _, m, tm, h => wpAny_execs_nil (h mg s.heap s.toks L m (by rw [List.append_nil]; exact tm))
  | st :: r, done, s, mg, L, Q, ok, loc, up, cls, ⟨nm, tm, hn⟩, m, made, h => by
    rw [List.all_cons, Bool.and_eq_true] at ok
    have loc' := loc st (List.mem_cons_self ..)
    have locr : ∀ st ∈ r, prog.main.scope.names.lookup (topName st) = some .local ∧ topName st ≠ "__builtins__" := fun x hx => loc x (List.mem_cons_of_mem _ hx)
    have happ : done ++ st :: r = (done ++ [st]) ++ r := by simp
    have hlo : ∀ b, h0.objs.size ≤ b → b ≠ mainGlobals ∧ b ≠ Pl := fun b hb => ⟨Nat.ne_of_gt (Nat.lt_of_lt_of_le T.lt hb), Nat.ne_of_gt (Nat.lt_of_lt_of_le T.Plt hb)⟩
    rw [happ] at h
    refine wpAny_execs_cons ?_
    obtain ⟨p, v, k, q, z⟩ | ⟨n, params, body, scope, pos, hok, hne⟩ | ⟨body, scope, x1, statics, pos⟩ := topStmt_cases ok.1
    · refine mid_assign T m loc'.1 hmod loc'.2 fun t h' tk m' k' z' => ?_
      exact execs_top T hmod hd r _ { s with heap := h', toks := tk } _ L Q ok.2 locr up cls ⟨v, t, if_pos rfl⟩ m' ((made.keeps fun b o hb e => k' b o (hlo b hb).1 e).snoc (show TopOne h' h0.objs.size (.Assign [.Name "__name__" p] (.Constant (.str v) k q) z) (.str v t) from .asg)) fun mg' h'' tk' L' m'' made' => h mg' h'' tk' L' m'' made'
    · simp only [topUp, topLine, Bool.and_eq_true] at up
      refine mid_def T m loc'.1 hmod loc'.2 hok (of_decide_eq_true up.1) fun v h' tk hf m' k' z' => ?_
      have hq : qualnameIn (mainEnv prog c F) n n = n := by
        show (if (prog.main.scope.names.lookup n == some NameKind.globalExplicit) = true then n else Str.empty ++ n) = n
        have : prog.main.scope.names.lookup n = some .local := loc'.1
        rw [this]
        exact empty_append n
      rw [hq] at hf
      refine execs_top T hmod hd r _ { s with heap := h', toks := tk } _ _ Q ok.2 locr up.2 cls ⟨nm, tm, (if_neg hne.symm).trans hn⟩ m' ((made.keeps fun b o hb e => k' b o (hlo b hb).1 (hlo b hb).2 e).snoc (show TopOne h' h0.objs.size (.FunctionDef n params body [] none [] scope none n pos) v from .fn (hf.lower m.sz))) fun mg' h'' tk' L' m'' made' => h mg' h'' tk' L' m'' made'
    · simp only [topUp, topLine, Bool.and_eq_true] at up
      refine mid_class T m loc'.1 hmod cls.1.1 cls.1.2 (of_decide_eq_true up.1) hd hn fun C h' tk hf m' k' z' => ?_
      refine execs_top T hmod hd r _ { s with heap := h', toks := tk } _ _ Q ok.2 locr up.2 cls.2 ⟨nm, tm, (if_neg (by decide +kernel)).trans hn⟩ m' ((made.keeps fun b o hb e => k' b o (hlo b hb).1 (hlo b hb).2 e).snoc (show TopOne h' h0.objs.size (.ClassDef "MPU" [] [] body [] [] scope x1 "MPU" statics pos) (.ref C) from .cls (hf.lower m.sz))) fun mg' h'' tk' L' m'' made' => h mg' h'' tk' L' m'' made'
end
end Mine
end
section
set_option maxRecDepth 100000
open PySem PySem.W PyProof.Rows PySem.Claim2Try PySem.Pin Builtin Builtin.ObjectAttr
namespace Mine
/-- what the top leaves: the boot's objects, and every name of the text bound -/
structure TopState (p : Program) (h : Heap) : Prop where
  st : ∃ hb mb mg c Pl mg' lo, BootLeft9 (opening p) hb mb mg c Pl ∧ hb.objs.size ≤ lo ∧ lo ≤ h.objs.size ∧ (∀ b o, b ≠ mainGlobals → hb.get? b = some o → h.get? b = some o) ∧ h.Ns mainGlobals mg' ∧ TopMade h lo mg (behindTheImports p) mg'
structure TopOk (p : Program) : Prop where
  kind : p.main.scope.kind = .module
  stmts : (behindTheImports p).all topStmtB = true
  loc : ∀ st ∈ behindTheImports p, p.main.scope.names.lookup (topName st) = some .local ∧ topName st ≠ "__builtins__"
  up : topUp 0 (behindTheImports p) = true
  cls : ClassesOk (behindTheImports p)
  laid : ∀ x ∈ laidNames, ((behindTheImports p).all fun st => topName st != x) = true
  ann : hasAnns (behindTheImports p) = false
  doc : docOf (behindTheImports p) = none
theorem mem_of_lookup {x : Str} {k : NameKind} : ∀ {l : List (Str × NameKind)}, l.lookup x = some k → (x, k) ∈ l
  | [], h => by cases h
  | (y, z) :: r, h => by
    rw [List.lookup_cons] at h
    split at h
    · rename_i e; cases h; rw [beq_iff_eq.mp e]; exact List.mem_cons_self ..
    · exact List.mem_cons_of_mem _ (mem_of_lookup h)
theorem bound_of {p : Program} {x : Str} (h : p.main.scope.names.lookup x = some .local) : x ∈ p.boundNames := by
  unfold Program.boundNames
  exact List.mem_map.mpr ⟨(x, .local), List.mem_filter.mpr ⟨mem_of_lookup h, rfl⟩, rfl⟩
theorem build_bound : bootBuiltins "__build_class__" = some (.builtin "__build_class__") := by decide +kernel
theorem TopMade.names {h : Heap} {lo : Nat} {x : Str} {v : Value} : ∀ {b : List Stmt} {l l' : Str → Option Value}, TopMade h lo l b l' → l' x = some v → l x = some v ∨ ∃ st ∈ b, topName st = x
  | [], _, _, e, hx => by cases e; exact .inl hx
  | st :: r, l, l', ⟨u, _, e⟩, hx => by
    rcases TopMade.names e hx with q | ⟨y, hy, q⟩
    · by_cases hxx : x = topName st
      · exact .inr ⟨st, List.mem_cons_self .., hxx.symm⟩
      · exact .inl (by rw [← q]; exact (if_neg hxx).symm)
    · exact .inr ⟨y, List.mem_cons_of_mem _ hy, q⟩
theorem top_of {p : Program} (ok : TopOk p) (w : World) (h : Heap) (tk : Nat) (mb mg : Str → Option Value) (c Pl : Addr) (os : OsState) (B : BootLeft9 (opening p) h mb mg c Pl) :
    wpAny (model p w) callerA (topStub p).cur (fun fin s' => ∃ f, fin = .done f ∧ ((∃ mg', AfterTop p h s'.heap mg mg') ∧ TopState p s'.heap ∧ s'.os = os) ∧ s'.gens = #[]) (fun _ _ => False) ⟨h, #[], {}, tk, os⟩ := by
  unfold topStub
  refine wpAny_bind (wpAny_moduleCode fun c' P' h1 tk1 k1 hc hP hcode => ?_)
  dsimp only at k1 hc hP
  unfold newBodyFrame
  have g1 : h1.Ns mainGlobals mg := B.g.keeps k1
  refine wpAny_bind (wpAny_bind (wpAny_nsGet g1 (wpAny_alloc ?_)))
  dsimp only
  generalize hH2 : h1.push _ = h2
  generalize h1.objs.size = F
  have k2 : ∀ b o, h1.get? b = some o → h2.get? b = some o := fun b o e => hH2 ▸ Heap.get?_push_of_some _ e
  have k02 : ∀ b o, h.get? b = some o → h2.get? b = some o := fun b o e => k2 b o (k1 b o e)
  have hcode2 : h2.IsCode c' P' #[] := hcode.keeps k2
  have ltb : ∀ {b o}, h.get? b = some o → b ≠ P' := fun e => Nat.ne_of_lt (Nat.lt_of_lt_of_le (Heap.lt_size e) hP)
  have T : Top0 h2 mg c' P' := by
    refine ⟨Nat.ne_of_lt (Nat.lt_of_lt_of_le B.g.lt hP), Nat.ne_of_lt (Nat.lt_of_lt_of_le B.g.lt hc), Nat.ne_of_lt (Nat.lt_of_lt_of_le B.statics.lt hP), ?_, B.statics.keeps k02, ⟨mb, B.b.keeps k02, ?_⟩, Nat.ne_of_lt (Nat.lt_of_lt_of_le B.b.lt hP), ?_, (B.g.keeps k02).lt, hcode2.lt.2⟩
    · obtain ⟨bm, o, q1, q2, q3, q4, q5, q6⟩ := B.bmod
      exact ⟨bm, o, q1, q2, q3, ltb q5, k02 _ _ q5, q6⟩
    · rw [B.builtins _ (by decide +kernel)]; exact build_bound
    · obtain ⟨mm, hm, _⟩ := B.noPylong
      exact (hm.keeps k02).lt
  have m0 : Mid h2 h2 mg mg c' P' 0 := ⟨fun _ _ _ _ e => e, B.g.keeps k02, ⟨#[], hcode2, .nil⟩, Nat.le_refl _, rfl⟩
  refine wpAny_bind (wpAny_run (codeAny_body (env := mainEnv p c' F) ok.ann ok.doc ?_))
  refine execs_top T ok.kind (by show 1 + claimMargin + 1 < recursionLimit; decide +kernel) (behindTheImports p) [] _ mg 0 _ ok.stmts ok.loc ok.up ok.cls (by obtain ⟨t, e⟩ := B.name; exact ⟨_, t, e⟩) m0 rfl fun mg' h' tk' L' m' made => ?_
  refine wpAny_pure ⟨_, rfl, ⟨⟨mg', ?_⟩, ⟨h, mb, mg, c, Pl, mg', h2.objs.size, B, ?_, m'.sz, ?_, m'.g, made⟩, rfl⟩, rfl⟩
  · refine ⟨fun b o e h1 h2 => m'.old b o h1 (ltb e) (k02 b o e), m'.g, ⟨fun _ => none, T.st.at fun o => m'.old _ o (by decide) T.sP, fun _ _ q => nomatch q⟩, fun x v hx => ?_, fun x hx => made.ne (ok.laid x hx), m'.bl⟩
    rcases made.names hx with q | ⟨st, hst, rfl⟩
    · refine .inl (Classical.byContradiction fun hn => ?_)
      rw [B.others x hn] at q; cases q
    · exact .inr (bound_of (ok.loc st hst).1)
  · exact Nat.le_trans hc (Nat.le_of_lt hcode2.lt.1)
  · exact fun b o hb e => m'.old b o hb (ltb e) (k02 b o e)
end Mine
end
section
set_option maxRecDepth 100000
open PySem PySem.W PyProof.Rows PySem.Claim2Try PySem.Pin Builtin Builtin.ObjectAttr
namespace Mine
/-- a number for a name: equal names have equal numbers -/
noncomputable def codeS (s : Str) : Nat := s.cps.toList.foldl (fun a c => a * 2097152 + c + 1) 0
noncomputable def isClass : ScopeKind → Bool
  | .class => true
  | _ => false
noncomputable def isModule : ScopeKind → Bool
  | .module => true
  | _ => false
noncomputable def isLocal : NameKind → Bool
  | .local => true
  | _ => false
noncomputable def memB (x : Str) : List Str → Bool
  | [] => false
  | y :: r => match Nat.beq (codeS x) (codeS y) with
    | true => decide (x = y) || memB x r
    | false => memB x r
theorem memB_mem {x : Str} : ∀ {l : List Str}, memB x l = true → x ∈ l
  | [], h => by cases h
  | y :: r, h => by
    unfold memB at h
    split at h
    · rw [Bool.or_eq_true, decide_eq_true_eq] at h
      rcases h with rfl | h
      · exact List.mem_cons_self ..
      · exact List.mem_cons_of_mem _ (memB_mem h)
    · exact List.mem_cons_of_mem _ (memB_mem h)
noncomputable def readsB (known : List Str) : List Stmt → Bool
  | [] => true
  | st :: r => (namesRead st).all (fun x => memB x known) && readsB (nameOf st :: known) r
theorem reads_of : ∀ {b : List Stmt} {known : List Str}, readsB known b = true → readsOk known b
  | [], _, _ => trivial
  | st :: r, known, h => by
    unfold readsB at h
    rw [Bool.and_eq_true, List.all_eq_true] at h
    exact ⟨fun x hx => memB_mem (h.1 x hx), reads_of h.2⟩
noncomputable def namesB : List (Str × NameKind) → List Stmt → Bool
  | [], [] => true
  | (x, k) :: l, st :: r => isLocal k && decide (x = nameOf st) && namesB l r
  | _, _ => false
theorem names_of : ∀ {l : List (Str × NameKind)} {b : List Stmt}, namesB l b = true → (∀ st ∈ b, l.lookup (nameOf st) = some .local) ∧ (∀ x ∈ l, x.2 = .local) ∧ ∀ y, (b.all fun st => nameOf st != y) = true → l.lookup y = none
  | [], [], _ => by refine ⟨?_, ?_, ?_⟩ <;> first | (intro _ h; cases h; done) | (intro _ _; rfl)
  | [], _ :: _, h => by cases h
  | _ :: _, [], h => by cases h
  | (x, k) :: l, st :: r, h => by
    unfold namesB at h
    rw [Bool.and_eq_true, Bool.and_eq_true, decide_eq_true_eq] at h
    obtain ⟨⟨hk, rfl⟩, hr⟩ := h
    have hk' : k = .local := by cases k <;> first | rfl | cases hk
    subst hk'
    obtain ⟨i1, i2, i3⟩ := names_of hr
    refine ⟨fun s hs => ?_, fun y hy => ?_, fun y hy => ?_⟩
    · rw [List.lookup_cons]
      split
      · rfl
      · rename_i e
        rcases List.mem_cons.mp hs with rfl | hs
        · simp at e
        · exact i1 s hs
    · rcases List.mem_cons.mp hy with rfl | hy
      · rfl
      · exact i2 y hy
    · rw [List.all_cons, Bool.and_eq_true] at hy
      rw [List.lookup_cons]
      have : (y == nameOf st) = false := by
        rw [beq_eq_false_iff_ne]; intro e; have := hy.1; simp at this; exact this e.symm
      rw [this]
      exact i3 y hy.2
noncomputable def notIn (b : List Stmt) (xs : List Str) : Bool := xs.all fun x => b.all fun st => nameOf st != x
noncomputable def clsOkB (scope : Scope) (body : List Stmt) : Bool :=
  isClass scope.kind && namesB scope.names body && body.all clsStmtB && readsB [] body && linesUp 0 body && notIn body compilersOwnNames && notIn body ["__class__", "__classdict__"] && !hasAnns body && (docOf body).isNone && notIn body clsAbsent && Nat.ble body.length 900
theorem notIn_of {b : List Stmt} {xs : List Str} (h : notIn b xs = true) : ∀ x ∈ xs, (b.all fun st => nameOf st != x) = true := List.all_eq_true.mp h
theorem clsOk_of {scope : Scope} {body : List Stmt} {statics : List Str} (h : clsOkB scope body = true) : ClsOk scope body statics 0 ∧ ClsMore body := by
  simp only [clsOkB, Bool.and_eq_true] at h
  obtain ⟨⟨⟨⟨⟨⟨⟨⟨⟨⟨h1, h2⟩, h3⟩, h4⟩, h5⟩, h6⟩, h7⟩, h8⟩, h9⟩, h10⟩, h11⟩ := h
  obtain ⟨n1, n2, n3⟩ := names_of h2
  refine ⟨⟨?_, n1, h3, reads_of h4, h5, fun x hx => by rw [n2 x hx]; decide, fun x hx => n3 x (notIn_of h6 x (by simpa using hx)), ⟨n3 _ (notIn_of h7 _ (by simp)), n3 _ (notIn_of h7 _ (by simp))⟩, by simpa using h8, by simpa using h9⟩, notIn_of h10, Nat.le_of_ble_eq_true h11⟩
  cases e : scope.kind <;> rw [e] at h1 <;> first | rfl | cases h1
noncomputable def classesB : List Stmt → Bool
  | [] => true
  | .ClassDef _ _ _ body _ _ scope _ _ _ _ :: r => clsOkB scope body && classesB r
  | _ :: r => classesB r
theorem classes_of : ∀ {l : List Stmt}, classesB l = true → ClassesOk l
  | [], _ => trivial
  | st :: r, h => by
    cases st <;> first | exact classes_of (l := r) h | skip
    rename_i body _ _ scope _ _ _ _
    unfold classesB at h
    rw [Bool.and_eq_true] at h
    exact ⟨clsOk_of h.1, classes_of h.2⟩
noncomputable def topOkB (p : Program) : Bool :=
  let b := behindTheImports p
  isModule p.main.scope.kind && b.all topStmtB && b.all (fun st => (p.main.scope.names.lookup (topName st)).elim false isLocal && decide (topName st ≠ "__builtins__")) && topUp 0 b && classesB b && (laidNames.all fun x => b.all fun st => topName st != x) && !hasAnns b && (docOf b).isNone
theorem topOk_of {p : Program} (h : topOkB p = true) : TopOk p := by
  simp only [topOkB, Bool.and_eq_true] at h
  obtain ⟨⟨⟨⟨⟨⟨⟨h1, h2⟩, h3⟩, h4⟩, h5⟩, h6⟩, h7⟩, h8⟩ := h
  refine ⟨?_, h2, fun st hst => ?_, h4, classes_of h5, List.all_eq_true.mp h6, by simpa using h7, by simpa using h8⟩
  · cases e : p.main.scope.kind <;> rw [e] at h1 <;> first | rfl | cases h1
  · have := List.all_eq_true.mp h3 st hst
    rw [Bool.and_eq_true, decide_eq_true_eq] at this
    refine ⟨?_, this.2⟩
    cases e : p.main.scope.names.lookup (topName st) with
    | none => rw [e] at this; cases this.1
    | some k => rw [e] at this; cases k <;> first | rfl | cases this.1
end Mine
end
section
set_option maxRecDepth 100000
open PySem PySem.W PyProof.Rows PySem.Claim2Try PySem.Pin Builtin Builtin.ObjectAttr
namespace Mine
/-- the last def of a name in a list of statements -/
noncomputable def lastDef (n : Str) : List Stmt → Option (Arguments × List Stmt × Scope)
  | [] => none
  | st :: r => match lastDef n r with
    | some x => some x
    | none => match st with
      | .FunctionDef m pa bo _ _ _ sc _ _ _ => if m = n ∧ (r.all fun st => topName st != n) = true then some (pa, bo, sc) else none
      | _ => none
theorem TopMade.fn {h : Heap} {lo : Nat} {n : Str} {pa : Arguments} {bo : List Stmt} {sc : Scope} : ∀ {b : List Stmt} {l l' : Str → Option Value}, TopMade h lo l b l' → lastDef n b = some (pa, bo, sc) → ∃ v, l' n = some v ∧ FnAt h lo v n n pa bo sc
  | [], _, _, _, e => by cases e
  | st :: r, l, l', ⟨u, o, x⟩, e => by
    have ih := fun y => TopMade.fn (n := n) (pa := pa) (bo := bo) (sc := sc) x y
    unfold lastDef at e
    cases hl : lastDef n r with
    | some y => rw [hl] at e; exact ih (hl.trans e)
    | none =>
      rw [hl] at e
      cases o with
      | @fn m pa' bo' d1 d2 d3 sc' d4 d5 d6 _ o =>
        have e : (if m = n ∧ (r.all fun st => topName st != n) = true then some (pa', bo', sc') else none) = some (pa, bo, sc) := e
        by_cases hc : m = n ∧ (r.all fun st => topName st != n) = true
        · rw [if_pos hc] at e
          cases e
          obtain ⟨rfl, hne⟩ := hc
          exact ⟨u, by rw [x.ne hne]; exact if_pos rfl, o⟩
        · rw [if_neg hc] at e; cases e
      | asg => cases e
      | cls _ => cases e
theorem pin_of {p : Program} {h : Heap} {n : Str} {pa : Arguments} {bo : List Stmt} {sc : Scope} (T : TopState p h) (e : lastDef n (behindTheImports p) = some (pa, bo, sc)) (e2 : p.theDef n = some (pa, bo, sc)) (hd : pa.defaults = []) (hk : pa.kwonlyargs = []) (hk2 : pa.kw_defaults = []) : isTheDefsW p h n := by
  obtain ⟨hb, mb, mg, c, Pl, mg', lo, B, h1, h2, h3, g, made⟩ := T.st
  obtain ⟨v, hv, a, dV, pm, c', doc, P, dv, rfl, q1, q2, q3, q4, q5, q6, q7, q8, q9⟩ := made.fn e
  refine ⟨a, _, _, pa, bo, sc, (globalOf_of_ns g n).trans hv, q4, rfl, e2, rfl, rfl, rfl, rfl, rfl, rfl, rfl, rfl, .inl ⟨hd, ?_⟩, [], ?_, .inl ⟨rfl, rfl⟩⟩
  · rw [hd] at q9
    have : dv = [] := by cases dv with
      | nil => rfl
      | cons _ _ => cases q9
    rcases q8 with ⟨_, r⟩ | ⟨r, _⟩
    · exact r
    · exact (r this).elim
  · rw [hk, hk2]; rfl
theorem bare_of {p : Program} (h : TablesWhole.wModule TablesWhole.holds p.main = true) (h1 : p.modules = []) (h2 : p.parses = []) (h3 : p.absent = []) (h4 : p.harvested = [])
    (h5 : p.given = { argv := [], stdin := [], environ := some Program.claimEnviron, cwd := none, tree := none, leftOut := [], nothingAt := [] }) : p.bare := by
  refine ⟨h1, h2, h3, h4, h5, ?_⟩
  show TablesWhole.wProgram TablesWhole.holds p = true
  unfold TablesWhole.wProgram
  rw [h, h1, h2, h4]
  rfl
theorem fence_of {p : Program} (h1 : importedModules p.main.body = []) (h2 : p.main.body.any namesNumpy = false) (s : Shared) : fenceModules? p s = some s := by
  unfold fenceModules?
  rw [h1, h2]
  rfl
theorem row_of {l : OpenLaw} (said : l.row.wellSaid = true) (hbare : l.prog.bare) (ho : opensWell l.prog = true) (hpr : l.row.toRowW.promised) (hw : l.writes = false)
    (fence : ∀ s, fenceModules? l.prog s = some s) (hbody : (opening l.prog).main.body = []) (hmore : (opening l.prog).main.more = [])
    (tok : TopOk l.prog) (pin : ∀ h, TopState l.prog h → isTheDefsW l.prog h l.name)
    (call : ∀ w s s₁ args vs as, TopState l.prog s.heap → l.row.toRowW.claim.pre args = true → WData.layableAll args = true → Laid [] w s s₁ args vs as →
      ∃ f mg, s₁.heap.Ns mainGlobals mg ∧ mg l.name = some f ∧ wpAny (model l.prog w) callerA (PySem.call f vs) (fun v s' => GoodWG l.row.toRowW.claim (classAt s.heap) (ExcName.means s.heap) args s₁ (.ok (.ret v)) s') (fun _ _ => False) s₁) : l.row.Holds :=
  holds_of said hbare ho hpr hw fence hbody hmore (fun _ s => TopState l.prog s.heap) (fun w h tk mb mg c Pl os B => top_of tok w h tk mb mg c Pl os B) (fun _ s => pin s.heap) call
end Mine
end
section
set_option Elab.async false
set_option maxRecDepth 100000
open PySem PySem.W PyProof.Rows PySem.Claim2Try PySem.Pin Builtin Builtin.ObjectAttr
namespace Mine
open PySem.Challenge
theorem whole12 : TablesWhole.wModule TablesWhole.holds pw_lq0009_12.main = true :=
  (congrFun (congrFun (congrFun Fast.te6116379765354995101 Bool) TablesWhole.holds) pw_lq0009_12.main).trans (by kernel_rfl)
theorem said12 : OpenLaw.wellSaid rw_lq0009_12 = true :=
  (congrFun Fast.te9446332074065402090 rw_lq0009_12).trans (by kernel_rfl)
theorem bare12 : pw_lq0009_12.bare := bare_of whole12 rfl rfl rfl rfl rfl
theorem ok12 : topOkB pw_lq0009_12 = true := by decide +kernel
theorem opens12 : opensWell pw_lq0009_12 = true := by decide +kernel
theorem imps12 : importedModules pw_lq0009_12.main.body = [] := by decide +kernel
theorem nump12 : pw_lq0009_12.main.body.any namesNumpy = false := by decide +kernel
end Mine
end
section
set_option Elab.async false
set_option maxRecDepth 100000
open PySem PySem.W PyProof.Rows PySem.Claim2Try PySem.Pin Builtin Builtin.ObjectAttr
namespace Mine
open PySem.Challenge
theorem def12 : lastDef ("law" : Str) (behindTheImports pw_lq0009_12) = pw_lq0009_12.theDef ("law" : Str) := by kernel_rfl
theorem body12 : (opening pw_lq0009_12).main.body = [] := by kernel_rfl
theorem more12 : (opening pw_lq0009_12).main.more = [] := by kernel_rfl
theorem pin12 (h : Heap) (T : TopState pw_lq0009_12 h) : isTheDefsW pw_lq0009_12 h ("law" : Str) := by
  have e : ((pw_lq0009_12.theDef ("law" : Str)).elim false fun x => x.1.defaults.isEmpty && x.1.kwonlyargs.isEmpty && x.1.kw_defaults.isEmpty) = true := by decide +kernel
  have e0 := def12
  generalize hx : pw_lq0009_12.theDef ("law" : Str) = x at e e0
  cases x with
  | none => cases e
  | some y =>
    obtain ⟨pa, bo, sc⟩ := y
    simp only [Option.elim, Bool.and_eq_true, List.isEmpty_iff] at e
    exact pin_of T e0 hx e.1.1 e.1.2 e.2
end Mine
end
section
set_option Elab.async false
set_option maxRecDepth 100000
open PySem PySem.W PyProof.Rows PySem.Claim2Try PySem.Pin Builtin Builtin.ObjectAttr
namespace Mine
open PySem.Challenge
theorem prom12 : rw_lq0009_12.row.toRowW.promised := ⟨[.list []], by decide +kernel, by decide +kernel⟩
theorem head12 (said : rw_lq0009_12.row.wellSaid = true)
    (call : ∀ w s s₁ args vs as, TopState rw_lq0009_12.prog s.heap → rw_lq0009_12.row.toRowW.claim.pre args = true → WData.layableAll args = true → Laid [] w s s₁ args vs as →
      ∃ f mg, s₁.heap.Ns mainGlobals mg ∧ mg rw_lq0009_12.name = some f ∧ wpAny (model rw_lq0009_12.prog w) callerA (PySem.call f vs) (fun v s' => GoodWG rw_lq0009_12.row.toRowW.claim (classAt s.heap) (ExcName.means s.heap) args s₁ (.ok (.ret v)) s') (fun _ _ => False) s₁) : rw_lq0009_12.row.Holds :=
  row_of said bare12 opens12 prom12 rfl (fence_of imps12 nump12) body12 more12 (topOk_of ok12) pin12 call
end Mine
end
section
set_option maxRecDepth 100000
open PySem PySem.W PyProof.Rows PySem.Claim2Try PySem.Pin
namespace Mine

/-- names are compared by their signs -/
noncomputable def eqS (x y : Str) : Bool := x.cps.toList == y.cps.toList
theorem eqS_iff {x y : Str} : eqS x y = true ↔ x = y := by
  unfold eqS
  constructor
  · intro h
    have h := eq_of_beq h
    obtain ⟨⟨a⟩⟩ := x
    obtain ⟨⟨b⟩⟩ := y
    simp at h
    rw [h]
  · rintro rfl; exact beq_self_eq_true _
theorem eqS_ne {x y : Str} (h : eqS x y = false) : x ≠ y := fun e => by
  rw [eqS_iff.mpr e] at h; cases h
theorem eqS_self (x : Str) : eqS x x = true := eqS_iff.mpr rfl
noncomputable def lookS {α : Type} (x : Str) : List (Str × α) → Option α
  | [] => none
  | (y, v) :: r => cond (eqS x y) (some v) (lookS x r)
noncomputable def putS {α : Type} (x : Str) (v : α) : List (Str × α) → List (Str × α)
  | [] => [(x, v)]
  | (y, u) :: r => cond (eqS x y) ((y, v) :: r) ((y, u) :: putS x v r)
theorem lookS_putS {α : Type} (x y : Str) (v : α) : ∀ l : List (Str × α), lookS y (putS x v l) = if y = x then some v else lookS y l
  | [] => by
    show cond (eqS y x) (some v) none = _
    cases h : eqS y x with
    | true => rw [if_pos (eqS_iff.mp h)]; rfl
    | false => rw [if_neg (eqS_ne h)]; rfl
  | (z, u) :: r => by
    unfold putS
    cases h : eqS x z with
    | true =>
      have e := eqS_iff.mp h
      subst e
      show cond (eqS y x) (some v) (lookS y r) = _
      cases h2 : eqS y x with
      | true => rw [if_pos (eqS_iff.mp h2)]; rfl
      | false => rw [if_neg (eqS_ne h2)]; show lookS y r = cond (eqS y x) (some u) (lookS y r); rw [h2]; rfl
    | false =>
      show cond (eqS y z) (some u) (lookS y (putS x v r)) = _
      rw [lookS_putS x y v r]
      cases h2 : eqS y z with
      | true =>
        have e := eqS_iff.mp h2
        subst e
        have hne : y ≠ x := fun q => eqS_ne h q.symm
        rw [if_neg hne, if_neg hne]
        show some u = cond (eqS y y) (some u) (lookS y r)
        rw [eqS_self]; rfl
      | false =>
        show (if y = x then some v else lookS y r) = if y = x then some v else cond (eqS y z) (some u) (lookS y r)
        rw [h2]; rfl

/-- values, told without tokens and addresses -/
inductive AV where
  | none
  | bool (b : Bool)
  | int (i : Int)
  | str (s : Str)
  | loc (n : Nat)
  | tup (vs : List AV)
  | bm (x : Str) (self : Nat)
  | fn (x : Str)
  | mth (x : Str)
  | cls
  | clst (x : Str)
  | bi (id : String)
  | ty (id : String)
  | given
  | rng (a b : Int)
/-- objects that the call has made -/
inductive AObj where
  | nums (n : Nat) (f : Nat → Int)
  | list (vs : List AV)
  | inst (at_ : List (Str × AV))
  | dict (es : List (AV × AV))
noncomputable abbrev Hp := List AObj
noncomputable abbrev Loc := List (Str × AV)
inductive AF where
  | next | brk | cont
  | ret (v : AV)
noncomputable abbrev Rho := List (Addr × Addr)

/-- what stands when the call starts -/
structure Bs where
  hb : Heap
  os : OsState
  mg : Str → Option Value
  mb : Str → Option Value
  C : Addr
  N : Addr
  l : List (Str × Value)
  scr : Addr

noncomputable def NotOwn (ρ : Rho) (a : Addr) : Prop := ∀ p ∈ ρ, a ≠ p.1 ∧ a ≠ p.2
noncomputable abbrev tupObj (its : Array Value) (e : Nat) : Obj := { cls := .type "tuple", data := .seq its e }
noncomputable abbrev rngObj (a b : Int) (t u v : Tok) : Obj := { cls := .type "range", dict := none, data := .fields #[.int a t, .int b u, .int 1 v], slots := #[] }
mutual
inductive RepV (B : Bs) (h : Heap) (ρ : Rho) : AV → Value → Prop
  | none : RepV B h ρ .none .none
  | bool (b : Bool) : RepV B h ρ (.bool b) (.bool b)
  | int (i : Int) (t : Tok) : RepV B h ρ (.int i) (.int i t)
  | str (s : Str) (t : Tok) : RepV B h ρ (.str s) (.str s t)
  | loc (n : Nat) (p : Addr × Addr) : ρ[n]? = some p → RepV B h ρ (.loc n) (.ref p.1)
  | tup (vs : List AV) (a : Addr) (its : Array Value) (e : Nat) : NotOwn ρ a → h.get? a = some (tupObj its e) → RepVs B h ρ vs its.toList → RepV B h ρ (.tup vs) (.ref a)
  | bm (x : Str) (n : Nat) (a f : Addr) (p : Addr × Addr) : NotOwn ρ a → h.get? a = some (methodObj (.ref f) (.ref p.1)) → B.l.lookup x = some (.ref f) → ρ[n]? = some p → RepV B h ρ (.bm x n) (.ref a)
  | fn (x : Str) (v : Value) : B.mg x = some v → RepV B h ρ (.fn x) v
  | mth (x : Str) (v : Value) : B.l.lookup x = some v → RepV B h ρ (.mth x) v
  | cls : RepV B h ρ .cls (.ref B.C)
  | clst (x : Str) (v : Value) : B.l.lookup x = some v → RepV B h ρ (.clst x) v
  | bi (id : String) : RepV B h ρ (.bi id) (.builtin id)
  | ty (id : String) : RepV B h ρ (.ty id) (.type id)
  | given : RepV B h ρ .given (.ref B.scr)
  | rng (a b : Int) (r : Addr) (t u v : Tok) : NotOwn ρ r → h.get? r = some (rngObj a b t u v) → RepV B h ρ (.rng a b) (.ref r)
inductive RepVs (B : Bs) (h : Heap) (ρ : Rho) : List AV → List Value → Prop
  | nil : RepVs B h ρ [] []
  | cons {v : AV} {w : Value} {vs : List AV} {ws : List Value} : RepV B h ρ v w → RepVs B h ρ vs ws → RepVs B h ρ (v :: vs) (w :: ws)
end

/-- what a run may change: the objects of ρ, and X -/
structure Ex (X : List Addr) (h : Heap) (ρ : Rho) (h' : Heap) (ρ' : Rho) : Prop where
  pre : ∃ r, ρ' = ρ ++ r ∧ ∀ p ∈ r, h.get? p.1 = none ∧ h.get? p.2 = none
  keep : ∀ b o, NotOwn ρ b → b ∉ X → h.get? b = some o → h'.get? b = some o
/-- and nothing is gone -/
structure Ext (X : List Addr) (h : Heap) (ρ : Rho) (h' : Heap) (ρ' : Rho) : Prop extends Ex X h ρ h' ρ' where
  there : ∀ b o, h.get? b = some o → ∃ o', h'.get? b = some o'
/-- an object that no value tells of -/
noncomputable def Hid (h : Heap) (q : Addr) : Prop := ∀ o, h.get? q = some o → (∀ its e, o ≠ tupObj its e) ∧ (∀ f x, o ≠ methodObj f x) ∧ ∀ a b t u v, o ≠ rngObj a b t u v
theorem Ex.at {X : List Addr} {h h' : Heap} {ρ ρ' : Rho} (e : Ex X h ρ h' ρ') {n : Nat} {p : Addr × Addr} (hp : ρ[n]? = some p) : ρ'[n]? = some p := by
  obtain ⟨r, rfl, _⟩ := e.pre
  rw [List.getElem?_append_left]
  · exact hp
  · exact (List.getElem?_eq_some_iff.mp hp).1
theorem Ex.notOwn {X : List Addr} {h h' : Heap} {ρ ρ' : Rho} (e : Ex X h ρ h' ρ') {a : Addr} {o : Obj} (hn : NotOwn ρ a) (ha : h.get? a = some o) : NotOwn ρ' a := by
  obtain ⟨r, rfl, hr⟩ := e.pre
  intro p hp
  rcases List.mem_append.mp hp with hp | hp
  · exact hn p hp
  · obtain ⟨h1, h2⟩ := hr p hp
    exact ⟨fun q => (by rw [q, h1] at ha; cases ha), fun q => (by rw [q, h2] at ha; cases ha)⟩
theorem Ext.refl (X : List Addr) (h : Heap) (ρ : Rho) : Ext X h ρ h ρ := ⟨⟨⟨[], by simp, fun _ hp => nomatch hp⟩, fun _ _ _ _ e => e⟩, fun _ o e => ⟨o, e⟩⟩
theorem Ext.fresh {X : List Addr} {h h' : Heap} {ρ ρ' : Rho} (a : Ext X h ρ h' ρ') {b : Addr} (e : h'.get? b = none) : h.get? b = none := by
  cases hb : h.get? b with
  | none => rfl
  | some o => obtain ⟨o', h'⟩ := a.there b o hb; rw [e] at h'; cases h'
theorem Ext.trans {X : List Addr} {h h' h'' : Heap} {ρ ρ' ρ'' : Rho} (a : Ext X h ρ h' ρ') (b : Ext X h' ρ' h'' ρ'') : Ext X h ρ h'' ρ'' := by
  obtain ⟨r, e1, h1⟩ := a.pre
  obtain ⟨r2, e2, h2⟩ := b.pre
  refine ⟨⟨⟨r ++ r2, by rw [e2, e1, List.append_assoc], fun p hp => ?_⟩, fun c o hn hx e => ?_⟩, fun c o e => let ⟨o1, e1⟩ := a.there c o e; b.there c o1 e1⟩
  · rcases List.mem_append.mp hp with hp | hp
    · exact h1 p hp
    · exact ⟨a.fresh (h2 p hp).1, a.fresh (h2 p hp).2⟩
  · exact b.keep c o (a.notOwn hn e) hx (a.keep c o hn hx e)
theorem Ext.mono {X Y : List Addr} {h h' : Heap} {ρ ρ' : Rho} (a : Ext X h ρ h' ρ') (s : ∀ x ∈ X, x ∈ Y) : Ext Y h ρ h' ρ' :=
  ⟨⟨a.pre, fun b o hn hx e => a.keep b o hn (fun q => hx (s b q)) e⟩, a.there⟩
/-- what was fresh at the start is no loss -/
theorem Ext.drop {X Y : List Addr} {h h' : Heap} {ρ ρ' : Rho} (a : Ext X h ρ h' ρ') (s : ∀ x ∈ X, x ∈ Y ∨ h.get? x = none) : Ext Y h ρ h' ρ' :=
  ⟨⟨a.pre, fun b o hn hx e => a.keep b o hn (fun q => (s b q).elim hx fun q2 => by rw [q2] at e; cases e) e⟩, a.there⟩
theorem Ext.of_keep {X : List Addr} {h h' : Heap} {ρ : Rho} (k : ∀ b o, b ∉ X → h.get? b = some o → h'.get? b = some o) (t : ∀ x ∈ X, ∃ o, h'.get? x = some o) : Ext X h ρ h' ρ :=
  ⟨⟨⟨[], by simp, fun _ hp => nomatch hp⟩, fun b o _ hx e => k b o hx e⟩, fun b o e => by
    by_cases hb : b ∈ X
    · exact t b hb
    · exact ⟨o, k b o hb e⟩⟩
theorem Ex.of_keep {X : List Addr} {h h' : Heap} {ρ : Rho} (k : ∀ b o, b ∉ X → h.get? b = some o → h'.get? b = some o) : Ex X h ρ h' ρ := ⟨⟨[], by simp, fun _ hp => nomatch hp⟩, fun b o _ hx e => k b o hx e⟩
theorem Ext.grow {X : List Addr} {h h' : Heap} {ρ : Rho} (k : ∀ b o, h.get? b = some o → h'.get? b = some o) : Ext X h ρ h' ρ :=
  ⟨⟨⟨[], by simp, fun _ hp => nomatch hp⟩, fun b o _ hx e => k b o e⟩, fun b o e => ⟨o, k b o e⟩⟩
theorem Ext.push {X : List Addr} {h : Heap} {ρ : Rho} (o : Obj) : Ext X h ρ (h.push o) ρ := .grow fun _ _ e => Heap.get?_push_of_some _ e
theorem get?_size (h : Heap) : h.get? h.objs.size = none := by
  cases hb : h.get? h.objs.size with
  | none => rfl
  | some o => exact absurd (Heap.lt_size hb) (Nat.lt_irrefl _)

section
variable {B : Bs} {X : List Addr} {h h' : Heap} {ρ ρ' : Rho}
theorem RepV.ex (e : Ex X h ρ h' ρ') (hx : ∀ x ∈ X, Hid h x) {v : AV} {w : Value} (r : RepV B h ρ v w) : RepV B h' ρ' v w := by
  induction r using RepV.rec (motive_2 := fun vs ws _ => RepVs B h' ρ' vs ws) with
  | none => exact .none
  | bool b => exact .bool b
  | int i t => exact .int i t
  | str s t => exact .str s t
  | loc n p hp => exact .loc n p (e.at hp)
  | tup vs a its ep hn ho hr ih => exact .tup vs a its ep (e.notOwn hn ho) (e.keep _ _ hn (fun q => (hx _ q _ ho).1 _ _ rfl) ho) ih
  | bm x n a f p hn ho hl hp => exact .bm x n a f p (e.notOwn hn ho) (e.keep _ _ hn (fun q => (hx _ q _ ho).2.1 _ _ rfl) ho) hl (e.at hp)
  | fn x v q => exact .fn x v q
  | mth x v q => exact .mth x v q
  | cls => exact .cls
  | clst x v q => exact .clst x v q
  | bi id => exact .bi id
  | ty id => exact .ty id
  | given => exact .given
  | rng a b r t u v hn ho => exact .rng a b r t u v (e.notOwn hn ho) (e.keep _ _ hn (fun q => (hx _ q _ ho).2.2 _ _ _ _ _ rfl) ho)
  | nil => exact .nil
  | cons a b iha ihb => exact .cons iha ihb
theorem RepVs.ex (e : Ex X h ρ h' ρ') (hx : ∀ x ∈ X, Hid h x) : ∀ {vs : List AV} {ws : List Value}, RepVs B h ρ vs ws → RepVs B h' ρ' vs ws
  | [], _, r => by cases r; exact .nil
  | _ :: _, _, r => by cases r with | cons a b => exact .cons (a.ex e hx) (RepVs.ex e hx b)
theorem RepV.ext (e : Ext X h ρ h' ρ') (hx : ∀ x ∈ X, Hid h x) {v : AV} {w : Value} (r : RepV B h ρ v w) : RepV B h' ρ' v w := r.ex e.toEx hx
theorem RepVs.ext (e : Ext X h ρ h' ρ') (hx : ∀ x ∈ X, Hid h x) {v : List AV} {w : List Value} (r : RepVs B h ρ v w) : RepVs B h' ρ' v w := r.ex e.toEx hx
theorem RepV.ext0 (e : Ext [] h ρ h' ρ') {v : AV} {w : Value} (r : RepV B h ρ v w) : RepV B h' ρ' v w := r.ext e fun _ q => nomatch q
theorem RepVs.ext0 (e : Ext [] h ρ h' ρ') {v : List AV} {w : List Value} (r : RepVs B h ρ v w) : RepVs B h' ρ' v w := r.ext e fun _ q => nomatch q
end
end Mine
end
section
set_option maxRecDepth 100000
set_option linter.unusedVariables false
open PySem PySem.W PyProof.Rows PySem.Claim2Try PySem.Pin
namespace Mine

noncomputable def RepO (B : Bs) (h : Heap) (ρ : Rho) (p : Addr × Addr) : AObj → Prop
  | .nums n f => p.2 = p.1 ∧ ∃ its e, h.get? p.1 = some (listOf its e) ∧ its.size = n ∧ n ≤ 1000000 ∧ ∀ i, i < n → ∃ t, its[i]? = some (.int (f i) t)
  | .list vs => p.2 = p.1 ∧ vs.length ≤ 1000000 ∧ ∃ its e, h.get? p.1 = some (listOf its e) ∧ RepVs B h ρ vs its.toList
  | .inst at_ => p.2 ≠ p.1 ∧ ∃ ox m, h.get? p.1 = some ox ∧ ox.cls = .ref B.C ∧ (∀ c, ox.data ≠ .cls c) ∧ ox.dict = some p.2 ∧ h.Ns1 p.2 m ∧
      ∀ x, match lookS x at_ with
        | some v => ∃ w, m x = some w ∧ RepV B h ρ v w
        | none => m x = none
  | .dict _ => False

structure St (B : Bs) (ρ : Rho) (σ : Hp) (s : Shared) : Prop where
  keep : ∀ b o, B.hb.get? b = some o → s.heap.get? b = some o
  len : ρ.length = σ.length
  obj : ∀ (n : Nat) p o, ρ[n]? = some p → σ[n]? = some o → RepO B s.heap ρ p o
  apart : ∀ (i j : Nat) p q, i ≠ j → ρ[i]? = some p → ρ[j]? = some q → p.1 ≠ q.1 ∧ p.1 ≠ q.2 ∧ p.2 ≠ q.1 ∧ p.2 ≠ q.2
  above : ∀ p ∈ ρ, B.hb.get? p.1 = none ∧ B.hb.get? p.2 = none
  below : ∀ p ∈ ρ, (∃ o, s.heap.get? p.1 = some o) ∧ ∃ o, s.heap.get? p.2 = some o
  gens : s.gens = #[]
  os : s.os = B.os

section
variable {B : Bs} {X : List Addr} {h h' : Heap} {ρ ρ' : Rho} {σ : Hp} {s : Shared}
theorem RepO.ex {p : Addr × Addr} {o : AObj} (e : Ex X h ρ h' ρ') (hx : ∀ x ∈ X, Hid h x) (k1 : ∀ o, h.get? p.1 = some o → h'.get? p.1 = some o) (k2 : ∀ o, h.get? p.2 = some o → h'.get? p.2 = some o) (r : RepO B h ρ p o) : RepO B h' ρ' p o := by
  cases o with
  | nums n f =>
    obtain ⟨e1, its, ep, ho, hs, hr⟩ := r
    exact ⟨e1, its, ep, k1 _ ho, hs, hr⟩
  | list vs =>
    obtain ⟨e1, hl, its, ep, ho, hr⟩ := r
    exact ⟨e1, hl, its, ep, k1 _ ho, hr.ex e hx⟩
  | inst a =>
    obtain ⟨e1, ox, m, ho, hc, hd, hdi, hns, hm⟩ := r
    refine ⟨e1, ox, m, k1 _ ho, hc, hd, hdi, hns.at k2, fun x => ?_⟩
    have := hm x
    split at this
    · rename_i v hv
      obtain ⟨w, hw, rw_⟩ := this
      exact ⟨w, hw, rw_.ex e hx⟩
    · exact this
  | dict es => exact r.elim
theorem RepO.ext {p : Addr × Addr} {o : AObj} (e : Ext X h ρ h' ρ') (hx : ∀ x ∈ X, Hid h x) (k1 : ∀ o, h.get? p.1 = some o → h'.get? p.1 = some o) (k2 : ∀ o, h.get? p.2 = some o → h'.get? p.2 = some o) (r : RepO B h ρ p o) : RepO B h' ρ' p o := r.ex e.toEx hx k1 k2
theorem St.own_apart (S : St B ρ σ s) {n m : Nat} {p q : Addr × Addr} (hn : ρ[n]? = some p) (hm : ρ[m]? = some q) (hne : n ≠ m) : (q.1 ≠ p.1 ∧ q.1 ≠ p.2) ∧ (q.2 ≠ p.1 ∧ q.2 ≠ p.2) := by
  obtain ⟨a, b, c, d⟩ := S.apart n m p q hne hn hm
  exact ⟨⟨a.symm, c.symm⟩, ⟨b.symm, d.symm⟩⟩
theorem mem_of_at {p : Addr × Addr} {n : Nat} (h : ρ[n]? = some p) : p ∈ ρ := List.mem_of_getElem? h
/-- a change that touches nothing told -/
theorem St.keeps (S : St B ρ σ s) {tk : Nat} {d : Drawn} (k : ∀ b o, b ∉ X → s.heap.get? b = some o → h'.get? b = some o)
    (hx : ∀ x ∈ X, Hid s.heap x ∧ NotOwn ρ x ∧ B.hb.get? x = none) : St B ρ σ ⟨h', s.gens, d, tk, s.os⟩ where
  keep b o e := k b o (fun q => by rw [(hx b q).2.2] at e; cases e) (S.keep b o e)
  len := S.len
  obj n p o hp ho := (S.obj n p o hp ho).ex (Ex.of_keep (X := X) k) (fun x q => (hx x q).1)
    (fun o e => k _ _ (fun q => ((hx _ q).2.1 p (mem_of_at hp)).1 rfl) e) (fun o e => k _ _ (fun q => ((hx _ q).2.1 p (mem_of_at hp)).2 rfl) e)
  apart := S.apart
  above := S.above
  below p hp := ⟨let ⟨o, e⟩ := (S.below p hp).1; ⟨o, k _ _ (fun q => ((hx _ q).2.1 p hp).1 rfl) e⟩, let ⟨o, e⟩ := (S.below p hp).2; ⟨o, k _ _ (fun q => ((hx _ q).2.1 p hp).2 rfl) e⟩⟩
  gens := S.gens
  os := S.os
theorem St.grows (S : St B ρ σ s) {tk : Nat} {d : Drawn} (k : ∀ b o, s.heap.get? b = some o → h'.get? b = some o) : St B ρ σ ⟨h', s.gens, d, tk, s.os⟩ :=
  S.keeps (X := []) (fun b o _ e => k b o e) fun _ q => nomatch q
theorem St.push (S : St B ρ σ s) {tk : Nat} {d : Drawn} (o : Obj) : St B ρ σ ⟨s.heap.push o, s.gens, d, tk, s.os⟩ :=
  S.grows fun _ _ e => Heap.get?_push_of_some _ e
theorem St.toks (S : St B ρ σ s) {tk : Nat} : St B ρ σ { s with toks := tk } := ⟨S.keep, S.len, S.obj, S.apart, S.above, S.below, S.gens, S.os⟩
theorem St.notOwn (S : St B ρ σ s) {a : Addr} (ha : s.heap.get? a = none) : NotOwn ρ a := fun p hp => by
  obtain ⟨⟨o, h1⟩, ⟨o', h2⟩⟩ := S.below p hp
  exact ⟨fun q => (by rw [← q, ha] at h1; cases h1), fun q => (by rw [← q, ha] at h2; cases h2)⟩
/-- an object more -/
theorem St.new (S : St B ρ σ s) {tk : Nat} {d : Drawn} {p : Addr × Addr} {o : AObj} (k : ∀ b o, s.heap.get? b = some o → h'.get? b = some o)
    (h1 : s.heap.get? p.1 = none) (h2 : s.heap.get? p.2 = none) (b1 : ∃ o, h'.get? p.1 = some o) (b2 : ∃ o, h'.get? p.2 = some o) (r : RepO B h' (ρ ++ [p]) p o) :
    St B (ρ ++ [p]) (σ ++ [o]) ⟨h', s.gens, d, tk, s.os⟩ ∧ Ext [] s.heap ρ h' (ρ ++ [p]) := by
  have E : Ext [] s.heap ρ h' (ρ ++ [p]) := ⟨⟨⟨[p], rfl, fun q hq => by rw [List.mem_singleton.mp hq]; exact ⟨h1, h2⟩⟩, fun b o _ _ e => k b o e⟩, fun b o e => ⟨o, k b o e⟩⟩
  have base : ∀ a, s.heap.get? a = none → B.hb.get? a = none := fun a ha => by
    cases hb : B.hb.get? a with
    | none => rfl
    | some o => rw [S.keep a o hb] at ha; cases ha
  refine ⟨⟨fun b o e => k b o (S.keep b o e), by rw [List.length_append, List.length_append, S.len]; rfl, fun n q ob hq hob => ?_, fun i j q q' hij hi hj => ?_, fun q hq => ?_, fun q hq => ?_, S.gens, S.os⟩, E⟩
  · rcases Nat.lt_or_ge n ρ.length with hl | hl
    · rw [List.getElem?_append_left hl] at hq
      rw [List.getElem?_append_left (by rw [← S.len]; exact hl)] at hob
      exact (S.obj n q ob hq hob).ext E (fun _ q => nomatch q) (fun _ e => k _ _ e) fun _ e => k _ _ e
    · rw [List.getElem?_append_right hl] at hq
      rw [List.getElem?_append_right (by rw [← S.len]; exact hl), ← S.len] at hob
      have hz : n - ρ.length = 0 := by
        rcases Nat.eq_zero_or_pos (n - ρ.length) with e | e
        · exact e
        · rw [List.getElem?_eq_none (by show 1 ≤ _; exact e)] at hq; cases hq
      rw [hz] at hq hob
      cases hq
      cases hob
      exact r
  · have old : ∀ {n : Nat} {q : Addr × Addr}, (ρ ++ [p])[n]? = some q → (n < ρ.length ∧ ρ[n]? = some q) ∨ (n = ρ.length ∧ q = p) := by
      intro n q hq
      rcases Nat.lt_or_ge n ρ.length with hl | hl
      · rw [List.getElem?_append_left hl] at hq; exact .inl ⟨hl, hq⟩
      · rw [List.getElem?_append_right hl] at hq
        have hz : n - ρ.length = 0 := by
          rcases Nat.eq_zero_or_pos (n - ρ.length) with e | e
          · exact e
          · rw [List.getElem?_eq_none (by show 1 ≤ _; exact e)] at hq; cases hq
        rw [hz] at hq
        cases hq
        exact .inr ⟨by omega, rfl⟩
    have n1 := S.notOwn h1
    have n2 := S.notOwn h2
    rcases old hi with ⟨_, gi⟩ | ⟨gi, rfl⟩
    · rcases old hj with ⟨_, gj⟩ | ⟨gj, rfl⟩
      · exact S.apart i j q q' hij gi gj
      · have m := mem_of_at gi
        exact ⟨(n1 q m).1.symm, (n2 q m).1.symm, (n1 q m).2.symm, (n2 q m).2.symm⟩
    · rcases old hj with ⟨_, gj⟩ | ⟨gj, rfl⟩
      · have m := mem_of_at gj
        exact ⟨(n1 q' m).1, (n1 q' m).2, (n2 q' m).1, (n2 q' m).2⟩
      · exact absurd (gi.trans gj.symm) hij
  · rcases List.mem_append.mp hq with hq | hq
    · exact S.above q hq
    · rw [List.mem_singleton.mp hq]; exact ⟨base _ h1, base _ h2⟩
  · rcases List.mem_append.mp hq with hq | hq
    · exact ⟨let ⟨o, e⟩ := (S.below q hq).1; ⟨o, k _ _ e⟩, let ⟨o, e⟩ := (S.below q hq).2; ⟨o, k _ _ e⟩⟩
    · rw [List.mem_singleton.mp hq]; exact ⟨b1, b2⟩
/-- an object turned -/
theorem St.set (S : St B ρ σ s) {tk : Nat} {d : Drawn} {n : Nat} {p : Addr × Addr} {o : AObj} (hp : ρ[n]? = some p) (k : ∀ b o, b ≠ p.1 → b ≠ p.2 → s.heap.get? b = some o → h'.get? b = some o)
    (b1 : ∃ o, h'.get? p.1 = some o) (b2 : ∃ o, h'.get? p.2 = some o) (r : RepO B h' ρ p o) : St B ρ (σ.set n o) ⟨h', s.gens, d, tk, s.os⟩ ∧ Ext [] s.heap ρ h' ρ := by
  have hpm := mem_of_at hp
  have E : Ext [] s.heap ρ h' ρ := ⟨⟨⟨[], by simp, fun _ q => nomatch q⟩, fun b o hn _ e => k b o (hn p hpm).1 (hn p hpm).2 e⟩, fun b o e => by
    by_cases h1 : b = p.1
    · rw [h1]; exact b1
    · by_cases h2 : b = p.2
      · rw [h2]; exact b2
      · exact ⟨o, k b o h1 h2 e⟩⟩
  refine ⟨⟨fun b o e => ?_, by rw [List.length_set, S.len], fun m q ob hq hob => ?_, S.apart, S.above, fun q hq => ⟨let ⟨o, e⟩ := (S.below q hq).1; E.there _ _ e, let ⟨o, e⟩ := (S.below q hq).2; E.there _ _ e⟩, S.gens, S.os⟩, E⟩
  · exact k b o (fun q => by rw [q, (S.above p hpm).1] at e; cases e) (fun q => by rw [q, (S.above p hpm).2] at e; cases e) (S.keep b o e)
  · rcases Nat.decEq n m with hne | rfl
    · rw [List.getElem?_set_ne hne] at hob
      obtain ⟨⟨a1, a2⟩, a3, a4⟩ := S.own_apart hp hq hne
      exact (S.obj m q ob hq hob).ext E (fun _ q => nomatch q) (fun o e => k _ _ a1 a2 e) (fun o e => k _ _ a3 a4 e)
    · rw [hp] at hq
      cases hq
      have hl : n < σ.length := by rw [← S.len]; exact (List.getElem?_eq_some_iff.mp hp).1
      rw [List.getElem?_set_self hl] at hob
      cases hob
      exact r
theorem St.at_ (S : St B ρ σ s) {n : Nat} {o : AObj} (ho : σ[n]? = some o) : ∃ p, ρ[n]? = some p ∧ RepO B s.heap ρ p o := by
  have hl : n < ρ.length := by rw [S.len]; exact (List.getElem?_eq_some_iff.mp ho).1
  exact ⟨ρ[n], List.getElem?_eq_getElem hl, S.obj n _ o (List.getElem?_eq_getElem hl) ho⟩

/-- the names of a frame -/
structure Lo (B : Bs) (env : Env) (L : Loc) (ρ : Rho) (h : Heap) : Prop where
  ns : ∃ m, h.Ns env.locals m ∧ ∀ x v, lookS x L = some v → ∃ w, m x = some w ∧ RepV B h ρ v w
  own : NotOwn ρ env.locals
  above : B.hb.get? env.locals = none
theorem ns_hid {m : Str → Option Value} {a : Addr} (n : h.Ns a m) : Hid h a := by
  obtain ⟨o, es, ep, ho, hd, _⟩ := n
  intro o' ho'
  rw [ho] at ho'
  cases ho'
  refine ⟨fun its e q => ?_, fun f x q => ?_, fun a b t u v q => ?_⟩ <;> (rw [q] at hd; cases hd)
theorem Lo.hid {env : Env} {L : Loc} (l : Lo B env L ρ h) : Hid h env.locals := let ⟨_, n, _⟩ := l.ns; ns_hid n
theorem Lo.there {env : Env} {L : Loc} (l : Lo B env L ρ h) : ∃ o, h.get? env.locals = some o := let ⟨_, ⟨o, _, _, ho, _⟩, _⟩ := l.ns; ⟨o, ho⟩
/-- a run that leaves the frame alone -/
theorem Lo.ex {env : Env} {L : Loc} (l : Lo B env L ρ h) (e : Ex X h ρ h' ρ') (hx : ∀ x ∈ X, Hid h x) (hl : env.locals ∉ X) : Lo B env L ρ' h' := by
  obtain ⟨m, hn, hm⟩ := l.ns
  refine ⟨⟨m, hn.at fun o ho => e.keep _ _ l.own hl ho, fun x v hv => ?_⟩, let ⟨_, q⟩ := l.there; e.notOwn l.own q, l.above⟩
  obtain ⟨w, hw, r⟩ := hm x v hv
  exact ⟨w, hw, r.ex e hx⟩
theorem Lo.ext {env : Env} {L : Loc} (l : Lo B env L ρ h) (e : Ext X h ρ h' ρ') (hx : ∀ x ∈ X, Hid h x) (hl : env.locals ∉ X) : Lo B env L ρ' h' := l.ex e.toEx hx hl
theorem Lo.ext0 {env : Env} {L : Loc} (l : Lo B env L ρ h) (e : Ext [] h ρ h' ρ') : Lo B env L ρ' h' := l.ext e (fun _ q => nomatch q) (fun q => nomatch q)
end
end Mine
end
section
set_option maxRecDepth 100000
set_option linter.unusedVariables false
open PySem PySem.W PyProof.Rows PySem.Claim2Try PySem.Pin
namespace Mine

noncomputable def locK (vs : List AV) (K : Nat → Prop) : Prop := match vs with
  | [.loc n] => K n
  | _ => False
noncomputable def numK (vs : List AV) (K : Int → Prop) : Prop := match vs with
  | [.int n] => K n
  | _ => False
noncomputable def someK {α : Type} (o : Option α) (K : α → Prop) : Prop := match o with
  | some x => K x
  | none => False
/-- the text: the statements of the top and of the class -/
structure Pg where
  top : List Stmt
  body : List Stmt
  slen : Nat
  scr : Nat → Int
noncomputable def clsFind (n : Str) : List Stmt → Option Stmt
  | [] => none
  | st :: r => cond (eqS (nameOf st) n) (some st) (clsFind n r)
noncomputable def topFind (n : Str) : List Stmt → Option Stmt
  | [] => none
  | st :: r => cond (eqS (topName st) n) (some st) (topFind n r)
/-- the names that an object bears -/
noncomputable def ivars : List Str := ["name", "byteMask", "addrMask", "addrHighMask", "spBase", "excycles", "addcycles", "processorCycles", "memory", "start_pc", "pc", "sp", "a", "x", "y", "p"]
noncomputable def memS (x : Str) : List Str → Bool
  | [] => false
  | y :: r => cond (eqS x y) true (memS x r)
noncomputable def nth {α : Type} : List α → Nat → Option α
  | [], _ => none
  | x :: _, 0 => some x
  | _ :: r, n + 1 => nth r n
noncomputable def setN {α : Type} : List α → Nat → α → List α
  | [], _, _ => []
  | _ :: r, 0, y => y :: r
  | x :: r, n + 1, y => x :: setN r n y
noncomputable def isTop : NameKind → Bool
  | .globalImplicit => true
  | _ => false
noncomputable def kindS (x : Str) (sc : Scope) : Option NameKind := lookS x sc.names
/-- a number that is no giant -/
noncomputable def small (a : Int) : Bool := decide (a.natAbs < 18446744073709551616)

noncomputable def constI (c : Const) (K : AV → Prop) : Prop := match c with
  | .none => K .none
  | .bool b => K (.bool b)
  | .int i => K (.int i)
  | .str s => K (.str s)
  | _ => False
noncomputable def defOf : Option Stmt → Option (Arguments × List Stmt × Scope)
  | some (.FunctionDef _ pa bo _ _ _ sc _ _ _) => some (pa, bo, sc)
  | _ => none
noncomputable def isClsO : Option Stmt → Bool
  | some (.ClassDef _ _ _ _ _ _ _ _ _ _ _) => true
  | _ => false
noncomputable def globB (x : Str) (K : AV → Prop) : Prop := cond (eqS x "len") (K (.bi "len")) (cond (eqS x "range") (K (.ty "range")) (cond (eqS x "enumerate") (K (.ty "enumerate")) False))
noncomputable def globI (G : Pg) (x : Str) (K : AV → Prop) : Prop := cond (defOf (topFind x G.top)).isSome (K (.fn x)) (cond (isClsO (topFind x G.top)) (K .cls) (cond (topFind x G.top).isNone (globB x K) False))
noncomputable def debugName : Str := "__debug__"
noncomputable def localI (x : Str) (o : Option AV) (K : AV → Prop) : Prop := match o with
  | some v => cond (eqS x debugName) False (K v)
  | none => False
noncomputable def nameI (G : Pg) (sc : Scope) (x : Str) (L : Loc) (K : AV → Prop) : Prop := match kindS x sc with
  | some .local => localI x (lookS x L) K
  | some .globalImplicit => cond (eqS x debugName) False (globI G x K)
  | _ => False
noncomputable def intsOf : List AV → Option (List Int)
  | [] => some []
  | .int i :: r => (match intsOf r with
    | some l => some (i :: l)
    | none => none)
  | _ :: _ => none
noncomputable def getI (l : List Int) (i : Nat) : Int := l.getD i 0
noncomputable def mkList (vs : List AV) : AObj := match intsOf vs with
  | some l => .nums l.length (getI l)
  | none => .list vs
noncomputable def appF (m : Nat) (f g : Nat → Int) (i : Nat) : Int := cond (Nat.blt i m) (f i) (g (i - m))
noncomputable def repF (m : Nat) (f : Nat → Int) (i : Nat) : Int := f (i % m)
noncomputable def setF (f : Nat → Int) (j : Nat) (v : Int) (i : Nat) : Int := cond (Nat.beq i j) v (f i)
noncomputable def cutF (a : Nat) (f : Nat → Int) (i : Nat) : Int := f (a + i)
/-- an operation of two numbers -/
noncomputable def arithI (op : Operator) (x y : Int) (K : Int → Prop) : Prop := match op with
  | .Add => K (x + y)
  | .Sub => K (x - y)
  | .Mult => cond (small x && small y) (K (x * y)) False
  | .BitAnd => K (Builtin.bitAnd x y)
  | .BitOr => K (Builtin.bitOr x y)
  | .BitXor => K (Builtin.bitXor x y)
  | .LShift => cond (decide (0 ≤ y) && decide (y ≤ 1000000) && small x) (K (x * 2 ^ y.toNat)) False
  | .RShift => cond (decide (0 ≤ y)) (K (x.fdiv (2 ^ y.toNat))) False
  | .FloorDiv => cond (decide (y = 0) || !decide (y.natAbs < 1073741824)) False (K (x.fdiv y))
  | .Mod => cond (decide (y = 0)) False (K (x.fmod y))
  | .Pow => cond (decide (0 ≤ y) && decide (y ≤ 1000000) && small x) (K (x ^ y.toNat)) False
  | _ => False
noncomputable def intK (a b : AV) (K : Int → Int → Prop) : Prop := match a with
  | .int x => (match b with | .int y => K x y | _ => False)
  | _ => False
/-- two lists of numbers -/
noncomputable def numsK (σ : Hp) (a : AV) (K : Nat → Nat → (Nat → Int) → Prop) : Prop := match a with
  | .loc m => (match nth σ m with | some (.nums p f) => K m p f | _ => False)
  | _ => False
noncomputable def lmulI (p : Nat) (f : Nat → Int) (b : AV) (σ : Hp) (K : AV → Hp → Prop) : Prop := match b with
  | .int k => cond (decide (0 ≤ k) && decide (k ≤ 1000000) && decide (p * k.toNat ≤ 1000000)) (K (.loc σ.length) (σ ++ [.nums (p * k.toNat) (repF p f)])) False
  | _ => False
noncomputable def isInt : AV → Bool
  | .int _ => true
  | _ => false
noncomputable def binI (op : Operator) (a b : AV) (σ : Hp) (K : AV → Hp → Prop) : Prop := cond (isInt a) (intK a b fun x y => arithI op x y fun z => K (.int z) σ) (match op with
  | .Add => numsK σ a fun _ p f => numsK σ b fun _ q g => cond (decide (p + q ≤ 1000000)) (K (.loc σ.length) (σ ++ [.nums (p + q) (appF p f g)])) False
  | .Mult => numsK σ a fun _ p f => lmulI p f b σ K
  | _ => False)
/-- in place: numbers by the plain operation, a list grows -/
noncomputable def iarithI (op : Operator) (x y : Int) (K : Int → Prop) : Prop := match op with
  | .Add => K (x + y)
  | .Sub => K (x - y)
  | .BitAnd => K (Builtin.bitAnd x y)
  | .BitOr => K (Builtin.bitOr x y)
  | .BitXor => K (Builtin.bitXor x y)
  | _ => False
noncomputable def inplI (op : Operator) (a b : AV) (σ : Hp) (K : AV → Hp → Prop) : Prop := cond (isInt a) (intK a b fun x y => iarithI op x y fun z => K (.int z) σ) (match op with
  | .Add => numsK σ a fun m p f => numsK σ b fun n q g => cond (Nat.beq m n) False (cond (decide (p + q ≤ 1000000)) (K (.loc m) (setN σ m (.nums (p + q) (appF p f g)))) False)
  | _ => False)
noncomputable def unI (op : UnaryOp) (a : AV) (K : AV → Prop) : Prop := match op, a with
  | .Invert, .int x => K (.int (Builtin.bitNot x))
  | .USub, .int x => K (.int (-x))
  | _, _ => False
noncomputable def eqTo (f g : Nat → Int) : Nat → Bool
  | 0 => true
  | n + 1 => cond (decide (f n = g n)) (eqTo f g n) false
noncomputable def eqIL : List Int → List Int → Bool
  | [], [] => true
  | x :: r, y :: t => cond (decide (x = y)) (eqIL r t) false
  | _, _ => false
noncomputable def strK (a b : AV) (K : Str → Str → Prop) : Prop := match a with
  | .str x => (match b with | .str y => K x y | _ => False)
  | _ => False
noncomputable def tupK (a b : AV) (K : List Int → List Int → Prop) : Prop := match a with
  | .tup vs => (match b with
    | .tup ws => (match intsOf vs with
      | some l => (match intsOf ws with
        | some m => cond (Nat.beq l.length m.length) (K l m) False
        | none => False)
      | none => False)
    | _ => False)
  | _ => False
noncomputable def isStr : AV → Bool
  | .str _ => true
  | _ => false
noncomputable def isNoneK (a b : AV) (K : Bool → Prop) : Prop := match b with
  | .none => (match a with
    | .none => K true
    | .int _ => K false
    | .bm _ _ => K false
    | .loc _ => K false
    | _ => False)
  | _ => False
noncomputable def cmpI (op : CmpOp) (a b : AV) (σ : Hp) (K : Bool → Prop) : Prop := match op with
  | .Eq => cond (isInt a) (intK a b fun x y => K (decide (x = y))) (cond (isStr a) (strK a b fun x y => K (eqS x y)) (numsK σ a fun _ p f => numsK σ b fun _ q g => K (cond (Nat.beq p q) (eqTo f g p) false)))
  | .NotEq => cond (isInt a) (intK a b fun x y => K (!decide (x = y))) (tupK a b fun l m => K (!eqIL l m))
  | .Lt => intK a b fun x y => K (decide (x < y))
  | .LtE => intK a b fun x y => K (decide (x ≤ y))
  | .Gt => intK a b fun x y => K (decide (y < x))
  | .GtE => intK a b fun x y => K (decide (y ≤ x))
  | .Is => isNoneK a b K
  | .IsNot => isNoneK a b fun t => K (!t)
  | _ => False
noncomputable def truthI (v : AV) (K : Bool → Prop) : Prop := match v with
  | .none => K false
  | .bool b => K b
  | .int i => K (!decide (i = 0))
  | _ => False
noncomputable def plainAV : AV → Bool
  | .none => true
  | .bool _ => true
  | .int _ => true
  | .str _ => true
  | .loc _ => true
  | .tup _ => true
  | .bm _ _ => true
  | _ => false
noncomputable def ClsAttr (a : Str) (n : Nat) (K : AV → Prop) : Stmt → Prop
  | .Assign [.Name _ _] (.Constant (.int i) _ _) _ => K (.int i)
  | .Assign [.Name _ _] (.Constant (.str s) _ _) _ => K (.str s)
  | .Assign [.Name _ _] (.List _ _) _ => K (.clst a)
  | .FunctionDef _ _ _ _ _ _ _ _ _ _ => cond (eqS a "__init__") False (K (.bm a n))
  | _ => False
noncomputable def attrO (a : Str) (cf : Option Stmt) (n : Nat) (K : AV → Prop) : Option AV → Prop
  | some v => cond (memS a ivars && plainAV v) (K v) False
  | none => (match cf with
    | some st => ClsAttr a n K st
    | none => False)
noncomputable def attrL (G : Pg) (n : Nat) (a : Str) (o : Option AObj) (K : AV → Prop) : Prop := match o with
  | some (.inst at_) => attrO a (clsFind a G.body) n K (lookS a at_)
  | _ => False
noncomputable def attrI (G : Pg) (v : AV) (a : Str) (σ : Hp) (K : AV → Prop) : Prop := match v with
  | .loc n => attrL G n a (nth σ n) K
  | _ => False
noncomputable def instK (σ : Hp) (v : AV) (K : Nat → List (Str × AV) → Prop) : Prop := match v with
  | .loc n => (match nth σ n with
    | some (.inst at_) => K n at_
    | _ => False)
  | _ => False
noncomputable def setAttrI (v : AV) (a : Str) (u : AV) (σ : Hp) (K : Hp → Prop) : Prop := instK σ v fun n at_ => cond (memS a ivars && decide (at_.length ≤ 1000)) (K (setN σ n (.inst (putS a u at_)))) False
noncomputable def itemAt (σ : Hp) (n i : Nat) : Option (Option AV) := match nth σ n with
  | some (.nums N f) => some (cond (Nat.blt i N) (some (.int (f i))) none)
  | some (.list vs) => some (nth vs i)
  | _ => none
noncomputable def lenAt (σ : Hp) (n : Nat) : Option Nat := match nth σ n with
  | some (.nums N _) => some N
  | some (.list vs) => some vs.length
  | _ => none
noncomputable def eltI (e : Option Expr) (K : AV → Prop) : Prop := match e with
  | some (.Constant (.int i) _ _) => K (.int i)
  | some (.Name y _) => K (.mth y)
  | _ => False
noncomputable def oneK (o : Option AV) (K : AV → Prop) : Prop := match o with
  | some u => K u
  | none => False
noncomputable def lstOf : Option Stmt → List Expr
  | some (.Assign _ (.List es _) _) => es
  | _ => []
noncomputable def objAt (o : Option AObj) (i : Int) (K : AV → Prop) : Prop := match o with
  | some (.nums N f) => cond (decide (0 ≤ i) && decide (i < N)) (K (.int (f i.toNat))) False
  | some (.list vs) => cond (decide (0 ≤ i)) (oneK (nth vs i.toNat) K) False
  | _ => False
noncomputable def itemJ (G : Pg) (v : AV) (i : Int) (σ : Hp) (K : AV → Prop) : Prop := match v with
  | .loc n => objAt (nth σ n) i K
  | .tup vs => cond (decide (0 ≤ i) && decide (i ≤ 1000000)) (oneK (nth vs i.toNat) K) False
  | .clst x => cond (decide (0 ≤ i) && decide (i ≤ 1000000)) (eltI (nth (lstOf (clsFind x G.body)) i.toNat) K) False
  | _ => False
noncomputable def itemI (G : Pg) (v w : AV) (σ : Hp) (K : AV → Prop) : Prop := match w with
  | .int i => itemJ G v i σ K
  | _ => False
noncomputable def setItemI (v w u : AV) (σ : Hp) (K : Hp → Prop) : Prop := numsK σ v fun n N f => intK w u fun i x => cond (decide (0 ≤ i) && decide (i < N)) (K (setN σ n (.nums N (setF f i.toNat x)))) False

noncomputable abbrev KV := AV → Hp → Prop
noncomputable abbrev KF := AF → Loc → Hp → Prop
/-- an interpreter -/
structure In where
  ev : Scope → Expr → Loc → Hp → KV → Prop
  ts : Scope → Expr → Loc → Hp → (Bool → Hp → Prop) → Prop
  ca : AV → List AV → List (Str × AV) → Hp → KV → Prop
  ex : Scope → Stmt → Loc → Hp → KF → Prop
noncomputable def inFail : In := ⟨fun _ _ _ _ _ => False, fun _ _ _ _ _ => False, fun _ _ _ _ _ => False, fun _ _ _ _ _ => False⟩
noncomputable def seqI (ev : Expr → Hp → KV → Prop) : List Expr → Hp → (List AV → Hp → Prop) → Prop
  | [], σ, K => K [] σ
  | e :: r, σ, K => ev e σ fun v σ1 => seqI ev r σ1 fun vs σ2 => K (v :: vs) σ2
noncomputable def kwI (ev : Expr → Hp → KV → Prop) : List Keyword → Hp → (List (Str × AV) → Hp → Prop) → Prop
  | [], σ, K => K [] σ
  | ⟨some x, e, _⟩ :: r, σ, K => ev e σ fun v σ1 => kwI ev r σ1 fun vs σ2 => K ((x, v) :: vs) σ2
  | ⟨none, _, _⟩ :: _, _, _ => False
noncomputable def optI (ev : Expr → Hp → KV → Prop) : Option Expr → Hp → KV → Prop
  | none, σ, K => K .none σ
  | some e, σ, K => ev e σ K
noncomputable def stmtsI (ex : Stmt → Loc → Hp → KF → Prop) : List Stmt → Loc → Hp → KF → Prop
  | [], L, σ, K => K .next L σ
  | st :: r, L, σ, K => ex st L σ fun fl L1 σ1 => match fl with
    | .next => stmtsI ex r L1 σ1 K
    | fl => K fl L1 σ1
/-- the bounds of a slice of n items -/
noncomputable def boundI (n : Nat) (dflt : Nat) : AV → Option Nat
  | .none => some dflt
  | .int i => cond (decide (0 ≤ i)) (some (min i.toNat n)) none
  | _ => none
noncomputable def minLen (n : Nat) (k : Nat) : Nat := min k n
noncomputable def sliceI (G : Pg) (v a b : AV) (σ : Hp) (K : KV) : Prop := match v with
  | .given => (match boundI G.slen 0 a, boundI G.slen G.slen b with
      | some i, some j => K (.loc σ.length) (σ ++ [.nums (j - i) (cutF i G.scr)])
      | _, _ => False)
  | .loc m => (match nth σ m with
    | some (.nums N f) => (match boundI N 0 a, boundI N N b with
      | some i, some j => K (.loc σ.length) (σ ++ [.nums (j - i) (cutF i f)])
      | _, _ => False)
    | _ => False)
  | _ => False
noncomputable def genLoop (src : Hp → Nat → Option (Option AV)) (bd : Loc → Hp → KF → Prop) (asg : AV → Loc → Hp → (Loc → Hp → Prop) → Prop) : Nat → Nat → Loc → Hp → KF → Prop
  | 0, i, L, σ, K => (match src σ i with
    | some none => K .next L σ
    | _ => False)
  | k + 1, i, L, σ, K => (match src σ i with
    | none => False
    | some none => K .next L σ
    | some (some v) => asg v L σ fun L1 σ1 => bd L1 σ1 fun fl L2 σ2 => match fl with
      | .next => genLoop src bd asg k (i + 1) L2 σ2 K
      | .cont => genLoop src bd asg k (i + 1) L2 σ2 K
      | .brk => K .next L2 σ2
      | .ret v => K (.ret v) L2 σ2)
noncomputable def listSrc (n : Nat) (pair : Bool) (σ : Hp) (i : Nat) : Option (Option AV) := match itemAt σ n i with
  | some (some v) => some (some (cond pair (.tup [.int i, v]) v))
  | o => o
noncomputable def listLoop (bd : Loc → Hp → KF → Prop) (asg : AV → Loc → Hp → (Loc → Hp → Prop) → Prop) (n : Nat) (pair : Bool) : Nat → Nat → Loc → Hp → KF → Prop := genLoop (listSrc n pair) bd asg
noncomputable def rangeSrc (N : Nat) (a : Int) (_ : Hp) (i : Nat) : Option (Option AV) := some (cond (Nat.blt i N) (some (.int (a + i))) none)
/-- a comprehension over a list of numbers -/
noncomputable def compLoop (ev : AV → Hp → KV → Prop) (n acc : Nat) : Nat → Nat → Hp → (Hp → Prop) → Prop
  | 0, i, σ, K => (match itemAt σ n i with
    | some none => K σ
    | _ => False)
  | k + 1, i, σ, K => (match itemAt σ n i with
    | none => False
    | some none => K σ
    | some (some v) => ev v σ fun u σ1 => (match u, nth σ1 acc with
      | .int x, some (.nums N f) => cond (decide (N ≤ 1000)) (compLoop ev n acc k (i + 1) (setN σ1 acc (.nums (N + 1) (setF f N x))) K) False
      | _, _ => False))
noncomputable def nodupS : List Str → Bool
  | [] => true
  | x :: r => cond (memS x r) false (nodupS r)
noncomputable def bindI (pa : Arguments) (vs : List AV) : Option Loc :=
  cond (pa.posonlyargs.isEmpty && pa.kwonlyargs.isEmpty && pa.vararg.isNone && pa.kwarg.isNone && pa.defaults.isEmpty && Nat.beq pa.args.length vs.length && nodupS (pa.args.map (·.arg)))
    (some ((pa.args.map (·.arg)).zip vs)) none
noncomputable def nSelf : Str := "self"
noncomputable def nMemory : Str := "memory"
noncomputable def nPc : Str := "pc"
/-- the one call of the class: its two names by keyword -/
noncomputable def args3 : List Arg → Bool
  | [a, b, c] => eqS a.arg nSelf && eqS b.arg nMemory && eqS c.arg nPc
  | _ => false
noncomputable def okC (pa : Arguments) (x y : Str) : Bool := pa.posonlyargs.isEmpty && pa.kwonlyargs.isEmpty && pa.vararg.isNone && pa.kwarg.isNone && Nat.beq pa.defaults.length 2 && eqS x nMemory && eqS y nPc && args3 pa.args
noncomputable def bindC (pa : Arguments) (s : AV) (vs : List AV) (ks : List (Str × AV)) : Option Loc := match vs with
  | [] => (match ks with
    | [(x, m), (y, p)] => cond (okC pa x y) (some [(nSelf, s), (nMemory, m), (nPc, p)]) none
    | _ => none)
  | _ => none
noncomputable def plainScope (sc : Scope) : Bool := (match sc.kind with | .function => true | _ => false) && !sc.isGenerator && !sc.isCoroutine && sc.names.all fun x => match x.2 with
  | .local => true
  | .globalImplicit => true
  | _ => false
noncomputable def retK (K : KV) : KF := fun fl _ σ1 => match fl with
  | .next => K .none σ1
  | .ret v => K v σ1
  | _ => False
noncomputable def bodyI (I : In) (L0 : Option Loc) (bo : List Stmt) (sc : Scope) (σ : Hp) (K : KV) : Prop :=
  match L0 with
  | some L => cond (plainScope sc && (L.all fun x => match kindS x.1 sc with | some .local => true | _ => false)) (stmtsI (I.ex sc) bo L σ (retK K)) False
  | none => False
noncomputable def initName : Str := "__init__"
noncomputable def fnI (I : In) (d : Option (Arguments × List Stmt × Scope)) (vs : List AV) (ks : List (Str × AV)) (σ : Hp) (K : KV) : Prop := match d with
  | some (pa, bo, sc) => cond ks.isEmpty (bodyI I (bindI pa vs) bo sc σ K) False
  | none => False
noncomputable def clsI (I : In) (d : Option (Arguments × List Stmt × Scope)) (vs : List AV) (ks : List (Str × AV)) (σ : Hp) (K : KV) : Prop := match d with
  | some (pa, bo, sc) => bodyI I (bindC pa (.loc σ.length) vs ks) bo sc (σ ++ [.inst []]) fun r σ1 => match r with
      | .none => K (.loc σ.length) σ1
      | _ => False
  | none => False
noncomputable def caB (G : Pg) (I : In) (f : AV) (vs : List AV) (ks : List (Str × AV)) (σ : Hp) (K : KV) : Prop := match f with
  | .fn x => fnI I (defOf (topFind x G.top)) vs ks σ K
  | .mth x => fnI I (defOf (clsFind x G.body)) vs ks σ K
  | .bm x n => fnI I (defOf (clsFind x G.body)) (.loc n :: vs) ks σ K
  | .cls => clsI I (defOf (clsFind initName G.body)) vs ks σ K
  | .bi id => cond (id == "len" && ks.isEmpty) (locK vs fun n => someK (lenAt σ n) fun k => K (.int k) σ) False
  | .ty id => cond (id == "range" && ks.isEmpty) (numK vs fun b => cond (decide (0 ≤ b) && decide (b ≤ 1000000)) (K (.rng 0 b) σ) False) False
  | _ => False
/-- what «o.m(..)» calls -/
noncomputable def calleeI (G : Pg) (v : AV) (m : Str) (σ : Hp) (K : AV → List AV → Prop) : Prop := instK σ v fun _ at_ => cond ((lookS m at_).isNone && (defOf (clsFind m G.body)).isSome) (K (.mth m) [v]) False
noncomputable def andI (ts : Expr → Hp → (Bool → Hp → Prop) → Prop) (op : BoolOp) : List Expr → Hp → (Bool → Hp → Prop) → Prop
  | [], σ, K => K (match op with | .And => true | .Or => false) σ
  | e :: r, σ, K => ts e σ fun b σ1 => match op with
    | .And => cond b (andI ts op r σ1 K) (K false σ1)
    | .Or => cond b (K true σ1) (andI ts op r σ1 K)
/-- a chain of and | or as a value: tests of booleans alone -/
noncomputable def chainI (ev : Expr → Hp → KV → Prop) (op : BoolOp) : List Expr → Hp → KV → Prop
  | [], _, _ => False
  | [e], σ, K => ev e σ K
  | e :: r, σ, K => ev e σ fun v σ1 => truthI v fun b => match op with
    | .And => cond b (chainI ev op r σ1 K) (K v σ1)
    | .Or => cond b (K v σ1) (chainI ev op r σ1 K)
noncomputable def compI (I : In) (elt : Expr) (x : Str) (scope : Scope) (v : AV) (σ : Hp) (K : KV) : Prop := match v with
  | .loc n => (match lenAt σ n with
    | some k => compLoop (fun u σ1 K1 => I.ev scope elt [(x, u)] σ1 K1) n σ.length k 0 (σ ++ [.nums 0 (fun _ => 0)]) fun σ2 => K (.loc σ.length) σ2
    | none => False)
  | _ => False
noncomputable def noFree (scope : Scope) (x : Str) : Bool := plainScope scope && (match kindS x scope with | some .local => true | _ => false) && scope.names.all fun y => match y.2 with
  | .local => (match kindS y.1 scope with | some .local => true | _ => false)
  | _ => true
noncomputable def noSet : Expr → Bool
  | .Set _ _ _ => false
  | _ => true
noncomputable def plainBase : Expr → Bool
  | .Name _ _ => true
  | .Attribute _ _ _ => true
  | .Subscript _ _ _ => true
  | _ => false
noncomputable def kwNamed (k : Keyword) : Bool := k.arg.isSome
noncomputable def noStar : Expr → Bool
  | .Starred _ _ => false
  | _ => true
noncomputable def isNameE : Expr → Bool
  | .Name _ _ => true
  | _ => false
noncomputable def nmOf : Expr → Str
  | .Name x _ => x
  | _ => Str.empty
noncomputable def compPat : List Comprehension → Option (Str × Expr)
  | [g] => cond (isNameE g.target && g.ifs.isEmpty && decide (g.is_async = 0)) (some (nmOf g.target, g.iter)) none
  | _ => none
noncomputable def evB (G : Pg) (I : In) (sc : Scope) (e : Expr) (L : Loc) (σ : Hp) (K : KV) : Prop := match e with
  | .Constant c _ _ => constI c fun v => K v σ
  | .Name x _ => nameI G sc x L fun v => K v σ
  | .BinOp l op r _ => I.ev sc l L σ fun a σ1 => I.ev sc r L σ1 fun b σ2 => binI op a b σ2 K
  | .UnaryOp op x _ => I.ev sc x L σ fun a σ1 => unI op a fun v => K v σ1
  | .Compare l [op] [r] _ => cond (behindInMarks op r) False (I.ev sc l L σ fun a σ1 => I.ev sc r L σ1 fun b σ2 => cmpI op a b σ2 fun t => K (.bool t) σ2)
  | .IfExp t a b _ => I.ts sc t L σ fun c σ1 => cond c (I.ev sc a L σ1 K) (I.ev sc b L σ1 K)
  | .BoolOp op es _ => chainI (fun e σ1 K1 => I.ev sc e L σ1 K1) op es σ K
  | .Attribute o a _ => cond (plainBase o) (I.ev sc o L σ fun v σ1 => attrI G v a σ1 fun u => K u σ1) False
  | .Subscript o (.Slice lo hi none _) _ => I.ev sc o L σ fun v σ1 => optI (fun e σ1 K1 => I.ev sc e L σ1 K1) lo σ1 fun a σ2 => optI (fun e σ1 K1 => I.ev sc e L σ1 K1) hi σ2 fun b σ3 => sliceI G v a b σ3 K
  | .Subscript o i _ => I.ev sc o L σ fun v σ1 => I.ev sc i L σ1 fun w σ2 => itemI G v w σ2 fun u => K u σ2
  | .List es _ => cond (es.all noStar && Nat.blt es.length 1000) (seqI (fun e σ1 K1 => I.ev sc e L σ1 K1) es σ fun vs σ1 => K (.loc σ1.length) (σ1 ++ [mkList vs])) False
  | .Tuple es _ _ => cond (es.all noStar && Nat.blt es.length 1000) (seqI (fun e σ1 K1 => I.ev sc e L σ1 K1) es σ fun vs σ1 => K (.tup vs) σ1) False
  | .Call (.Attribute o m ap) args kws pos => cond (plainBase o && kws.isEmpty && Nat.beq ap.endLine pos.line && Nat.blt args.length 20 && args.all noStar) (I.ev sc o L σ fun v σ1 => calleeI G v m σ1 fun f first => seqI (fun e σ1 K1 => I.ev sc e L σ1 K1) args σ1 fun vs σ2 => I.ca f (first ++ vs) [] σ2 K) False
  | .Call f args kws _ => cond (args.all noStar && kws.all kwNamed) ( I.ev sc f L σ fun v σ1 => seqI (fun e σ1 K1 => I.ev sc e L σ1 K1) args σ1 fun vs σ2 => kwI (fun e σ1 K1 => I.ev sc e L σ1 K1) kws σ2 fun ks σ3 => I.ca v vs ks σ3 K) False
  | .ListComp elt gens scope _ => someK (compPat gens) fun q => cond (noFree scope q.1 && noSet q.2) (I.ev sc q.2 L σ fun v σ1 => compI I elt q.1 scope v σ1 K) False
  | _ => False
noncomputable def tsB (G : Pg) (I : In) (sc : Scope) (e : Expr) (L : Loc) (σ : Hp) (K : Bool → Hp → Prop) : Prop := match e with
  | .UnaryOp .Not x _ => I.ts sc x L σ fun b σ1 => K (!b) σ1
  | .BoolOp op es _ => andI (fun e σ1 K1 => I.ts sc e L σ1 K1) op es σ K
  | .IfExp t a b _ => I.ts sc t L σ fun c σ1 => cond c (I.ts sc a L σ1 K) (I.ts sc b L σ1 K)
  | .Compare l [op] [r] _ => cond (behindInMarks op r) False (I.ev sc l L σ fun a σ1 => I.ev sc r L σ1 fun b σ2 => cmpI op a b σ2 fun t => K t σ2)
  | .Compare _ _ _ _ => False
  | e => I.ev sc e L σ fun v σ1 => truthI v fun b => K b σ1
noncomputable def storeI (sc : Scope) (x : Str) (v : AV) (L : Loc) (K : Loc → Prop) : Prop := match kindS x sc with
  | some .local => K (putS x v L)
  | _ => False
noncomputable def itemsOf (σ : Hp) : AV → Option (List AV)
  | .tup vs => some vs
  | .loc n => (match nth σ n with
    | some (.nums k f) => cond (decide (k ≤ 8)) (some ((List.range k).map fun i => .int (f i))) none
    | some (.list vs) => some vs
    | _ => none)
  | _ => none
noncomputable def asg1 (I : In) (sc : Scope) (t : Expr) (v : AV) (L : Loc) (σ : Hp) (K : Loc → Hp → Prop) : Prop := match t with
  | .Name x _ => storeI sc x v L fun L1 => K L1 σ
  | .Attribute o a _ => I.ev sc o L σ fun u σ1 => setAttrI u a v σ1 fun σ2 => K L σ2
  | .Subscript _ (.Slice _ _ _ _) _ => False
  | .Subscript o i _ => I.ev sc o L σ fun u σ1 => I.ev sc i L σ1 fun w σ2 => setItemI u w v σ2 fun σ3 => K L σ3
  | _ => False
noncomputable def asgs (I : In) (sc : Scope) : List Expr → List AV → Loc → Hp → (Loc → Hp → Prop) → Prop
  | [], [], L, σ, K => K L σ
  | t :: ts, v :: vs, L, σ, K => asg1 I sc t v L σ fun L1 σ1 => asgs I sc ts vs L1 σ1 K
  | _, _, _, _, _ => False
noncomputable def noStarT : Expr → Bool
  | .Starred _ _ => false
  | _ => true
noncomputable def asgI (I : In) (sc : Scope) (t : Expr) (v : AV) (L : Loc) (σ : Hp) (K : Loc → Hp → Prop) : Prop := match t with
  | .Tuple ts _ _ => (match itemsOf σ v with
    | some vs => cond (ts.all noStarT && Nat.beq ts.length vs.length) (asgs I sc ts vs L σ K) False
    | none => False)
  | t => asg1 I sc t v L σ K
noncomputable def forI (I : In) (sc : Scope) (t : Expr) (bo : List Stmt) (v : AV) (L : Loc) (σ : Hp) (K : KF) : Prop := match v with
  | .rng a b => cond (decide (0 ≤ a) && decide (a ≤ 1000000) && decide (0 ≤ b) && decide (b ≤ 1000000)) (genLoop (rangeSrc (b - a).toNat a) (stmtsI (I.ex sc) bo) (asgI I sc t) (b - a).toNat 0 L σ K) False
  | .loc n => someK (lenAt σ n) fun k => listLoop (stmtsI (I.ex sc) bo) (asgI I sc t) n false k 0 L σ K
  | _ => False
noncomputable def isGlob : Option NameKind → Bool
  | some .globalImplicit => true
  | _ => false
noncomputable def isEnumB (G : Pg) (sc : Scope) : Expr → Bool
  | .Call (.Name x _) [_] [] _ => eqS x "enumerate" && isGlob (kindS x sc) && (topFind x G.top).isNone
  | _ => false
noncomputable def argOf : Expr → Expr
  | .Call _ (e :: _) _ _ => e
  | e => e
noncomputable def callish : Expr → Bool
  | .Call _ _ _ _ => true
  | _ => false
noncomputable def noComp : Expr → Bool
  | .ListComp _ _ _ _ => false
  | .SetComp _ _ _ _ => false
  | .DictComp _ _ _ _ _ => false
  | _ => true
noncomputable def isName : Expr → Bool
  | .Name _ _ => true
  | _ => false
noncomputable def noSwap : Expr → Expr → Bool
  | .Tuple (t :: _) _ _, .Tuple _ _ _ => !isName t
  | .List _ _, _ => false
  | _, _ => true
noncomputable def isTup : Expr → Bool
  | .Tuple _ _ _ => true
  | _ => false
noncomputable def okTarget : Expr → Bool
  | .Name _ _ => true
  | .Tuple _ _ _ => true
  | _ => false
noncomputable def exB (G : Pg) (I : In) (sc : Scope) (st : Stmt) (L : Loc) (σ : Hp) (K : KF) : Prop := match st with
  | .Expr e _ => cond (callish e) (I.ev sc e L σ fun _ σ1 => K .next L σ1) False
  | .Pass _ => K .next L σ
  | .Break _ => K .brk L σ
  | .Return (some e) _ => I.ev sc e L σ fun v σ1 => K (.ret v) L σ1
  | .Return none _ => K (.ret .none) L σ
  | .Assign [t] e _ => cond (noComp e && noSwap t e) (I.ev sc e L σ fun v σ1 => asgI I sc t v L σ1 fun L1 σ2 => K .next L1 σ2) False
  | .AugAssign (.Name x _) op e _ => nameI G sc x L fun a => I.ev sc e L σ fun b σ1 => inplI op a b σ1 fun v σ2 => storeI sc x v L fun L1 => K .next L1 σ2
  | .AugAssign (.Attribute o a _) op e _ => I.ev sc o L σ fun u σ1 => attrI G u a σ1 fun v => I.ev sc e L σ1 fun w σ2 => inplI op v w σ2 fun r σ3 => setAttrI u a r σ3 fun σ4 => K .next L σ4
  | .AugAssign (.Subscript _ (.Slice _ _ _ _) _) _ _ _ => False
  | .AugAssign (.Subscript o i _) op e _ => I.ev sc o L σ fun u σ1 => I.ev sc i L σ1 fun w σ2 => itemI G u w σ2 fun v => I.ev sc e L σ2 fun x σ3 => inplI op v x σ3 fun r σ4 => setItemI u w r σ4 fun σ5 => K .next L σ5
  | .If t b o _ => I.ts sc t L σ fun c σ1 => cond c (stmtsI (I.ex sc) b L σ1 K) (stmtsI (I.ex sc) o L σ1 K)
  | .For t it bo [] _ => cond (okTarget t) (cond (isEnumB G sc it) (cond (isTup t && noStar (argOf it)) (I.ev sc (argOf it) L σ fun v σ1 => locK [v] fun n => someK (lenAt σ1 n) fun k => listLoop (stmtsI (I.ex sc) bo) (asgI I sc t) n true k 0 L σ1 K) False)
    (cond (noSet it) (I.ev sc it L σ fun v σ1 => forI I sc t bo v L σ1 K) False)) False
  | _ => False
noncomputable def mkIn (G : Pg) (I : In) : In := ⟨evB G I, tsB G I, caB G I, exB G I⟩
noncomputable def inN (G : Pg) : Nat → In
  | 0 => inFail
  | n + 1 => mkIn G (inN G n)
end Mine
end
section
set_option maxRecDepth 100000
set_option linter.unusedVariables false
open PySem PySem.W PyProof.Rows PySem.Claim2Try PySem.Pin
namespace Mine

noncomputable def no : Value → Shared → Prop := fun _ _ => False
noncomputable def PV (B : Bs) (ρ : Rho) (h : Heap) (K : KV) : Value → Shared → Prop := fun w s' => ∃ v σ' ρ', RepV B s'.heap ρ' v w ∧ St B ρ' σ' s' ∧ Ext [] h ρ s'.heap ρ' ∧ K v σ'
noncomputable def PB (B : Bs) (ρ : Rho) (h : Heap) (K : Bool → Hp → Prop) : Bool → Shared → Prop := fun b s' => ∃ σ' ρ', St B ρ' σ' s' ∧ Ext [] h ρ s'.heap ρ' ∧ K b σ'
inductive RepF (B : Bs) (h : Heap) (ρ : Rho) : AF → Flow → Prop
  | next : RepF B h ρ .next .next
  | brk : RepF B h ρ .brk .brk
  | cont : RepF B h ρ .cont .cont
  | ret {v : AV} {w : Value} : RepV B h ρ v w → RepF B h ρ (.ret v) (.ret w)
noncomputable def PF (B : Bs) (ρ : Rho) (h : Heap) (env : Env) (K : KF) : Flow → Shared → Prop := fun f s' => ∃ fl L' σ' ρ', RepF B s'.heap ρ' fl f ∧ St B ρ' σ' s' ∧ Lo B env L' ρ' s'.heap ∧ Ext [env.locals] h ρ s'.heap ρ' ∧ K fl L' σ'
noncomputable def PU (B : Bs) (ρ : Rho) (h : Heap) (env : Env) (K : Loc → Hp → Prop) : Unit → Shared → Prop := fun _ s' => ∃ L' σ' ρ', St B ρ' σ' s' ∧ Lo B env L' ρ' s'.heap ∧ Ext [env.locals] h ρ s'.heap ρ' ∧ K L' σ'

/-- room for d more calls -/
structure AOk (d : Nat) (A : Around) : Prop where
  depth : A.depth + 2 * d ≤ 900
  units : A.units + 8 * d ≤ 9000
  handled : A.handled = none
structure EnvOk (env : Env) (sc : Scope) : Prop where
  scope : env.scope = sc
  kind : sc.kind = .function
  glob : env.globals = mainGlobals
  blt : env.builtins = builtinsNs
theorem EnvOk.kindOf {env : Env} {sc : Scope} (x : EnvOk env sc) (n : Str) : env.kindOf n = kindS n sc := by
  unfold Env.kindOf kindS
  rw [x.scope]
  induction sc.names with
  | nil => rfl
  | cons y r ih =>
    obtain ⟨y, k⟩ := y
    show List.lookup n ((y, k) :: r) = cond (eqS n y) (some k) (lookS n r)
    rw [List.lookup_cons]
    cases h : eqS n y with
    | true => rw [eqS_iff.mp h]; simp
    | false => rw [show (n == y) = false from beq_eq_false_iff_ne.mpr (eqS_ne h)]; exact ih
theorem ne_debug {x : Str} (h : eqS x debugName = false) : (x == ("__debug__" : Str)) = false := beq_eq_false_iff_ne.mpr (eqS_ne h)

/-- what the class has under a name -/
noncomputable abbrev ClsFact (B : Bs) : Stmt → Value → Prop := Made B.hb 0 "MPU" B.l
structure Ok (B : Bs) (G : Pg) : Prop where
  glob : B.hb.Ns mainGlobals B.mg
  blt : B.hb.Ns builtinsNs B.mb
  lim : B.hb.NoLimit
  fn : ∀ x pa bo sc, defOf (topFind x G.top) = some (pa, bo, sc) → ∃ v n, B.mg x = some v ∧ FnAt B.hb 0 v n n pa bo sc
  cls : ∀ x, isClsO (topFind x G.top) = true → B.mg x = some (.ref B.C)
  len : topFind "len" G.top = none → B.mg "len" = none ∧ B.mb "len" = some (.builtin "len")
  range : topFind "range" G.top = none → B.mg "range" = none ∧ B.mb "range" = some (.type "range")
  enum : topFind "enumerate" G.top = none → B.mg "enumerate" = none ∧ B.mb "enumerate" = some (.type "enumerate")
  cobj : ∃ nm q sub col k0 k1 k2 k3 k5, B.hb.get? B.C = some (excClassObj nm q B.C B.N [.type "object"] [.type "object"] true [] sub false col none k0 k1 k2 k3 k5 "object.__new__")
  names : NsL B.hb B.N B.l
  mem : ∀ x st, clsFind x G.body = some st → ∃ v, B.l.lookup x = some v ∧ ClsFact B st v
  plain : ∀ x st, clsFind x G.body = some st → copiedNames.contains x = false
  ivar : ∀ a, memS a ivars = true → B.l.lookup a = none ∧ fastBuiltinOwn "object" a = none ∧ typeLookup (.type "object") a = pure none ∧ copiedNames.contains a = false
  hooks : B.l.lookup (Str.ofString "__getattribute__") = none ∧ B.l.lookup (Str.ofString "__getattr__") = none ∧ B.l.lookup (Str.ofString "__setattr__") = none
  scr : ∃ its, B.hb.IsList B.scr its ∧ its.size = G.slen ∧ G.slen ≤ 1000000 ∧ ∀ i, i < G.slen → ∃ t, its[i]? = some (.int (G.scr i) t)

theorem condF {b : Bool} {p : Prop} (k : cond b p False) : b = true ∧ p := by cases b with | true => exact ⟨rfl, k⟩ | false => exact k.elim
theorem condT {b : Bool} {p : Prop} (k : cond b False p) : b = false ∧ p := by cases b with | false => exact ⟨rfl, k⟩ | true => exact k.elim
theorem condB {b : Bool} {p q : Prop} (k : cond b p q) : p ∨ q := by cases b with | true => exact .inl k | false => exact .inr k
theorem someK_inv {α : Type} {o : Option α} {K : α → Prop} (k : someK o K) : ∃ x, o = some x ∧ K x := by
  cases o with
  | some x => exact ⟨x, rfl, k⟩
  | none => exact False.elim k
theorem locK_inv {vs : List AV} {K : Nat → Prop} (k : locK vs K) : ∃ n, vs = [.loc n] ∧ K n := by
  cases vs with
  | nil => exact False.elim k
  | cons v r =>
    cases r with
    | nil =>
      cases v with
      | loc n => exact ⟨n, rfl, k⟩
      | _ => exact False.elim k
    | cons _ _ => exact False.elim (by cases v <;> exact k)
theorem numK_inv {vs : List AV} {K : Int → Prop} (k : numK vs K) : ∃ n, vs = [.int n] ∧ K n := by
  cases vs with
  | nil => exact False.elim k
  | cons v r =>
    cases r with
    | nil =>
      cases v with
      | int n => exact ⟨n, rfl, k⟩
      | _ => exact False.elim k
    | cons _ _ => exact False.elim (by cases v <;> exact k)
theorem Ok.meth {B : Bs} {G : Pg} (ok : Ok B G) {x : Str} {pa : Arguments} {bo : List Stmt} {sc : Scope} (h : defOf (clsFind x G.body) = some (pa, bo, sc)) : ∃ v n q, B.l.lookup x = some v ∧ FnAt B.hb 0 v n q pa bo sc := by
  cases hst : clsFind x G.body with
  | none => rw [hst] at h; cases h
  | some st =>
    rw [hst] at h
    obtain ⟨v, hl, m⟩ := ok.mem x st hst
    cases m with
    | asg _ => cases h
    | lst _ _ _ => cases h
    | fn f => cases h; exact ⟨v, _, _, hl, f⟩
theorem FnAt.ref {h : Heap} {lo : Nat} {v : Value} {name qual : Str} {pa : Arguments} {bo : List Stmt} {sc : Scope} (fn : FnAt h lo v name qual pa bo sc) : ∃ a o fd, v = .ref a ∧ h.get? a = some o ∧ o.cls = .type "function" ∧ o.data = .func fd := by
  obtain ⟨a, dV, pm, c, doc, P, dv, rfl, _, _, _, hf, _⟩ := fn
  exact ⟨a, _, _, rfl, hf, rfl, rfl⟩
section
variable {prog : Program} {w : World} {B : Bs} {G : Pg} {A : Around} {env : Env} {sc : Scope} {ρ ρ' : Rho} {σ : Hp} {s : Shared} {L : Loc} {h : Heap}
theorem PV.up {K : KV} {h1 : Heap} {ρ1 : Rho} {v : Value} {s' : Shared} (e : Ext [] h ρ h1 ρ1) (x : PV B ρ1 h1 K v s') : PV B ρ h K v s' := by
  obtain ⟨a, σ', ρ', r, S, e2, k⟩ := x
  exact ⟨a, σ', ρ', r, S, e.trans e2, k⟩
theorem PB.up {K : Bool → Hp → Prop} {h1 : Heap} {ρ1 : Rho} {v : Bool} {s' : Shared} (e : Ext [] h ρ h1 ρ1) (x : PB B ρ1 h1 K v s') : PB B ρ h K v s' := by
  obtain ⟨σ', ρ', S, e2, k⟩ := x
  exact ⟨σ', ρ', S, e.trans e2, k⟩
theorem PF.up {K : KF} {h1 : Heap} {ρ1 : Rho} {v : Flow} {s' : Shared} (e : Ext [env.locals] h ρ h1 ρ1) (x : PF B ρ1 h1 env K v s') : PF B ρ h env K v s' := by
  obtain ⟨a, b, σ', ρ', r, S, l, e2, k⟩ := x
  exact ⟨a, b, σ', ρ', r, S, l, e.trans e2, k⟩
theorem PU.up {K : Loc → Hp → Prop} {h1 : Heap} {ρ1 : Rho} {v : Unit} {s' : Shared} (e : Ext [env.locals] h ρ h1 ρ1) (x : PU B ρ1 h1 env K v s') : PU B ρ h env K v s' := by
  obtain ⟨b, σ', ρ', S, l, e2, k⟩ := x
  exact ⟨b, σ', ρ', S, l, e.trans e2, k⟩
theorem Ext.loc {X : List Addr} {h h' : Heap} {ρ ρ' : Rho} (e : Ext [] h ρ h' ρ') : Ext X h ρ h' ρ' := e.mono fun _ q => nomatch q
/-- one value, then the rest -/
theorem wpAny_then {α : Type} {M : Model} {t : Sem Value} {f : Value → Sem α} {K : KV} {Q : α → Shared → Prop} (a : wpAny M A t (PV B ρ h K) no s)
    (b : ∀ v w σ1 ρ1 s1, RepV B s1.heap ρ1 v w → St B ρ1 σ1 s1 → Ext [] h ρ s1.heap ρ1 → K v σ1 → wpAny M A (f w) Q no s1) : wpAny M A (t >>= f) Q no s :=
  wpAny_bind (wpAny_mono a (fun w s1 ⟨v, σ1, ρ1, r, S, e, k⟩ => b v w σ1 ρ1 s1 r S e k) fun _ _ x => x)
theorem wpAny_got {M : Model} {t : Sem Value} {K : KV} {Q : Value → Shared → Prop} (a : wpAny M A t (PV B ρ h K) no s)
    (b : ∀ v w σ1 ρ1 s1, RepV B s1.heap ρ1 v w → St B ρ1 σ1 s1 → Ext [] h ρ s1.heap ρ1 → K v σ1 → Q w s1) : wpAny M A t Q no s :=
  wpAny_mono a (fun w s1 ⟨v, σ1, ρ1, r, S, e, k⟩ => b v w σ1 ρ1 s1 r S e k) fun _ _ x => x
theorem wpAny_gotB {M : Model} {t : Sem Bool} {K : Bool → Hp → Prop} {Q : Bool → Shared → Prop} (a : wpAny M A t (PB B ρ h K) no s)
    (b : ∀ c σ1 ρ1 s1, St B ρ1 σ1 s1 → Ext [] h ρ s1.heap ρ1 → K c σ1 → Q c s1) : wpAny M A t Q no s :=
  wpAny_mono a (fun w s1 ⟨σ1, ρ1, S, e, k⟩ => b w σ1 ρ1 s1 S e k) fun _ _ x => x
theorem wpAny_gotF {M : Model} {t : Sem Flow} {K : KF} {Q : Flow → Shared → Prop} (a : wpAny M A t (PF B ρ h env K) no s)
    (b : ∀ fl f L1 σ1 ρ1 s1, RepF B s1.heap ρ1 fl f → St B ρ1 σ1 s1 → Lo B env L1 ρ1 s1.heap → Ext [env.locals] h ρ s1.heap ρ1 → K fl L1 σ1 → Q f s1) : wpAny M A t Q no s :=
  wpAny_mono a (fun w s1 ⟨fl, L1, σ1, ρ1, r, S, l, e, k⟩ => b fl w L1 σ1 ρ1 s1 r S l e k) fun _ _ x => x
theorem wpAny_gotU {M : Model} {t : Sem Unit} {K : Loc → Hp → Prop} {Q : Unit → Shared → Prop} (a : wpAny M A t (PU B ρ h env K) no s)
    (b : ∀ L1 σ1 ρ1 s1, St B ρ1 σ1 s1 → Lo B env L1 ρ1 s1.heap → Ext [env.locals] h ρ s1.heap ρ1 → K L1 σ1 → Q () s1) : wpAny M A t Q no s :=
  wpAny_mono a (fun w s1 ⟨L1, σ1, ρ1, S, l, e, k⟩ => b L1 σ1 ρ1 s1 S l e k) fun _ _ x => x
theorem PV.of {K : KV} {v : AV} {w : Value} {s' : Shared} (r : RepV B s'.heap ρ' v w) (S : St B ρ' σ s') (e : Ext [] h ρ s'.heap ρ') (k : K v σ) : PV B ρ h K w s' := ⟨v, σ, ρ', r, S, e, k⟩

theorem sound_const {c : Const} {n : Nat} {pos : Pos} {K : KV} (k : constI c fun v => K v σ) (S : St B ρ σ s) : wpAny (model prog w) A (eval (.Constant c n pos) env) (PV B ρ s.heap K) no s := by
  cases c with
  | none => exact wpAny_pure (PV.of .none S (.refl ..) k)
  | bool b => exact wpAny_pure (PV.of (.bool b) S (.refl ..) k)
  | int i => exact wpAny_Constant_int (PV.of (.int i _) (S.toks) (.refl ..) k)
  | str x => exact Calls.Constant_str (PV.of (.str x _) (S.toks) (.refl ..) k)
  | float _ => exact k.elim
  | complex _ _ => exact k.elim
  | bytes _ => exact k.elim
  | ellipsis => exact k.elim
theorem sound_load {x : Str} {K : AV → Prop} {Q : Value → Shared → Prop} (ok : Ok B G) (k : nameI G sc x L K) (eo : EnvOk env sc) (S : St B ρ σ s) (l : Lo B env L ρ s.heap) (q : ∀ v w, RepV B s.heap ρ v w → K v → Q w s) :
    wpAny (model prog w) A (loadName env x) Q no s ∧ eqS x debugName = false := by
  unfold nameI at k
  cases hk : kindS x sc with
  | none => rw [hk] at k; exact k.elim
  | some kd =>
    rw [hk] at k
    cases kd with
    | «local» =>
      have k : localI x (lookS x L) K := k
      cases hv : lookS x L with
      | none => rw [hv] at k; exact k.elim
      | some v =>
        rw [hv] at k
        obtain ⟨hd, k⟩ := condT k
        obtain ⟨m, hn, hm⟩ := l.ns
        obtain ⟨u, hu, r⟩ := hm x v hv
        exact ⟨wpAny_loadName_local (eo.scope ▸ eo.kind) ((eo.kindOf x).trans hk) hn hu (q v u r k), hd⟩
    | globalImplicit =>
      obtain ⟨hd, k⟩ := condT k
      refine ⟨?_, hd⟩
      rw [loadName_read (eo.scope ▸ eo.kind) ((eo.kindOf x).trans hk)]
      have hg : s.heap.Ns env.globals B.mg := by rw [eo.glob]; exact ok.glob.keeps S.keep
      have hb : s.heap.Ns env.builtins B.mb := by rw [eo.blt]; exact ok.blt.keeps S.keep
      unfold globI at k
      cases h1 : (defOf (topFind x G.top)).isSome with
      | true =>
        rw [h1] at k
        obtain ⟨⟨pa, bo, sc'⟩, hd⟩ := Option.isSome_iff_exists.mp h1
        obtain ⟨v, _, hv, _⟩ := ok.fn _ _ _ _ hd
        exact Calls.loadGlobal_global hg hv (q _ v (.fn x v hv) k)
      | false =>
        rw [h1] at k
        cases h2 : isClsO (topFind x G.top) with
        | true => rw [h2] at k; exact Calls.loadGlobal_global hg (ok.cls _ h2) (q _ _ .cls k)
        | false =>
          rw [h2] at k
          obtain ⟨ht, k⟩ := condF k
          have ht := Option.isNone_iff_eq_none.mp ht
          have k : globB x K := k
          unfold globB at k
          cases h1 : eqS x "len" with
          | true =>
            rw [h1] at k
            rw [eqS_iff.mp h1] at ht ⊢
            exact Calls.loadGlobal_builtin hg (ok.len ht).1 hb (ok.len ht).2 (q _ _ (.bi _) k)
          | false =>
            rw [h1] at k
            cases h2 : eqS x "range" with
            | true =>
              rw [h2] at k
              rw [eqS_iff.mp h2] at ht ⊢
              exact Calls.loadGlobal_builtin hg (ok.range ht).1 hb (ok.range ht).2 (q _ _ (.ty _) k)
            | false =>
              rw [h2] at k
              obtain ⟨h3, k⟩ := condF k
              rw [eqS_iff.mp h3] at ht ⊢
              exact Calls.loadGlobal_builtin hg (ok.enum ht).1 hb (ok.enum ht).2 (q _ _ (.ty _) k)
    | _ => exact k.elim
theorem sound_name {x : Str} {pos : Pos} {K : KV} (ok : Ok B G) (k : nameI G sc x L fun v => K v σ) (eo : EnvOk env sc) (S : St B ρ σ s) (l : Lo B env L ρ s.heap) :
    wpAny (model prog w) A (eval (.Name x pos) env) (PV B ρ s.heap K) no s := by
  obtain ⟨a, b⟩ := sound_load (prog := prog) (w := w) (A := A) (Q := PV B ρ s.heap K) ok k eo S l fun v u r kk => PV.of r S (.refl ..) kk
  exact wpAny_Name a (ne_debug b)

/-- two numbers -/
theorem small_lt {a : Int} (h : small a = true) : a.natAbs < 2 ^ 64 := of_decide_eq_true h
theorem sound_arith {op : Operator} {x y : Int} {t u : Tok} {K : Int → Prop} {Q : Value → Shared → Prop} (k : arithI op x y K) (q : ∀ z, K z → Q (.int z s.toks) { s with toks := s.toks + 1 }) :
    wpAny (model prog w) A (binaryOp op (.int x t) (.int y u)) Q no s := by
  cases op with
  | Add => exact PyProof.Rows.add_int (q _ k)
  | Sub => exact PyProof.Rows.sub_int (q _ k)
  | Mult =>
    have k : cond (small x && small y) (K (x * y)) False := k
    cases hs : small x && small y with
    | false => rw [hs] at k; exact k.elim
    | true =>
      rw [hs] at k
      rw [Bool.and_eq_true] at hs
      have h1 := small_lt hs.1
      have h2 := small_lt hs.2
      exact mul_int (q _ k) (by mul_fits)
  | BitAnd => exact and_int (q _ k)
  | BitOr => exact or_int (q _ k)
  | BitXor => exact xor_int (q _ k)
  | LShift =>
    have k : cond (decide (0 ≤ y) && decide (y ≤ 1000000) && small x) (K (x * 2 ^ y.toNat)) False := k
    cases hs : decide (0 ≤ y) && decide (y ≤ 1000000) && small x with
    | false => rw [hs] at k; exact k.elim
    | true =>
      rw [hs] at k
      simp only [Bool.and_eq_true, decide_eq_true_eq] at hs
      exact lshift_int_small hs.1.1 hs.1.2 (small_lt hs.2) (q _ k)
  | RShift =>
    have k : cond (decide (0 ≤ y)) (K (x.fdiv (2 ^ y.toNat))) False := k
    cases hs : decide (0 ≤ y) with
    | false => rw [hs] at k; exact k.elim
    | true => rw [hs] at k; exact rshift_int (of_decide_eq_true hs) (q _ k)
  | FloorDiv =>
    have k : cond (decide (y = 0) || !decide (y.natAbs < 1073741824)) False (K (x.fdiv y)) := k
    cases hs : decide (y = 0) || !decide (y.natAbs < 1073741824) with
    | true => rw [hs] at k; exact k.elim
    | false =>
      rw [hs] at k
      simp only [Bool.or_eq_false_iff, decide_eq_false_iff_not, Bool.not_eq_false', decide_eq_true_eq] at hs
      exact floordiv_int hs.1 (q _ k) (Or.inl (PyProof.noPylong_small hs.2))
  | Mod =>
    have k : cond (decide (y = 0)) False (K (x.fmod y)) := k
    cases hs : decide (y = 0) with
    | true => rw [hs] at k; exact k.elim
    | false => rw [hs] at k; exact mod_int' (of_decide_eq_false hs) (q _ k)
  | Pow =>
    have k : cond (decide (0 ≤ y) && decide (y ≤ 1000000) && small x) (K (x ^ y.toNat)) False := k
    cases hs : decide (0 ≤ y) && decide (y ≤ 1000000) && small x with
    | false => rw [hs] at k; exact k.elim
    | true =>
      rw [hs] at k
      simp only [Bool.and_eq_true, decide_eq_true_eq] at hs
      exact pow_int_small hs.1.1 hs.1.2 (small_lt hs.2) (q _ k)
  | MatMult => exact k.elim
  | Div => exact k.elim
end
end Mine
end
section
set_option maxRecDepth 100000
set_option linter.unusedVariables false
open PySem PySem.W PyProof.Rows PySem.Claim2Try PySem.Pin
namespace Mine
section
variable {prog : Program} {w : World} {A : Around} {E : Value → Shared → Prop} {s : Shared}
theorem isList_x {h : Heap} {l : Addr} {its : Array Value} {e : Nat} (ho : h.get? l = some (listOf its e)) : h.IsList l its := ⟨_, ho, rfl, e, rfl⟩
/-- a store into a list, told whole -/
theorem setItem_x {l : Addr} {its : Array Value} {e : Nat} {k : Int} {t : Tok} {v : Value} {Q : Unit → Shared → Prop} (ho : s.heap.get? l = some (listOf its e)) (h0 : 0 ≤ k) (hn : k < its.size) (hs : its.size ≤ 1000000)
    (hQ : ∀ h' e', h'.get? l = some (listOf (its.setIfInBounds k.toNat v) e') → Heap.SameBut l s.heap h' → Q () { s with heap := h' }) : wpAny (model prog w) A (setItem (.ref l) (.int k t) v) Q E s := by
  have hl := isList_x ho
  unfold setItem
  try with_reducible refine wpAny_holding ?_
  first | refine wpAny_bind (wpAny_pure ?_) | skip
  refine wpAny_bind (wpAny_sequenceKey hl.typeIs (by decide) ?_)
  refine wpAny_bind (wpAny_callSpecial?_slot (name := Str.ofString "__setitem__") hl.typeIs slot_list_setitem
    (wpAny_call_entry slot_list_setitem hl.typeIs entry_list_setitem ?_ (args_list_setitem _ _ _)))
  show wpAny _ _ (Builtin.List.listSubscript? (.int k t) >>= _) _ _ s
  refine wpAny_bind (wpAny_listSubscript_int (fitsIndex_of h0 (by omega)) ?_)
  obtain ⟨j, rfl⟩ := Int.eq_ofNat_of_zero_le h0
  have hj : j < its.size := by omega
  show wpAny _ _ ((seqItemAt l j >>= fun r => pure (r.map (j, ·))) >>= _) _ _ s
  refine wpAny_bind (wpAny_bind (wpAny_seqItemAt ho rfl (wpAny_pure ?_)))
  rw [Array.getElem?_eq_getElem hj]
  show wpAny _ _ (setSeqItemAt l j v >>= _) _ _ s
  refine wpAny_bind (wpAny_setSeqItemAt ho rfl ?_)
  have fin : (s.heap.update l (Obj.mapSeq (·.setIfInBounds j v))).get? l = some (listOf (its.setIfInBounds j v) _) := Heap.get?_update_self _ ho rfl
  first
    | exact wpAny_bind (wpAny_pure (wpAny_pure ⟨.none, rfl, wpAny_pure (hQ _ _ fin (Heap.SameBut.update ..))⟩))
    | exact wpAny_pure ⟨.none, rfl, wpAny_pure (hQ _ _ fin (Heap.SameBut.update ..))⟩
theorem concat_x {l b : Addr} {its jts : Array Value} {e f : Nat} {Q : Value → Shared → Prop} (ho : s.heap.get? l = some (listOf its e)) (hb : s.heap.get? b = some (listOf jts f)) (hs : its.size + jts.size ≤ 1000000)
    (hQ : Q (.ref s.heap.objs.size) { s with heap := s.heap.push (listOf (its ++ jts) 0) }) : wpAny (model prog w) A (binaryOp .Add (.ref l) (.ref b)) Q E s :=
  PySem.concat_meets ⟨_, ho, rfl⟩ ⟨_, hb, rfl⟩ noFill_list_add seq_list_add PySem.F.slot_list_add PySem.F.entry_list_add (PySem.F.args_list_add_2 _ _) (list_addW l b its jts e f none none #[] #[] (by rw [sizeLine]; omega)) ⟨ho, hb, hQ⟩
theorem mul_x {l : Addr} {its : Array Value} {e : Nat} {x : Int} {u : Tok} {Q : Value → Shared → Prop} (ho : s.heap.get? l = some (listOf its e)) (h0 : 0 ≤ x) (hs : its.size * x.toNat ≤ 1000000) (hx : x ≤ 1000000)
    (hQ : Q (.ref s.heap.objs.size) { s with heap := s.heap.push (listOf (List.foldl (fun x1 x2 => x1 ++ x2) #[] (List.replicate (if its.isEmpty = true then 0 else x.toNat) its)) 0) }) :
    wpAny (model prog w) A (binaryOp .Mult (.ref l) (.int x u)) Q E s :=
  wpAny_binaryOp_repeat_ref (T := "list") (U := "int") (by decide) ⟨_, ho, rfl⟩ (fun s' => typeIs_int s' x u) noFill_list_mul F.fills_int_mul F.slot_int_rmul repeat_list F.slot_int_index.lookup
    (call_meets F.slot_int_rmul (typeIs_int s x u) F.entry_int_rmul (F.args_int_rmul_2 _ _) (int___rmul___int_list x u l its e)
      ⟨ho, rfl, ⟨_, ho, rfl⟩, call_meets F.slot_list_mul ⟨_, ho, rfl⟩ F.entry_list_mul (F.args_list_mul_2 _ _)
        (AutoListH.list___mul___list_int_3 l its e x u (by simp [Builtin.List.listFitsIndex]; omega) (by omega) (by simp [Builtin.List.listTooLong, sizeLine]; omega))
        ⟨ho, hQ⟩⟩)
theorem no_fillI : fillsInplaceSlot (.type "list") "add" (Operator.Add == .Add) = pure false := by
  unfold fillsInplaceSlot
  show (typeLookup (.type "list") (dunderI "add") >>= fun fi => pure (fi.isSome && !isSeqSlot fi)) = pure false
  rw [F.slot_list_iadd.lookup]
  show (pure ((some (Value.builtin "list.__iadd__")).isSome && !isSeqSlot (some (.builtin "list.__iadd__"))) : Sem Bool) = _
  rw [show ((some (Value.builtin "list.__iadd__")).isSome && !isSeqSlot (some (.builtin "list.__iadd__"))) = false by decide +kernel]
theorem seqI_list : seqSlot? (.type "list") (dunderI "add") = pure (some (.builtin "list.__iadd__")) := PyProof.Rows.seqSlot_of F.slot_list_iadd.lookup (by decide +kernel)
theorem iadd_x {l b : Addr} {its jts : Array Value} {e f : Nat} {Q : Value → Shared → Prop} (ho : s.heap.get? l = some (listOf its e)) (hb : s.heap.get? b = some (listOf jts f)) (hs : its.size + jts.size ≤ 1000000)
    (hQ : ∀ h' e', h'.get? l = some (listOf (its ++ jts) e') → Heap.SameBut l s.heap h' → Q (.ref l) { s with heap := h' }) : wpAny (model prog w) A (inplaceOp .Add (.ref l) (.ref b)) Q E s := by
  unfold inplaceOp
  refine wpAny_holding ?_
  refine wpAny_bind (wpAny_typeOf (T := "list") ⟨_, ho, rfl⟩ (wpAny_bind (wpAny_of_eq no_fillI ?_)))
  show wpAny _ A (if false = true then _ else _) Q E s
  rw [if_neg Bool.false_ne_true]
  refine wpAny_bind (PyProof.Rows.binaryOp1_none (T := "list") (nm := "add") ⟨_, ho, rfl⟩ ⟨_, hb, rfl⟩ noFill_list_add ?_)
  refine wpAny_bind (wpAny_of_eq seqI_list ?_)
  refine wpAny_bind (wpAny_rule ?_)
  refine call_meets F.slot_list_iadd ⟨_, ho, rfl⟩ F.entry_list_iadd (F.args_list_iadd_2 _ _) (AutoSeq1.list___iadd___list_list_0 l its e b jts f (by simp [Builtin.List.listTooLong, sizeLine]; omega) (by rw [sizeLine]; omega) (by rw [sizeLine]; omega)) ⟨ho, hb, ?_⟩
  exact hQ _ _ (Heap.get?_update_self _ ho rfl) (Heap.SameBut.update ..)
end
end Mine
end
section
set_option maxRecDepth 100000
set_option linter.unusedVariables false
open PySem PySem.W PyProof.Rows PySem.Claim2Try PySem.Pin
namespace Mine
theorem nth_eq {α : Type} : ∀ (l : List α) (n : Nat), nth l n = l[n]?
  | [], _ => rfl
  | _ :: _, 0 => rfl
  | _ :: r, n + 1 => by rw [List.getElem?_cons_succ]; exact nth_eq r n
theorem setN_eq {α : Type} : ∀ (l : List α) (n : Nat) (x : α), setN l n x = l.set n x
  | [], _, _ => rfl
  | _ :: _, 0, _ => rfl
  | _ :: r, n + 1, x => by rw [List.set_cons_succ]; exact congrArg _ (setN_eq r n x)
section
variable {prog : Program} {w : World} {B : Bs} {G : Pg} {A : Around} {env : Env} {sc : Scope} {ρ ρ' : Rho} {σ : Hp} {s : Shared} {L : Loc} {h : Heap}
theorem RepV.loc_inv {n : Nat} {v : Value} (r : RepV B h ρ (.loc n) v) : ∃ p, ρ[n]? = some p ∧ v = .ref p.1 := by cases r with | loc _ p hp => exact ⟨p, hp, rfl⟩
theorem RepV.int_inv {i : Int} {v : Value} (r : RepV B h ρ (.int i) v) : ∃ t, v = .int i t := by cases r with | int _ t => exact ⟨t, rfl⟩
theorem RepV.str_inv {i : Str} {v : Value} (r : RepV B h ρ (.str i) v) : ∃ t, v = .str i t := by cases r with | str _ t => exact ⟨t, rfl⟩
theorem RepV.bool_inv {i : Bool} {v : Value} (r : RepV B h ρ (.bool i) v) : v = .bool i := by cases r; rfl
theorem RepV.none_inv {v : Value} (r : RepV B h ρ .none v) : v = .none := by cases r; rfl
theorem RepV.tup_inv {vs : List AV} {v : Value} (r : RepV B h ρ (.tup vs) v) : ∃ a its e, v = .ref a ∧ NotOwn ρ a ∧ h.get? a = some (tupObj its e) ∧ RepVs B h ρ vs its.toList := by cases r with | tup _ a its e h1 h2 h3 => exact ⟨a, its, e, rfl, h1, h2, h3⟩
theorem St.nums (S : St B ρ σ s) {n N : Nat} {f : Nat → Int} {v : Value} (ho : nth σ n = some (.nums N f)) (r : RepV B s.heap ρ (.loc n) v) :
    ∃ p its e, ρ[n]? = some p ∧ v = .ref p.1 ∧ p.2 = p.1 ∧ s.heap.get? p.1 = some (listOf its e) ∧ its.size = N ∧ N ≤ 1000000 ∧ ∀ i, i < N → ∃ t, its[i]? = some (.int (f i) t) := by
  obtain ⟨p, hp, rfl⟩ := r.loc_inv
  rw [nth_eq] at ho
  obtain ⟨e1, its, e, a, b, c, d⟩ := S.obj n p _ hp ho
  exact ⟨p, its, e, hp, rfl, e1, a, b, c, d⟩
/-- a new list of numbers -/
theorem St.newNums (S : St B ρ σ s) {its : Array Value} {e N : Nat} {f : Nat → Int} (hs : its.size = N) (hN : N ≤ 1000000) (hf : ∀ i, i < N → ∃ t, its[i]? = some (.int (f i) t)) (tk : Nat) (d : Drawn) :
    St B (ρ ++ [(s.heap.objs.size, s.heap.objs.size)]) (σ ++ [.nums N f]) ⟨s.heap.push (listOf its e), s.gens, d, tk, s.os⟩ ∧ Ext [] s.heap ρ (s.heap.push (listOf its e)) (ρ ++ [(s.heap.objs.size, s.heap.objs.size)]) :=
  S.new (fun b o e => Heap.get?_push_of_some _ e) (get?_size _) (get?_size _) ⟨_, Heap.get?_push_size _ rfl⟩ ⟨_, Heap.get?_push_size _ rfl⟩
    ⟨rfl, its, e, Heap.get?_push_size _ rfl, hs, hN, hf⟩
theorem St.lenAt (S : St B ρ σ s) {p : Addr × Addr} : (ρ ++ [p])[σ.length]? = some p := by rw [← S.len, List.getElem?_append_right (Nat.le_refl _), Nat.sub_self]; rfl
theorem getElem_append_ints {its jts : Array Value} {p q : Nat} {f g : Nat → Int} (h1 : its.size = p) (h2 : jts.size = q) (hf : ∀ i, i < p → ∃ t, its[i]? = some (.int (f i) t)) (hg : ∀ i, i < q → ∃ t, jts[i]? = some (.int (g i) t)) :
    ∀ i, i < p + q → ∃ t, (its ++ jts)[i]? = some (.int (appF p f g i) t) := by
  intro i hi
  unfold appF
  rcases Nat.lt_or_ge i p with hl | hl
  · rw [show Nat.blt i p = true from Nat.blt_eq.mpr hl, Array.getElem?_append_left (by omega)]
    exact hf i hl
  · rw [show Nat.blt i p = false by rw [Bool.eq_false_iff]; intro q; rw [Nat.blt_eq] at q; omega, Array.getElem?_append_right (by omega), h1]
    exact hg (i - p) (by omega)
theorem rep_get {its : Array Value} (hs : 0 < its.size) : ∀ (k : Nat) (acc : Array Value) (i : Nat), i < its.size * k → (List.foldl (fun x1 x2 => x1 ++ x2) acc (List.replicate k its))[acc.size + i]? = its[i % its.size]?
  | 0, acc, i, hi => absurd hi (by simp)
  | k + 1, acc, i, hi => by
    rw [List.replicate_succ, List.foldl_cons]
    rcases Nat.lt_or_ge i its.size with hl | hl
    · rw [Nat.mod_eq_of_lt hl]
      have pre : ∀ (k : Nat) (a : Array Value) (j : Nat), j < a.size → (List.foldl (fun x1 x2 => x1 ++ x2) a (List.replicate k its))[j]? = a[j]? := by
        intro k
        induction k with
        | zero => intro a j _; rfl
        | succ k ih =>
          intro a j hj
          rw [List.replicate_succ, List.foldl_cons, ih _ j (by rw [Array.size_append]; omega), Array.getElem?_append_left hj]
      rw [pre k _ _ (by rw [Array.size_append]; omega), Array.getElem?_append_right (by omega)]
      congr 1
      omega
    · have e : acc.size + i = (acc ++ its).size + (i - its.size) := by rw [Array.size_append]; omega
      rw [e, rep_get hs k (acc ++ its) (i - its.size) (by rw [Nat.mul_succ] at hi; omega)]
      rw [Nat.mod_eq_sub_mod hl]
theorem rep_size {its : Array Value} : ∀ (k : Nat) (acc : Array Value), (List.foldl (fun x1 x2 => x1 ++ x2) acc (List.replicate k its)).size = acc.size + its.size * k
  | 0, acc => by simp
  | k + 1, acc => by rw [List.replicate_succ, List.foldl_cons, rep_size k, Array.size_append, Nat.mul_succ]; omega

theorem intK_inv {a b : AV} {K : Int → Int → Prop} (k : intK a b K) : ∃ x y, a = .int x ∧ b = .int y ∧ K x y := by
  cases a with
  | int x =>
    cases b with
    | int y => exact ⟨x, y, rfl, rfl, k⟩
    | _ => exact False.elim k
  | _ => exact False.elim k
theorem numsK_inv {a : AV} {K : Nat → Nat → (Nat → Int) → Prop} (k : numsK σ a K) : ∃ m p f, a = .loc m ∧ nth σ m = some (.nums p f) ∧ K m p f := by
  cases a with
  | loc m =>
    have k : (match nth σ m with | some (.nums p f) => K m p f | _ => False) := k
    cases hm : nth σ m with
    | none => rw [hm] at k; exact k.elim
    | some o =>
      rw [hm] at k
      cases o with
      | nums p f => exact ⟨m, p, f, rfl, hm, k⟩
      | _ => exact k.elim
  | _ => exact False.elim k
/-- two numbers, as the machine has them -/
theorem intR {a b : AV} {u v : Value} {K : Int → Int → Prop} (k : intK a b K) (ra : RepV B h ρ a u) (rb : RepV B h ρ b v) : ∃ x y t t', u = .int x t ∧ v = .int y t' ∧ K x y := by
  obtain ⟨x, y, rfl, rfl, k⟩ := intK_inv k
  obtain ⟨t, rfl⟩ := ra.int_inv
  obtain ⟨t', rfl⟩ := rb.int_inv
  exact ⟨x, y, t, t', rfl, rfl, k⟩
/-- a list of numbers, as the machine has it -/
theorem St.numsR (S : St B ρ σ s) {a : AV} {u : Value} {K : Nat → Nat → (Nat → Int) → Prop} (k : numsK σ a K) (ra : RepV B s.heap ρ a u) :
    ∃ m N f, K m N f ∧ ∃ p its e, ρ[m]? = some p ∧ u = .ref p.1 ∧ p.2 = p.1 ∧ s.heap.get? p.1 = some (listOf its e) ∧ its.size = N ∧ N ≤ 1000000 ∧ ∀ i, i < N → ∃ t, its[i]? = some (.int (f i) t) := by
  obtain ⟨m, p, f, rfl, hm, k⟩ := numsK_inv k
  exact ⟨m, p, f, k, S.nums hm ra⟩
theorem sound_lmul {a b : AV} {u v : Value} {K : KV} (k : numsK σ a fun _ p f => lmulI p f b σ K) (S : St B ρ σ s) (ra : RepV B s.heap ρ a u) (rb : RepV B s.heap ρ b v) :
    wpAny (model prog w) A (binaryOp .Mult u v) (PV B ρ s.heap K) no s := by
  obtain ⟨m, p, f, k, pa, its, e, h1, rfl, h2, h3, h4, h5, h6⟩ := S.numsR k ra
  cases b with
  | int k' =>
    obtain ⟨hd, k⟩ := condF k
    rw [Bool.and_eq_true, Bool.and_eq_true] at hd
    obtain ⟨t, rfl⟩ := rb.int_inv
    have d2 := of_decide_eq_true hd.2
    refine mul_x h3 (of_decide_eq_true hd.1.1) (by rw [h4]; exact d2) (of_decide_eq_true hd.1.2) ?_
    have hz : (List.foldl (fun x1 x2 => x1 ++ x2) #[] (List.replicate (if its.isEmpty = true then 0 else k'.toNat) its)).size = p * k'.toNat := by
      rw [rep_size]
      split
      · rename_i he
        have : its.size = 0 := by simpa using he
        rw [← h4, this]; simp
      · rw [h4]; simp
    obtain ⟨S', E'⟩ := S.newNums (its := List.foldl (fun x1 x2 => x1 ++ x2) #[] (List.replicate (if its.isEmpty = true then 0 else k'.toNat) its)) (e := 0) (N := p * k'.toNat) (f := repF p f) hz d2 (fun i hi => by
      have hp : 0 < p := by
        rcases Nat.eq_zero_or_pos p with e0 | e0
        · rw [e0] at hi; simp at hi
        · exact e0
      have he : ¬ (its.isEmpty = true) := by
        intro q
        have : its.size = 0 := by simpa using q
        omega
      rw [if_neg he]
      have := rep_get (its := its) (by omega) k'.toNat #[] i (by rw [h4]; exact hi)
      rw [show (#[] : Array Value).size + i = i from Nat.zero_add i] at this
      rw [this, h4]
      exact h6 (i % p) (Nat.mod_lt _ hp)) s.toks s.drawn
    exact PV.of (.loc _ _ S.lenAt) S' E' k
  | _ => exact False.elim k
theorem sound_cat {a b : AV} {u v : Value} {K : KV} (k : numsK σ a fun _ p f => numsK σ b fun _ q g => cond (decide (p + q ≤ 1000000)) (K (.loc σ.length) (σ ++ [.nums (p + q) (appF p f g)])) False) (S : St B ρ σ s) (ra : RepV B s.heap ρ a u) (rb : RepV B s.heap ρ b v) :
    wpAny (model prog w) A (binaryOp .Add u v) (PV B ρ s.heap K) no s := by
  obtain ⟨m, p, f, k, pa, its, e, h1, rfl, h2, h3, h4, h5, h6⟩ := S.numsR k ra
  obtain ⟨n, q, g, k, pb, jts, e', g1, rfl, g2, g3, g4, g5, g6⟩ := S.numsR k rb
  obtain ⟨hd, k⟩ := condF k
  have hd := of_decide_eq_true hd
  refine concat_x h3 g3 (by omega) ?_
  obtain ⟨S', E'⟩ := S.newNums (its := its ++ jts) (e := 0) (N := p + q) (f := appF p f g) (by rw [Array.size_append]; omega) hd (getElem_append_ints h4 g4 h6 g6) s.toks s.drawn
  exact PV.of (.loc _ _ S.lenAt) S' E' k
theorem sound_bin {op : Operator} {a b : AV} {u v : Value} {K : KV} (k : binI op a b σ K) (S : St B ρ σ s) (ra : RepV B s.heap ρ a u) (rb : RepV B s.heap ρ b v) :
    wpAny (model prog w) A (binaryOp op u v) (PV B ρ s.heap K) no s := by
  rcases condB k with k | k
  · obtain ⟨x, y, t, t', rfl, rfl, k⟩ := intR k ra rb
    exact sound_arith k fun z hz => PV.of (.int z _) S.toks (.refl ..) hz
  · cases op with
    | Add => exact sound_cat k S ra rb
    | Mult => exact sound_lmul k S ra rb
    | _ => exact False.elim k
end
end Mine
end
section
set_option maxRecDepth 100000
set_option linter.unusedVariables false
open PySem PySem.W PyProof.Rows PySem.Claim2Try PySem.Pin
namespace Mine
section
variable {prog : Program} {w : World} {B : Bs} {G : Pg} {A : Around} {env : Env} {sc : Scope} {ρ ρ' : Rho} {σ : Hp} {s : Shared} {L : Loc} {h : Heap}
theorem sound_inpl {op : Operator} {a b : AV} {u v : Value} {K : KV} (k : inplI op a b σ K) (S : St B ρ σ s) (ra : RepV B s.heap ρ a u) (rb : RepV B s.heap ρ b v) :
    wpAny (model prog w) A (inplaceOp op u v) (PV B ρ s.heap K) no s := by
  rcases condB k with k | k
  · obtain ⟨x, y, t, t', rfl, rfl, k⟩ := intR k ra rb
    cases op with
    | Add => exact PyProof.Rows.iadd_int (PV.of (.int _ _) S.toks (.refl ..) k)
    | Sub => exact isub_int (PV.of (.int _ _) S.toks (.refl ..) k)
    | BitAnd => exact iand_int (PV.of (.int _ _) S.toks (.refl ..) k)
    | BitOr => exact ior_int (PV.of (.int _ _) S.toks (.refl ..) k)
    | BitXor => exact ixor_int (PV.of (.int _ _) S.toks (.refl ..) k)
    | _ => exact False.elim k
  · cases op with
    | Add =>
      obtain ⟨m, p, f, k, pa, its, e, h1, rfl, h2, h3, h4, h5, h6⟩ := S.numsR k ra
      obtain ⟨n, q, g, k, pb, jts, e', g1, rfl, g2, g3, g4, g5, g6⟩ := S.numsR k rb
      obtain ⟨hmn, k⟩ := condT k
      obtain ⟨hd, k⟩ := condF k
      have hd := of_decide_eq_true hd
      refine iadd_x h3 g3 (by omega) fun h' e' ho' sb => ?_
      obtain ⟨S', E'⟩ := S.set (h' := h') (tk := s.toks) (d := s.drawn) (o := .nums (p + q) (appF p f g)) h1 (fun b o hb _ hbo => (sb.2 b hb).trans hbo) ⟨_, ho'⟩ (by rw [h2]; exact ⟨_, ho'⟩)
        ⟨h2, its ++ jts, e', ho', by rw [Array.size_append]; omega, hd, getElem_append_ints h4 g4 h6 g6⟩
      rw [setN_eq] at k
      exact PV.of (.loc _ _ h1) S' E' k
    | _ => exact False.elim k
theorem sound_un {op : UnaryOp} {a : AV} {u : Value} {K : KV} (k : unI op a fun v => K v σ) (S : St B ρ σ s) (ra : RepV B s.heap ρ a u) : wpAny (model prog w) A (unaryOp op u) (PV B ρ s.heap K) no s := by
  unfold unI at k
  split at k
  · obtain ⟨t, rfl⟩ := ra.int_inv
    exact invert_int (PV.of (.int _ _) S.toks (.refl ..) k)
  · obtain ⟨t, rfl⟩ := ra.int_inv
    exact PyProof.Rows.neg_int (PV.of (.int _ _) S.toks (.refl ..) k)
  · exact k.elim
theorem eqTo_all {f g : Nat → Int} {e : Nat → Bool} (he : ∀ i, e i = decide (f i = g i)) : ∀ n, (List.range n).all e = eqTo f g n
  | 0 => rfl
  | n + 1 => by
    rw [List.range_succ, List.all_append, eqTo_all he n]
    show (eqTo f g n && (e n && true)) = cond (decide (f n = g n)) (eqTo f g n) false
    rw [he n]
    cases decide (f n = g n) <;> cases eqTo f g n <;> rfl
theorem all_congr {n : Nat} {e e' : Nat → Bool} (h : ∀ i, i < n → e i = e' i) : (List.range n).all e = (List.range n).all e' := by
  induction n with
  | zero => rfl
  | succ n ih => rw [List.range_succ, List.all_append, List.all_append, ih fun i hi => h i (Nat.lt_succ_of_lt hi)]; simp [h n (Nat.lt_succ_self n)]
theorem beq_decide (x y : Int) : (x == y) = decide (x = y) := rfl
/-- numbers told as a list -/
theorem ints_rep : ∀ {vs : List AV} {ws : List Value} {l : List Int}, intsOf vs = some l → RepVs B h ρ vs ws → ws.length = l.length ∧ ∀ i, i < l.length → ∃ t, ws[i]? = some (.int (getI l i) t) := by
  intro vs
  induction vs with
  | nil => intro ws l e r; cases e; cases r; exact ⟨rfl, fun i hi => absurd hi (Nat.not_lt_zero _)⟩
  | cons v r ih =>
    intro ws l e rr
    cases rr with | cons a b =>
    cases a with
    | int x t =>
      have e : (match intsOf r with | some l => some (x :: l) | none => none) = some l := e
      cases hl' : intsOf r with
      | none => rw [hl'] at e; cases e
      | some l' =>
        rw [hl'] at e
        cases e
        obtain ⟨h1, h2⟩ := ih hl' b
        refine ⟨congrArg (· + 1) h1, fun i hi => ?_⟩
        cases i with
        | zero => exact ⟨t, rfl⟩
        | succ i => exact h2 i (Nat.lt_of_succ_lt_succ hi)
    | _ => cases e
theorem eqIL_all : ∀ {l m : List Int}, l.length = m.length → eqIL l m = (List.range l.length).all fun i => decide (getI l i = getI m i)
  | [], [], _ => rfl
  | x :: l, y :: m, hl => by
    rw [List.length_cons, List.range_succ_eq_map, List.all_cons, List.all_map]
    have ih := eqIL_all (Nat.succ.inj hl)
    show cond (decide (x = y)) (eqIL l m) false = (decide (x = y) && (List.range l.length).all fun i => decide (getI l i = getI m i))
    rw [ih]
    cases decide (x = y) <;> rfl
  | [], _ :: _, hl => by cases hl
  | _ :: _, [], hl => by cases hl
theorem strK_inv {a b : AV} {u v : Value} {K : Str → Str → Prop} (k : strK a b K) (ra : RepV B h ρ a u) (rb : RepV B h ρ b v) : ∃ x y t t', u = .str x t ∧ v = .str y t' ∧ K x y := by
  cases a with
  | str x =>
    cases b with
    | str y =>
      obtain ⟨t, rfl⟩ := ra.str_inv
      obtain ⟨t', rfl⟩ := rb.str_inv
      exact ⟨x, y, t, t', rfl, rfl, k⟩
    | _ => exact False.elim k
  | _ => exact False.elim k
theorem tupK_inv {a b : AV} {K : List Int → List Int → Prop} (k : tupK a b K) : ∃ vs ws l m, a = .tup vs ∧ b = .tup ws ∧ intsOf vs = some l ∧ intsOf ws = some m ∧ l.length = m.length ∧ K l m := by
  cases a with
  | tup vs =>
    cases b with
    | tup ws =>
      have k : (match intsOf vs with
        | some l => (match intsOf ws with | some m => cond (Nat.beq l.length m.length) (K l m) False | none => False)
        | none => False) := k
      cases hl : intsOf vs with
      | none => rw [hl] at k; exact k.elim
      | some l =>
        cases hm : intsOf ws with
        | none => rw [hl, hm] at k; exact k.elim
        | some m =>
          rw [hl, hm] at k
          obtain ⟨c, k⟩ := condF k
          exact ⟨vs, ws, l, m, rfl, rfl, hl, hm, Nat.eq_of_beq_eq_true c, k⟩
    | _ => exact False.elim k
  | _ => exact False.elim k
theorem sound_isNone {a b : AV} {u v : Value} {K : Bool → Prop} {Q : Value → Shared → Prop} (k : isNoneK a b K) (ra : RepV B s.heap ρ a u) (rb : RepV B s.heap ρ b v) :
    ∃ t, K t ∧ (Q (.bool t) s → wpAny (model prog w) A (compareOp .Is u v) Q no s) ∧ (Q (.bool (!t)) s → wpAny (model prog w) A (compareOp .IsNot u v) Q no s) := by
  cases b with
  | none =>
    rw [rb.none_inv]
    cases a with
    | none => rw [ra.none_inv]; exact ⟨_, k, wpAny_is_self rfl, wpAny_isNot_self rfl⟩
    | int i => obtain ⟨t, rfl⟩ := ra.int_inv; exact ⟨_, k, wpAny_is_other rfl (fun e => nomatch e), wpAny_isNot_other rfl (fun e => nomatch e)⟩
    | bm x n => cases ra; exact ⟨_, k, wpAny_is_other rfl (fun e => nomatch e), wpAny_isNot_other rfl (fun e => nomatch e)⟩
    | loc n => cases ra; exact ⟨_, k, wpAny_is_other rfl (fun e => nomatch e), wpAny_isNot_other rfl (fun e => nomatch e)⟩
    | _ => exact False.elim k
  | _ => exact False.elim k
theorem sound_eqNums {a b : AV} {u v : Value} {K : Bool → Prop} {Q : Value → Shared → Prop} (k : numsK σ a fun _ p f => numsK σ b fun _ q g => K (cond (Nat.beq p q) (eqTo f g p) false)) (S : St B ρ σ s) (ra : RepV B s.heap ρ a u) (rb : RepV B s.heap ρ b v) (hu : A.units < cLine)
    (q : ∀ t, K t → Q (.bool t) s) : wpAny (model prog w) A (compareOp .Eq u v) Q no s := by
  obtain ⟨m, p, f, k, pa, its, e, h1, rfl, h2, h3, h4, h5, h6⟩ := S.numsR k ra
  obtain ⟨n, q', g, k, pb, jts, e', g1, rfl, g2, g3, g4, g5, g6⟩ := S.numsR k rb
  cases hpq : Nat.beq p q' with
  | false =>
    rw [hpq] at k
    exact SeqAt.eq_list_lengthsAt (isList_x h3) (isList_x g3) (by rw [h4, g4, bne_iff_ne]; exact fun e => by rw [e, Nat.beq_refl] at hpq; cases hpq) hu (q _ k)
  | true =>
    rw [hpq] at k
    have e := Nat.eq_of_beq_eq_true hpq
    subst e
    refine SeqAt.eq_listAt (e := fun i => decide (f i = g i)) (isList_x h3) (isList_x g3) (h4.trans g4.symm) hu (fun j j1 j2 => ?_) ?_
    · obtain ⟨t, ht⟩ := h6 j (by omega)
      obtain ⟨t', ht'⟩ := g6 j (by omega)
      rw [Array.getElem?_eq_getElem j1] at ht
      rw [Array.getElem?_eq_getElem j2] at ht'
      rw [Option.some.inj ht, Option.some.inj ht']
      exact SeqAt.EqAt.int_int _ _ _ _
    · rw [h4, eqTo_all (fun i => rfl)]
      exact q _ k
theorem sound_neTup {a b : AV} {u v : Value} {K : Bool → Prop} {Q : Value → Shared → Prop} (k : tupK a b fun l m => K (!eqIL l m)) (ra : RepV B s.heap ρ a u) (rb : RepV B s.heap ρ b v) (hu : A.units < cLine)
    (q : ∀ t, K t → Q (.bool t) s) : wpAny (model prog w) A (compareOp .NotEq u v) Q no s := by
  obtain ⟨vs, ws, l, m, rfl, rfl, hl, hm, hlen, k⟩ := tupK_inv k
  obtain ⟨x, its, e, rfl, h1, h2, h3⟩ := ra.tup_inv
  obtain ⟨y, jts, e', rfl, g1, g2, g3⟩ := rb.tup_inv
  obtain ⟨a1, a2⟩ := ints_rep hl h3
  obtain ⟨b1, b2⟩ := ints_rep hm g3
  have e1 : its.size = jts.size := a1.trans (hlen.trans b1.symm)
  refine EqBoolInt.of_rcne (SeqAt.RcNeAt.tuples (e := fun i => decide (getI l i = getI m i)) ⟨_, h2, rfl, e, rfl⟩ ⟨_, g2, rfl, e', rfl⟩ hu fun j j1 j2 => ?_) ?_
  · obtain ⟨t, ht⟩ := a2 j (a1 ▸ j1)
    obtain ⟨t', ht'⟩ := b2 j (b1 ▸ j2)
    rw [Array.getElem?_toList, Array.getElem?_eq_getElem j1] at ht
    rw [Array.getElem?_toList, Array.getElem?_eq_getElem j2] at ht'
    rw [Option.some.inj ht, Option.some.inj ht']
    exact SeqAt.EqAt.int_int _ _ _ _
  · rw [← e1, Nat.min_self, beq_self_eq_true, Bool.and_true, show its.size = l.length from a1, ← eqIL_all hlen]
    exact q _ k
theorem sound_cmp {op : CmpOp} {a b : AV} {u v : Value} {K : Bool → Prop} {Q : Value → Shared → Prop} (k : cmpI op a b σ K) (S : St B ρ σ s) (ra : RepV B s.heap ρ a u) (rb : RepV B s.heap ρ b v) (hu : A.units < cLine)
    (q : ∀ t, K t → Q (.bool t) s) : wpAny (model prog w) A (compareOp op u v) Q no s := by
  cases op with
  | Eq =>
    rcases condB k with k | k
    · obtain ⟨x, y, t, t', rfl, rfl, k⟩ := intR k ra rb
      exact PyProof.Rows.eq_int (q _ k)
    · rcases condB k with k | k
      · obtain ⟨x, y, t, t', rfl, rfl, k⟩ := strK_inv k ra rb
        exact P.eq_str (q _ k)
      · exact sound_eqNums k S ra rb hu q
  | NotEq =>
    rcases condB k with k | k
    · obtain ⟨x, y, t, t', rfl, rfl, k⟩ := intR k ra rb
      exact PyProof.Rows.ne_int (q _ k)
    · exact sound_neTup k ra rb hu q
  | Lt =>
    obtain ⟨x, y, t, t', rfl, rfl, k⟩ := intR k ra rb
    exact PyProof.Rows.lt_int (q _ k)
  | LtE =>
    obtain ⟨x, y, t, t', rfl, rfl, k⟩ := intR k ra rb
    exact PyProof.Rows.le_int (q _ k)
  | Gt =>
    obtain ⟨x, y, t, t', rfl, rfl, k⟩ := intR k ra rb
    exact PyProof.Rows.gt_int (q _ k)
  | GtE =>
    obtain ⟨x, y, t, t', rfl, rfl, k⟩ := intR k ra rb
    exact PyProof.Rows.ge_int (q _ k)
  | Is =>
    obtain ⟨t, k, q1, _⟩ := sound_isNone k ra rb
    exact q1 (q _ k)
  | IsNot =>
    obtain ⟨t, k, _, q1⟩ := sound_isNone (K := fun t => K (!t)) k ra rb
    exact q1 (q _ k)
  | _ => exact False.elim k
theorem sound_truth {a : AV} {u : Value} {K : Bool → Prop} {Q : Bool → Shared → Prop} (k : truthI a K) (ra : RepV B s.heap ρ a u) (q : ∀ t, K t → Q t s) : wpAny (model prog w) A (truthy u) Q no s := by
  unfold truthI at k
  split at k
  · rw [ra.none_inv]; exact wpAny_pure (q _ k)
  · rw [ra.bool_inv]; exact wpAny_truthy_bool (q _ k)
  · obtain ⟨t, rfl⟩ := ra.int_inv
    exact PyProof.Rows.truthy_int (q _ k)
  · exact k.elim
end
end Mine
end
section
set_option maxRecDepth 100000
set_option linter.unusedVariables false
open PySem PySem.W PyProof.Rows PySem.Claim2Try PySem.Pin Builtin Builtin.ObjectAttr
namespace Mine
section
variable {prog : Program} {w : World} {B : Bs} {G : Pg} {A : Around} {env : Env} {sc : Scope} {ρ ρ' : Rho} {σ : Hp} {s : Shared} {L : Loc} {h : Heap}
theorem St.instAt (S : St B ρ σ s) {n : Nat} {at_ : List (Str × AV)} {v : Value} (ho : nth σ n = some (.inst at_)) (r : RepV B s.heap ρ (.loc n) v) :
    ∃ p ox m, ρ[n]? = some p ∧ v = .ref p.1 ∧ p.2 ≠ p.1 ∧ s.heap.get? p.1 = some ox ∧ ox.cls = .ref B.C ∧ (∀ c, ox.data ≠ .cls c) ∧ ox.dict = some p.2 ∧ s.heap.Ns1 p.2 m ∧
      ∀ x, match lookS x at_ with
        | some v => ∃ w, m x = some w ∧ RepV B s.heap ρ v w
        | none => m x = none := by
  obtain ⟨p, hp, rfl⟩ := r.loc_inv
  rw [nth_eq] at ho
  obtain ⟨e1, ox, m, a, b, c, d, e, f⟩ := S.obj n p _ hp ho
  exact ⟨p, ox, m, hp, rfl, e1, a, b, c, d, e, f⟩
theorem lookIn_of {o : Obj} {es : Array DictEntry} {ep : Nat} {m : Str → Option Value} {name : Str} (hd : o.data = .dict es ep) (hk : StrKeys es) (hf : nsFind es name = m name) : lookIn name o = some (m name) := by
  unfold lookIn
  rw [hd]
  dsimp only
  rw [Array.find?_toList]
  have hf : (es.find? fun e => e.key.isStr name).map (·.val) = m name := hf
  cases hx : es.find? fun e => e.key.isStr name with
  | some e => rw [hx] at hf; dsimp only; rw [← hf]; rfl
  | none =>
    rw [hx] at hf
    have hr : (es.toList.any fun e => e.refKey) = false := by
      rw [List.any_eq_false]
      intro e he
      obtain ⟨n, t, hn⟩ := hk e (by simpa using he)
      unfold DictEntry.refKey
      rw [hn]; exact Bool.false_ne_true
    dsimp only
    rw [hr, ← hf]; rfl
theorem nsIn_of {K : Frag} {N : Addr} {es : List DictEntry} {n : Nat} {l : List (Str × Value)} (hK : K.lookup N = some (dictOf es n)) (he : es.map kv = l.map fun x => (some x.1, x.2)) (name : Str) : nsIn K N name = some (l.lookup name) := by
  unfold nsIn
  rw [hK]
  dsimp only
  have hf := find_kv name es l he
  cases hx : es.find? fun e => e.key.isStr name with
  | some e => rw [hx] at hf; rw [← hf]; rfl
  | none =>
    rw [hx] at hf
    have hr : (es.any fun e => e.refKey) = false := by
      rw [List.any_eq_false]
      intro e hm
      obtain ⟨n, t, hn⟩ := strKeys_kv he e hm
      unfold DictEntry.refKey
      rw [hn]; exact Bool.false_ne_true
    dsimp only
    rw [hr, ← hf]; rfl
/-- the class, seen by the library's look -/
theorem clsK (ok : Ok B G) (k : ∀ b o, B.hb.get? b = some o → h.get? b = some o) (ex : Frag) (hex : ∀ a o, ex.lookup a = some o → h.get? a = some o) :
    ∃ K : Frag, K.In h ∧ (∃ cd, clsIn K B.C = some cd ∧ cd.hasDict = true ∧ cd.mro = [.ref B.C, .type "object"]) ∧
      (∀ name, findIn K (.ref B.C) name = some (match B.l.lookup name with | some v => some v | none => fastBuiltinOwn "object" name)) ∧
      (∀ a o, ex.lookup a = some o → (∀ cd, o.data ≠ .cls cd) → (∀ es n, o.data ≠ .dict es n) → K.lookup a = some o) ∧
      (∃ nm q sub col k0 k1 k2 k3 k5, K.lookup B.C = some (excClassObj nm q B.C B.N [.type "object"] [.type "object"] true [] sub false col none k0 k1 k2 k3 k5 "object.__new__")) := by
  obtain ⟨nm, q, sub, col, k0, k1, k2, k3, k5, hC⟩ := ok.cobj
  obtain ⟨es, n, hN, he⟩ := ok.names
  have hne : B.N ≠ B.C := fun e => by rw [e, hC] at hN; exact absurd (congrArg Obj.data (Option.some.inj hN)) fun q => nomatch q
  refine ⟨(B.C, excClassObj nm q B.C B.N [.type "object"] [.type "object"] true [] sub false col none k0 k1 k2 k3 k5 "object.__new__") :: (B.N, dictOf es n) :: ex, ?_, ⟨{ name := nm, bases := [.type "object"], mro := [.ref B.C, .type "object"], ns := B.N, qualname := q, hasDict := true, slotNames := [], subclasses := sub, abstract := false, collection := col, hasDel := false }, ?_, rfl, rfl⟩, ?_, ?_, ⟨nm, q, sub, col, k0, k1, k2, k3, k5, by rw [List.lookup_cons, beq_self_eq_true]⟩⟩
  · intro a o e
    rw [List.lookup_cons] at e
    split at e
    · rename_i q1; cases e; rw [beq_iff_eq.mp q1]; exact k _ _ hC
    · rw [List.lookup_cons] at e
      split at e
      · rename_i q1; cases e; rw [beq_iff_eq.mp q1]; exact k _ _ hN
      · exact hex a o e
  · unfold clsIn
    rw [List.lookup_cons, beq_self_eq_true]
  · intro name
    have hN' : List.lookup B.N ((B.C, excClassObj nm q B.C B.N [.type "object"] [.type "object"] true [] sub false col none k0 k1 k2 k3 k5 "object.__new__") :: (B.N, dictOf es n) :: ex) = some (dictOf es n) := by
      rw [List.lookup_cons, beq_eq_false_iff_ne.mpr hne, List.lookup_cons, beq_self_eq_true]
    have hC' : List.lookup B.C ((B.C, excClassObj nm q B.C B.N [.type "object"] [.type "object"] true [] sub false col none k0 k1 k2 k3 k5 "object.__new__") :: (B.N, dictOf es n) :: ex) = some (excClassObj nm q B.C B.N [.type "object"] [.type "object"] true [] sub false col none k0 k1 k2 k3 k5 "object.__new__") := by
      rw [List.lookup_cons, beq_self_eq_true]
    have own : ownIn ((B.C, excClassObj nm q B.C B.N [.type "object"] [.type "object"] true [] sub false col none k0 k1 k2 k3 k5 "object.__new__") :: (B.N, dictOf es n) :: ex) name (.ref B.C) = some (B.l.lookup name) := by
      unfold ownIn
      dsimp only
      rw [hC']
      exact nsIn_of hN' he name
    unfold findIn
    dsimp only
    rw [hC']
    show alongIn _ name [.ref B.C, .type "object"] = _
    unfold alongIn
    rw [own]
    cases B.l.lookup name with
    | some v => rfl
    | none =>
      show alongIn _ name [.type "object"] = some (fastBuiltinOwn "object" name)
      unfold alongIn
      show (match some (fastBuiltinOwn "object" name) with | some (some v) => some (some v) | some none => alongIn _ name [] | none => none) = _
      cases fastBuiltinOwn "object" name <;> rfl
  · intro a o e h1 h2
    have ha := hex a o e
    rw [List.lookup_cons, beq_eq_false_iff_ne.mpr (fun q1 => by rw [q1, k _ _ hC] at ha; cases ha; exact h1 _ rfl), List.lookup_cons, beq_eq_false_iff_ne.mpr (fun q1 => by rw [q1, k _ _ hN] at ha; cases ha; exact h2 _ _ rfl)]
    exact e
end
end Mine
end
section
set_option maxRecDepth 100000
set_option linter.unusedVariables false
open PySem PySem.W PyProof.Rows PySem.Claim2Try PySem.Pin Builtin Builtin.ObjectAttr
namespace Mine
section
variable {prog : Program} {w : World} {B : Bs} {G : Pg} {A : Around} {env : Env} {sc : Scope} {ρ ρ' : Rho} {σ : Hp} {s : Shared} {L : Loc} {h : Heap}
theorem handed_plain {v : AV} {u : Value} (hp : plainAV v = true) (r : RepV B h ρ v u) : handedIn u = true := by
  cases r <;> first | rfl | cases hp
theorem own_ga : fastBuiltinOwn "object" (Str.ofString "__getattribute__") = some (.builtin "object.__getattribute__") := by kernel_rfl
theorem own_gattr : fastBuiltinOwn "object" (Str.ofString "__getattr__") = none := by kernel_rfl
theorem get_int : fastLookup "int" (Str.ofString "__get__") = some none := by kernel_rfl
theorem get_str : fastLookup "str" (Str.ofString "__get__") = some none := by kernel_rfl
theorem get_list : fastLookup "list" (Str.ofString "__get__") = some none := by kernel_rfl
theorem get_fn : fastLookup "function" (Str.ofString "__get__") = some (some (.builtin "function.__get__")) := by kernel_rfl
theorem set_fn : fastLookup "function" (Str.ofString "__set__") = some none := by kernel_rfl
theorem del_fn : fastLookup "function" (Str.ofString "__delete__") = some none := by kernel_rfl
theorem specialIn_int {K : Frag} {i : Int} {t : Tok} : specialIn K (.int i t) (Str.ofString "__get__") = some none := get_int
theorem specialIn_str {K : Frag} {i : Str} {t : Tok} : specialIn K (.str i t) (Str.ofString "__get__") = some none := get_str
theorem specialIn_ref {K : Frag} {a : Addr} {o : Obj} {T : String} {name : Str} {r : Option (Option Value)} (hl : K.lookup a = some o) (hc : o.cls = .type T) (hf : fastLookup T name = r) : specialIn K (.ref a) name = r := by
  unfold specialIn typeIn
  dsimp only
  rw [hl]
  show findIn K o.cls name = r
  rw [hc]
  exact hf
theorem notCls_of {o : Obj} (h : ∀ c, o.data ≠ .cls c) : notCls o = true := by
  unfold notCls
  split
  · rename_i c hc; exact (h c hc).elim
  · rfl
theorem frag1 {h : Heap} {q : Addr} {o : Obj} (hq : h.get? q = some o) : ∀ b o', List.lookup b [(q, o)] = some o' → h.get? b = some o' := fun b o' e => by
  rw [List.lookup_cons] at e
  cases hb : b == q with
  | true => rw [hb] at e; cases e; rw [beq_iff_eq.mp hb]; exact hq
  | false => rw [hb] at e; cases e
theorem frag1_self {q : Addr} {o : Obj} : List.lookup q [(q, o)] = some o := by rw [List.lookup_cons, beq_self_eq_true]
/-- a name that the class has and no instance -/
theorem attr_cls {v : AV} {n : Nat} {at_ : List (Str × AV)} {a : Str} {u : Value} {Q : Value → Shared → Prop} {ex : Bool} (ok : Ok B G) (S : St B ρ σ s) (hn : nth σ n = some (.inst at_)) (hv : lookS a at_ = none) (r : RepV B s.heap ρ (.loc n) u) {st : Stmt} (hst : clsFind a G.body = some st) :
    ∃ x p, ρ[n]? = some p ∧ B.l.lookup a = some x ∧ ClsFact B st x ∧
      (∀ {K0 : Frag}, K0.In s.heap → (∃ cd, clsIn K0 B.C = some cd ∧ cd.hasDict = true ∧ cd.mro = [.ref B.C, .type "object"]) → (∀ name, findIn K0 (.ref B.C) name = some (match B.l.lookup name with | some v => some v | none => fastBuiltinOwn "object" name)) →
        specialIn K0 x (Str.ofString "__get__") = some none → handedIn x = true → Q x { s with toks := s.toks + 1 } → wpAny (model prog w) A (getAttr u a ex) Q no s) ∧
      (∀ {f : Addr} {fo : Obj}, x = .ref f → B.hb.get? f = some fo → fo.cls = .type "function" → (∃ fd, fo.data = .func fd) → Q (.ref s.heap.objs.size) ⟨s.heap.push (methodObj (.ref f) (.ref p.1)), s.gens, s.drawn, s.toks + 1, s.os⟩ → wpAny (model prog w) A (getAttr u a ex) Q no s) := by
  obtain ⟨p, ox, m, hp, rfl, hne, hox, hc, hd, hdi, hns, hm⟩ := S.instAt hn r
  obtain ⟨od, es, ep, ho2, hd2, hk2, _, hf2⟩ := id hns
  have I : InstAt s.heap p.1 ox B.C (some od) := ⟨hox, hc, notCls_of hd, by rw [hdi]; exact ho2⟩
  have hlook : ∀ x, lookIn x od = some (m x) := fun x => lookIn_of hd2 hk2 (hf2 x)
  have hx := hm a
  rw [hv] at hx
  obtain ⟨x, hl, mx⟩ := ok.mem a _ hst
  refine ⟨x, p, hp, hl, mx, fun {K0} X ⟨cd, hcd, hdct, hmro⟩ hfind hsp hh hq => ?_, fun {f fo} e hf hfc ⟨fd, hfd⟩ hq => ?_⟩
  · refine get_value (v := x) X I (by rw [hfind, ok.hooks.1, own_ga]) ?_ hh hq
    unfold findObj
    rw [hcd, Option.bind_some, hfind, hl]
    simp only [Option.bind_some, hsp]
    unfold PySem.W.ownOf
    rw [if_pos hdct]
    dsimp only
    rw [hlook, hx]
    simp only [Option.bind_some, ok.plain a st hst, Bool.false_and, Bool.false_eq_true, if_false, hh, if_true]
  · subst e
    obtain ⟨K0, X, ⟨cd, hcd, hdct, hmro⟩, hfind, hex, _⟩ := clsK ok S.keep [(f, fo)] (frag1 (S.keep _ _ hf))
    have hK := hex f fo frag1_self (fun _ e => by rw [hfd] at e; cases e) (fun _ _ e => by rw [hfd] at e; cases e)
    have hg : specialIn K0 (.ref f) (Str.ofString "__get__") = some (some (.builtin "function.__get__")) := specialIn_ref hK hfc get_fn
    have ht : takesIn K0 (.ref f) = some false := by
      unfold takesIn
      rw [specialIn_ref hK hfc set_fn]
      dsimp only
      rw [specialIn_ref hK hfc del_fn]
      rfl
    refine get_bind (g := .builtin "function.__get__") (a := .ref f) X I (by rw [hfind, ok.hooks.1, own_ga]) ?_ (by rw [hfind, ok.hooks.2.1, own_gattr]) ?_
    · unfold findObj
      rw [hcd, Option.bind_some, hfind, hl]
      simp only [Option.bind_some, hg, ht]
      unfold PySem.W.ownOf
      rw [if_pos hdct]
      dsimp only
      rw [hlook, hx]
      simp only [Option.bind_some, ok.plain a _ hst, Bool.false_and, Bool.false_eq_true, if_false]
    · exact wpAny_call (fn_get (s := { s with toks := s.toks + 1 }) X (by unfold typeIn; dsimp only; rw [hK]; exact congrArg some hfc) (wpAny_pure hq))
/-- a name that the instance has -/
theorem attr_own {n : Nat} {at_ : List (Str × AV)} {a : Str} {v' : AV} {u : Value} {Q : Value → Shared → Prop} {ex : Bool} (ok : Ok B G) (S : St B ρ σ s) (hn : nth σ n = some (.inst at_)) (hv : lookS a at_ = some v') (r : RepV B s.heap ρ (.loc n) u) (hi : memS a ivars = true) (hpl : plainAV v' = true)
    (q : ∀ w', RepV B s.heap ρ v' w' → Q w' { s with toks := s.toks + 1 }) : wpAny (model prog w) A (getAttr u a ex) Q no s := by
  obtain ⟨p, ox, m, hp, rfl, hne, hox, hc, hd, hdi, hns, hm⟩ := S.instAt hn r
  obtain ⟨od, es, ep, ho2, hd2, hk2, _, hf2⟩ := id hns
  have I : InstAt s.heap p.1 ox B.C (some od) := ⟨hox, hc, notCls_of hd, by rw [hdi]; exact ho2⟩
  have hx := hm a
  rw [hv] at hx
  obtain ⟨w', hw', rw'⟩ := hx
  obtain ⟨i1, i2, i3, i4⟩ := ok.ivar a hi
  obtain ⟨K0, X, ⟨cd, hcd, hdct, hmro⟩, hfind, _⟩ := clsK ok S.keep [] (fun _ _ e => nomatch e)
  refine get_value (v := w') X I (by rw [hfind, ok.hooks.1, own_ga]) ?_ (handed_plain hpl rw') (q w' rw')
  unfold findObj
  rw [hcd, Option.bind_some, hfind, i1, i2]
  simp only [Option.bind_some]
  unfold PySem.W.ownOf
  rw [if_pos hdct]
  dsimp only
  rw [show lookIn a od = some (m a) from lookIn_of hd2 hk2 (hf2 a), hw']
  rfl
theorem attrI_inv {v : AV} {a : Str} {K : AV → Prop} (k : attrI G v a σ K) : ∃ n at_, v = .loc n ∧ nth σ n = some (.inst at_) ∧ ((∃ v', lookS a at_ = some v' ∧ memS a ivars = true ∧ plainAV v' = true ∧ K v') ∨ (lookS a at_ = none ∧ ∃ st, clsFind a G.body = some st ∧ ClsAttr a n K st)) := by
  cases v with
  | loc n =>
    have k : attrL G n a (nth σ n) K := k
    cases hn : nth σ n with
    | none => rw [hn] at k; exact k.elim
    | some o =>
      rw [hn] at k
      cases o with
      | inst at_ =>
        have k : attrO a (clsFind a G.body) n K (lookS a at_) := k
        cases hv : lookS a at_ with
        | some v' =>
          rw [hv] at k
          obtain ⟨c, k⟩ := condF k
          rw [Bool.and_eq_true] at c
          exact ⟨n, at_, rfl, hn, .inl ⟨v', hv, c.1, c.2, k⟩⟩
        | none =>
          rw [hv] at k
          cases hst : clsFind a G.body with
          | none => rw [hst] at k; exact k.elim
          | some st => rw [hst] at k; exact ⟨n, at_, rfl, hn, .inr ⟨hv, st, rfl, k⟩⟩
      | _ => exact k.elim
  | _ => exact False.elim k
theorem sound_attr {v : AV} {a : Str} {u : Value} {K : KV} {ex : Bool} (ok : Ok B G) (k : attrI G v a σ fun x => K x σ) (S : St B ρ σ s) (r : RepV B s.heap ρ v u) :
    wpAny (model prog w) A (getAttr u a ex) (PV B ρ s.heap K) no s := by
  obtain ⟨n, at_, rfl, hn, ⟨v', hv, i1, i2, k⟩ | ⟨hv, st, hst, k⟩⟩ := attrI_inv k
  · exact attr_own ok S hn hv r i1 i2 fun w' rw' => PV.of rw' S.toks (.refl ..) k
  · obtain ⟨x, p, hp, hl, mx, one, two⟩ := attr_cls (prog := prog) (w := w) (A := A) (ex := ex) (Q := PV B ρ s.heap K) (v := .none) ok S hn hv r hst
    cases mx with
    | asg hc =>
      rename_i c _ _ _
      obtain ⟨K0, X, hcd, hfind, _⟩ := clsK ok S.keep [] (fun _ _ e => nomatch e)
      cases c with
      | int i =>
        obtain ⟨t, rfl⟩ := hc
        exact one X hcd hfind specialIn_int rfl (PV.of (.int i t) S.toks (.refl ..) k)
      | str i =>
        obtain ⟨t, rfl⟩ := hc
        exact one X hcd hfind specialIn_str rfl (PV.of (.str i t) S.toks (.refl ..) k)
      | _ => exact False.elim k
    | @lst _ _ _ _ _ q vs _ hq _ =>
      obtain ⟨K0, X, hcd, hfind, hex, _⟩ := clsK ok S.keep [(q, { cls := .type "list", data := .seq vs.toArray })] (frag1 (S.keep _ _ hq))
      exact one X hcd hfind (specialIn_ref (hex q { cls := .type "list", data := .seq vs.toArray } frag1_self (fun _ e => nomatch e) (fun _ _ e => nomatch e)) rfl get_list) rfl (PV.of (.clst a _ hl) S.toks (.refl ..) k)
    | fn fn =>
      obtain ⟨hi, k⟩ := condT k
      obtain ⟨f, dV, pm, c, doc, P, dv, rfl, _, _, _, hf, _⟩ := fn
      exact two rfl hf rfl ⟨_, rfl⟩ (PV.of (.bm a n _ f p (S.notOwn (get?_size _)) (Heap.get?_push_size _ rfl) hl hp) (S.push _) (.push _) k)
end
end Mine
end
section
set_option maxRecDepth 100000
set_option linter.unusedVariables false
open PySem PySem.W PyProof.Rows PySem.Claim2Try PySem.Pin Builtin Builtin.ObjectAttr
namespace Mine
theorem mro_obj : fastBuiltinMro "object" = some [.type "object"] := by kernel_rfl
theorem lk_obj (name : Str) : typeLookup (.type "object") name = pure (fastBuiltinOwn "object" name) := by
  rw [typeLookup_type, builtinLookup_eq_fast]
  unfold fastLookup
  rw [mro_obj]
  show (pure ((([Value.type "object"]).findSome? fun | .type n => fastBuiltinOwn n name | _ => none)) : Sem (Option Value)) = _
  rw [List.findSome?_cons]
  dsimp only
  cases fastBuiltinOwn "object" name <;> rfl
section
variable {prog : Program} {w : World} {B : Bs} {G : Pg} {A : Around} {env : Env} {sc : Scope} {ρ ρ' : Rho} {σ : Hp} {s : Shared} {L : Loc} {h : Heap}
theorem lookS_mem {x : Str} {v : AV} : ∀ {l : List (Str × AV)}, lookS x l = some v → x ∈ l.map (·.1)
  | [], e => by cases e
  | (y, u) :: r, e => by
    unfold lookS at e
    cases hq : eqS x y with
    | true => rw [eqS_iff.mp hq]; exact List.mem_cons_self ..
    | false => rw [hq] at e; exact List.mem_cons_of_mem _ (lookS_mem e)
theorem instK_inv {v : AV} {K : Nat → List (Str × AV) → Prop} (k : instK σ v K) : ∃ n at_, v = .loc n ∧ nth σ n = some (.inst at_) ∧ K n at_ := by
  cases v with
  | loc n =>
    have k : (match nth σ n with
      | some (.inst at_) => K n at_
      | _ => False) := k
    cases hn : nth σ n with
    | none => rw [hn] at k; exact k.elim
    | some o =>
      rw [hn] at k
      cases o with
      | inst at_ => exact ⟨n, at_, rfl, hn, k⟩
      | _ => exact k.elim
  | _ => exact False.elim k
theorem sound_setAttr {v : AV} {a : Str} {x : AV} {u y : Value} {K : Hp → Prop} {Q : Unit → Shared → Prop} (ok : Ok B G) (k : setAttrI v a x σ K) (S : St B ρ σ s) (r : RepV B s.heap ρ v u) (rx : RepV B s.heap ρ x y)
    (q : ∀ σ' s', St B ρ σ' s' → Ext [] s.heap ρ s'.heap ρ → K σ' → Q () s') : wpAny (model prog w) A (setAttr u a y) Q no s := by
  obtain ⟨n, at_, rfl, hn, k⟩ := instK_inv k
  obtain ⟨hc, k⟩ := condF k
  rw [Bool.and_eq_true, decide_eq_true_eq] at hc
  obtain ⟨i1, i2, _, _⟩ := ok.ivar a hc.1
  obtain ⟨p, ox, m, hp, rfl, hne, hox, hcl, hd, hdi, hns, hm⟩ := S.instAt hn r
  obtain ⟨nm, q', sub, col, k0, k1, k2, k3, k5, hC⟩ := ok.cobj
  obtain ⟨hh, g, d, t, os⟩ := s
  have hC' := S.keep _ _ hC
  have hN' := (ok.names.keeps S.keep).ns
  have I : hh.Inst p.1 B.C m := ⟨ox, hox, hcl, hd, .inr ⟨p.2, hdi, hne, hns⟩⟩
  have hxC : p.1 ≠ B.C := fun e => by
    have := (S.above p (mem_of_at hp)).1
    rw [e, hC] at this; cases this
  refine store_attr (ns := at_.map (·.1)) F.store_object hC' hN' ok.hooks.2.2 i1 (by rw [lk_obj, i2]) hxC I (fun h' tk' I' keep same => ?_) (fun y' hy => ?_) (by rw [List.length_map, sizeLine]; omega)
  · obtain ⟨o1, ho1, c1, d1, _, dict1⟩ := same ox hox
    obtain ⟨o2, ho2, _, _, alt⟩ := I'
    rw [ho1] at ho2
    cases ho2
    have hdx := dict1 p.2 hdi
    rcases alt with ⟨hno, _⟩ | ⟨dx, hdx', hne', hns'⟩
    · rw [hdx] at hno; cases hno
    · rw [hdx] at hdx'
      cases hdx'
      have hns2 : ∃ o, h'.get? p.2 = some o := let ⟨o, _, _, e, _⟩ := hns'; ⟨o, e⟩
      have kk : ∀ b o, b ≠ p.1 → b ≠ p.2 → hh.get? b = some o → h'.get? b = some o := fun b o h1 h2 e => keep b o h1 (fun o₀ dx' e1 e2 => by rw [hox] at e1; cases e1; rw [hdi] at e2; cases e2; exact h2) e
      have E' : Ext [] hh ρ h' ρ := ⟨⟨⟨[], by simp, fun _ z => nomatch z⟩, fun b o hn' _ e => kk b o (hn' p (mem_of_at hp)).1 (hn' p (mem_of_at hp)).2 e⟩, fun b o e => by
        by_cases h1 : b = p.1
        · rw [h1]; exact ⟨_, ho1⟩
        · by_cases h2 : b = p.2
          · rw [h2]; exact hns2
          · exact ⟨o, kk b o h1 h2 e⟩⟩
      rw [setN_eq] at k
      obtain ⟨S', _⟩ := S.set (h' := h') (tk := tk') (d := d) (o := .inst (putS a x at_)) hp kk ⟨_, ho1⟩ hns2
        ⟨hne, o1, _, ho1, c1.trans hcl, (fun c z => hd c (d1 ▸ z)), hdx, hns', fun z => by
          rw [lookS_putS]
          by_cases hz : z = a
          · rw [if_pos hz]
            exact ⟨y, if_pos hz, rx.ext0 E'⟩
          · rw [if_neg hz]
            have := hm z
            split at this
            · rename_i v' hv'
              try rw [hv']
              obtain ⟨w', e1, r1⟩ := this
              exact ⟨w', (if_neg hz).trans e1, r1.ext0 E'⟩
            · rename_i hv'
              try rw [hv']
              exact (if_neg hz).trans this⟩
      exact q _ _ S' E' k
  · have := hm y'
    split at this
    · rename_i v' hv'; exact lookS_mem hv'
    · exact (hy this).elim
/-- the method of an object -/
theorem sound_callee {v : AV} {m : Str} {u : Value} {K : AV → List AV → Prop} {Q : Value × List Value → Shared → Prop} {pl : Sem Bool} (ok : Ok B G) (k : calleeI G v m σ K) (S : St B ρ σ s) (r : RepV B s.heap ρ v u)
    (q : ∀ f fw, RepV B s.heap ρ f fw → K f [v] → Q (fw, [u]) s) : wpAny (model prog w) A (getMethod u m pl) Q no s := by
  obtain ⟨n, at_, rfl, hn, k⟩ := instK_inv k
  obtain ⟨hc, k⟩ := condF k
  rw [Bool.and_eq_true, Option.isNone_iff_eq_none] at hc
  obtain ⟨p, ox, mm, hp, rfl, hne, hox, hcl, hd, hdi, hns, hm⟩ := S.instAt hn r
  obtain ⟨nm, q', sub, col, k0, k1, k2, k3, k5, hC⟩ := ok.cobj
  obtain ⟨dd, hdd⟩ := Option.isSome_iff_exists.mp hc.2
  obtain ⟨pa, bo, sc'⟩ := dd
  obtain ⟨x, _, _, hx, fn⟩ := ok.meth hdd
  obtain ⟨f, dV, pm, c, doc, P, dv, rfl, _, _, _, hf, _⟩ := fn
  obtain ⟨hh, g, d, t, os⟩ := s
  have hsh : mm m = none := by have := hm m; rw [hc.1] at this; exact this
  exact method_of (S.keep _ _ hC) (ok.names.keeps S.keep).ns ok.hooks.1 ok.hooks.2.1 hx (S.keep _ _ hf) rfl (lk_obj m) ⟨ox, hox, hcl, hd, .inr ⟨p.2, hdi, hne, hns⟩⟩ hsh (q _ _ (.mth m _ hx) k)
end
end Mine
end
section
set_option maxRecDepth 100000
set_option linter.unusedVariables false
open PySem PySem.W PyProof.Rows PySem.Claim2Try PySem.Pin
namespace Mine
section
variable {prog : Program} {w : World} {B : Bs} {G : Pg} {A : Around} {env : Env} {sc : Scope} {ρ ρ' : Rho} {σ : Hp} {s : Shared} {L : Loc} {h : Heap}
theorem sub_tail {value slice : Expr} {o i : Value} {T id : String} {Q : Value → Shared → Prop} (hT : s.TypeIs o T) (hl : typeLookup (.type T) "__getitem__" = pure (some (.builtin id)))
    (hs : subscripted slice false o i = operate [o, i] (getItem o i) ∨ subscripted slice false o i = operate [i, o] (getItem o i)) (g : wpAny (model prog w) A (getItem o i) Q no s) : wpAny (model prog w) A (subscriptTail value slice o i) Q no s := by
  unfold subscriptTail
  refine wpAny_bind ?_
  rw [getitemInPython_of_ne hT.not_modules]
  refine wpAny_bind (wpAny_specialOf hT hl ?_)
  have fin : wpAny (model prog w) A (subscripted slice false o i) (fun r s₃ => wpAny (model prog w) A (letTemporaryGo value o r >>= fun _ => pure r) Q no s₃) no s := by
    rcases hs with hs | hs <;> rw [hs] <;>
    exact wpAny_operating (wpAny_mono g (fun r s₃ h₃ => wpAny_bind (wpAny_letTemporaryGo (wpAny_pure h₃))) fun _ _ x => x)
  first
    | exact wpAny_pure (wpAny_bind fin)
    | exact wpAny_bind (wpAny_pure (wpAny_bind fin))
    | exact wpAny_bind fin
noncomputable def isCut : Expr → Bool
  | .Slice _ _ none _ => true
  | _ => false
theorem subscripted_plain {slice : Expr} {o i : Value} (hc : isCut slice = false) : subscripted slice false o i = operate [o, i] (getItem o i) := by
  cases slice with
  | Slice a b c p =>
    cases c with
    | none => cases hc
    | some _ => rfl
  | _ => rfl
theorem RepVs.at_ {vs : List AV} {ws : List Value} {v : AV} : ∀ {i : Nat}, RepVs B h ρ vs ws → nth vs i = some v → ∃ u, ws[i]? = some u ∧ RepV B h ρ v u := by
  intro i r
  induction vs generalizing ws i with
  | nil => intro e; cases e
  | cons x r' ih =>
    cases r with | cons a b =>
    intro e
    cases i with
    | zero => cases e; exact ⟨_, rfl, a⟩
    | succ i =>
      obtain ⟨u, h1, h2⟩ := ih b e
      exact ⟨u, by rw [List.getElem?_cons_succ]; exact h1, h2⟩
theorem RepVs.len {vs : List AV} {ws : List Value} (r : RepVs B h ρ vs ws) : ws.length = vs.length := by
  induction vs generalizing ws with
  | nil => cases r; rfl
  | cons x r' ih => cases r with | cons a b => rw [List.length_cons, List.length_cons, ih b]
theorem items_at {l : List (Str × Value)} {es : List Expr} {vs : List Value} (hi : Items l es vs) : ∀ {i : Nat} {e : Expr}, nth es i = some e → ∃ v, vs[i]? = some v ∧ Items l [e] [v] := by
  induction hi with
  | nil => intro i e h; cases h
  | name hv _ ih =>
    intro i e h
    cases i with
    | zero => cases h; exact ⟨_, rfl, .name hv .nil⟩
    | succ i => exact ih h
  | const hv _ ih =>
    intro i e h
    cases i with
    | zero => cases h; exact ⟨_, rfl, .const hv .nil⟩
    | succ i => exact ih h
theorem seqIndex_of {k : Int} {n : Nat} (h0 : 0 ≤ k) (hn : k.toNat < n) : seqIndex? k n = some k.toNat := by
  unfold seqIndex?
  split
  · omega
  · dsimp only
    rw [if_pos (by simp only [Bool.and_eq_true, decide_eq_true_eq]; omega)]
theorem oneK_inv {o : Option AV} {K : AV → Prop} (k : oneK o K) : ∃ u, o = some u ∧ K u := by
  cases o with
  | some u => exact ⟨u, rfl, k⟩
  | none => exact False.elim k
/-- the type of what is subscripted, and its item -/
theorem sound_item {v x : AV} {u y : Value} {K : KV} (ok : Ok B G) (k : itemI G v x σ fun z => K z σ) (S : St B ρ σ s) (r : RepV B s.heap ρ v u) (rx : RepV B s.heap ρ x y) :
    (∃ T id, s.TypeIs u T ∧ typeLookup (.type T) "__getitem__" = pure (some (.builtin id))) ∧ wpAny (model prog w) A (getItem u y) (PV B ρ s.heap K) no s := by
  cases x with
  | int i =>
    obtain ⟨t, rfl⟩ := rx.int_inv
    cases v with
    | loc n =>
      have k : objAt (nth σ n) i fun z => K z σ := k
      obtain ⟨p, hp, rfl⟩ := r.loc_inv
      cases hn : nth σ n with
      | none => rw [hn] at k; exact k.elim
      | some o =>
        rw [hn] at k
        rw [nth_eq] at hn
        cases o with
        | nums N f =>
          obtain ⟨hc, k⟩ := condF k
          rw [Bool.and_eq_true] at hc
          have c1 := of_decide_eq_true hc.1
          have c2 := of_decide_eq_true hc.2
          obtain ⟨_, its, e, h3, h4, h5, h6⟩ := S.obj _ p _ hp hn
          obtain ⟨t', ht'⟩ := h6 i.toNat (by omega)
          exact ⟨⟨"list", _, ⟨_, h3, rfl⟩, F.slot_list_getitem.lookup⟩, wpAny_getItem_list (isList_x h3) c1 (by omega) ht' (PV.of (.int _ _) S (.refl ..) k)⟩
        | list vs =>
          obtain ⟨hc, k⟩ := condF k
          obtain ⟨z, hz, k⟩ := oneK_inv k
          obtain ⟨_, hlen, its, e, ho, hr⟩ := S.obj _ p _ hp hn
          obtain ⟨u', hu', ru'⟩ := hr.at_ hz
          have hlt : i.toNat < vs.length := by rw [nth_eq] at hz; exact (List.getElem?_eq_some_iff.mp hz).1
          exact ⟨⟨"list", _, ⟨_, ho, rfl⟩, F.slot_list_getitem.lookup⟩, wpAny_getItem_list (isList_x ho) (of_decide_eq_true hc) (by omega) (by rw [← Array.getElem?_toList]; exact hu') (PV.of ru' S (.refl ..) k)⟩
        | _ => exact False.elim k
    | tup vs =>
      obtain ⟨hc, k⟩ := condF k
      rw [Bool.and_eq_true] at hc
      have c1 := of_decide_eq_true hc.1
      have c2 := of_decide_eq_true hc.2
      obtain ⟨z, hz, k⟩ := oneK_inv k
      obtain ⟨a, its, e, rfl, hno, ho, hr⟩ := r.tup_inv
      obtain ⟨u', hu', ru'⟩ := hr.at_ hz
      have hlt : i.toNat < its.toList.length := (List.getElem?_eq_some_iff.mp hu').1
      refine ⟨⟨"tuple", _, ⟨_, ho, rfl⟩, PySem.F.slot_tuple_getitem.lookup⟩, ?_⟩
      exact PyProof.Rows.getItem_tuple (j := i.toNat) ⟨_, ho, rfl, e, rfl⟩ (by omega) (by omega) (seqIndex_of c1 hlt) (by rw [← Array.getElem?_toList]; exact hu') (PV.of ru' S (.refl ..) k)
    | clst x =>
      obtain ⟨hc, k⟩ := condF k
      rw [Bool.and_eq_true] at hc
      have c1 := of_decide_eq_true hc.1
      have c2 := of_decide_eq_true hc.2
      cases hst : clsFind x G.body with
      | none => rw [hst] at k; exact False.elim k
      | some st =>
      rw [hst] at k
      obtain ⟨v', hl, mx⟩ := ok.mem _ _ hst
      cases mx with
      | asg _ => exact False.elim k
      | fn _ => exact False.elim k
      | @lst _ _ es _ _ a vs _ ha hit =>
      have k : eltI (nth es i.toNat) fun z => K z σ := k
      cases he : nth es i.toNat with
      | none => rw [he] at k; exact k.elim
      | some e =>
        rw [he] at k
        have e1 : u = .ref a := by cases r with | clst _ _ q => rw [hl] at q; cases q; rfl
        subst e1
        have ho := S.keep _ _ ha
        refine ⟨⟨"list", _, ⟨_, ho, rfl⟩, F.slot_list_getitem.lookup⟩, ?_⟩
        obtain ⟨z, hz, one⟩ := items_at hit he
        have hz : vs.toArray[i.toNat]? = some z := by rw [List.getElem?_toArray]; exact hz
        cases one with
        | name hv _ => exact wpAny_getItem_list ⟨_, ho, rfl, _, rfl⟩ c1 (by omega) hz (PV.of (.mth _ z hv) S (.refl ..) k)
        | @const c _ _ _ _ _ hv _ =>
          cases c with
          | int c =>
            obtain ⟨t', rfl⟩ := hv
            exact wpAny_getItem_list ⟨_, ho, rfl, _, rfl⟩ c1 (by omega) hz (PV.of (.int _ _) S (.refl ..) k)
          | _ => exact False.elim k
    | _ => exact False.elim k
  | _ => exact False.elim k
theorem set_ints {its : Array Value} {N j : Nat} {f : Nat → Int} {x : Int} {t : Tok} (hs : its.size = N) (hf : ∀ i, i < N → ∃ t, its[i]? = some (.int (f i) t)) (hj : j < N) :
    ∀ i, i < N → ∃ t', (its.setIfInBounds j (.int x t))[i]? = some (.int (setF f j x i) t') := by
  intro i hi
  unfold setF
  rw [Array.getElem?_setIfInBounds]
  by_cases e : j = i
  · subst e
    rw [if_pos rfl, if_pos (by omega), Nat.beq_refl]
    exact ⟨t, rfl⟩
  · rw [if_neg e, show Nat.beq i j = false by rw [Bool.eq_false_iff]; intro q; exact e (Nat.eq_of_beq_eq_true q).symm]
    exact hf i hi
theorem sound_setItem {v x z : AV} {u y c : Value} {K : Hp → Prop} {Q : Unit → Shared → Prop} (k : setItemI v x z σ K) (S : St B ρ σ s) (r : RepV B s.heap ρ v u) (rx : RepV B s.heap ρ x y) (rz : RepV B s.heap ρ z c)
    (q : ∀ σ' s', St B ρ σ' s' → Ext [] s.heap ρ s'.heap ρ → K σ' → Q () s') : wpAny (model prog w) A (setItem u y c) Q no s := by
  obtain ⟨n, N, f, k, p, its, e, h1, rfl, h2, h3, h4, h5, h6⟩ := S.numsR k r
  obtain ⟨i, val, t, t2, rfl, rfl, k⟩ := intR k rx rz
  obtain ⟨hc, k⟩ := condF k
  rw [Bool.and_eq_true] at hc
  have c1 := of_decide_eq_true hc.1
  have c2 := of_decide_eq_true hc.2
  refine setItem_x h3 c1 (by omega) (by omega) fun h' e' ho' sb => ?_
  obtain ⟨S', E'⟩ := S.set (h' := h') (tk := s.toks) (d := s.drawn) (o := .nums N (setF f i.toNat val)) h1 (fun b o hb _ hbo => (sb.2 b hb).trans hbo) ⟨_, ho'⟩ (by rw [h2]; exact ⟨_, ho'⟩)
    ⟨h2, _, e', ho', by rw [Array.size_setIfInBounds]; exact h4, h5, set_ints h4 h6 (j := i.toNat) (by omega)⟩
  rw [setN_eq] at k
  exact q _ _ S' E' k
end
end Mine
end
section
set_option maxRecDepth 100000
set_option linter.unusedVariables false
open PySem PySem.W PyProof.Rows PySem.Claim2Try PySem.Pin
namespace Mine
section
variable {prog : Program} {w : World} {B : Bs} {G : Pg} {A : Around} {env : Env} {sc : Scope} {ρ ρ' : Rho} {σ : Hp} {s : Shared} {L : Loc} {h : Heap}
theorem bound_part {n d j : Nat} {a : AV} {u : Value} (hb : boundI n d a = some j) (hd : d ≤ n) (r : RepV B h ρ a u) : ∃ lo, IsPart u lo ∧ ((lo = none ∧ j = d) ∨ ∃ i : Int, lo = some i ∧ 0 ≤ i ∧ j = min i.toNat n) := by
  unfold boundI at hb
  split at hb
  · cases hb; rw [r.none_inv]; exact ⟨none, .none, .inl ⟨rfl, rfl⟩⟩
  · rename_i i
    obtain ⟨t, rfl⟩ := r.int_inv
    cases hc : decide (0 ≤ i) with
    | false => rw [hc] at hb; cases hb
    | true => rw [hc] at hb; cases hb; exact ⟨some i, .int i t, .inr ⟨i, rfl, of_decide_eq_true hc, rfl⟩⟩
  · cases hb
theorem bounds_eq {n i j : Nat} {lo hi : Option Int} (h1 : (lo = none ∧ i = 0) ∨ ∃ x : Int, lo = some x ∧ 0 ≤ x ∧ i = min x.toNat n) (h2 : (hi = none ∧ j = n) ∨ ∃ x : Int, hi = some x ∧ 0 ≤ x ∧ j = min x.toNat n) :
    sliceBounds lo hi none n = ((i : Int), (j : Int), 1) := by
  rcases h1 with ⟨rfl, rfl⟩ | ⟨x, rfl, hx, rfl⟩ <;> rcases h2 with ⟨rfl, rfl⟩ | ⟨y, rfl, hy, rfl⟩ <;>
    simp only [sliceBounds, Option.getD_none, show (1 : Int) > 0 by decide, if_true]
  · rfl
  · rw [if_neg (show ¬ (y < 0) by omega)]; congr 1; congr 1; omega
  · rw [if_neg (show ¬ (x < 0) by omega)]; congr 1; omega
  · rw [if_neg (show ¬ (x < 0) by omega), if_neg (show ¬ (y < 0) by omega)]
    refine Prod.ext ?_ (Prod.ext ?_ rfl) <;> dsimp only <;> omega
theorem pick_ints {its : Array Value} {n i j : Nat} {f : Nat → Int} {lo hi : Option Int} (hs : its.size = n) (hf : ∀ i, i < n → ∃ t, its[i]? = some (.int (f i) t)) (hj : j ≤ n)
    (h1 : (lo = none ∧ i = 0) ∨ ∃ x : Int, lo = some x ∧ 0 ≤ x ∧ i = min x.toNat n) (h2 : (hi = none ∧ j = n) ∨ ∃ x : Int, hi = some x ∧ 0 ≤ x ∧ j = min x.toNat n) :
    (slicePick its lo hi none).size = j - i ∧ ∀ k, k < j - i → ∃ t, (slicePick its lo hi none)[k]? = some (.int (cutF i f k) t) := by
  subst hs
  rw [kmk_pick_nat its (bounds_eq h1 h2)]
  refine ⟨by rw [List.size_toArray, List.length_take, List.length_drop, Array.length_toList]; omega, fun k hk => ?_⟩
  rw [List.getElem?_toArray, List.getElem?_take_of_lt hk, List.getElem?_drop, Array.getElem?_toList]
  exact hf (i + k) (by omega)
theorem sound_cut {v a b : AV} {u va vb : Value} {sl : Addr} {K : KV} (ok : Ok B G) (k : sliceI G v a b σ K) (S : St B ρ σ s) (r : RepV B s.heap ρ v u) (ra : RepV B s.heap ρ a va) (rb : RepV B s.heap ρ b vb) (hsl : s.heap.IsSliceOf sl va vb .none) :
    s.TypeIs u "list" ∧ wpAny (model prog w) A (getItem u (.ref sl)) (PV B ρ s.heap K) no s := by
  have all : ∀ {l : Addr} {its : Array Value} {n i j : Nat} {f : Nat → Int}, s.heap.IsList l its → its.size = n → n ≤ 1000000 → (∀ i, i < n → ∃ t, its[i]? = some (.int (f i) t)) → boundI n 0 a = some i → boundI n n b = some j →
      K (.loc σ.length) (σ ++ [.nums (j - i) (cutF i f)]) → wpAny (model prog w) A (getItem (.ref l) (.ref sl)) (PV B ρ s.heap K) no s := by
    intro l its n i j f hl hs hn hf hi hj hk
    obtain ⟨lo, pl, q1⟩ := bound_part hi (Nat.zero_le _) ra
    obtain ⟨hi', pu, q2⟩ := bound_part hj (Nat.le_refl _) rb
    have hjn : j ≤ n := by rcases q2 with ⟨_, e⟩ | ⟨x, _, _, e⟩ <;> omega
    obtain ⟨z1, z2⟩ := pick_ints hs hf hjn q1 q2
    refine wpAny_getItem_list_slice hl hsl pl pu .none (by intro q; cases q) ?_ (by rw [sizeLine]; omega)
    obtain ⟨S', E'⟩ := S.newNums (its := slicePick its lo hi' none) (e := 0) (N := j - i) (f := cutF i f) z1 (by omega) z2 s.toks s.drawn
    exact PV.of (.loc _ _ S.lenAt) S' E' hk
  unfold sliceI at k
  split at k
  · split at k
    · rename_i i j hi hj
      obtain ⟨its, hl, hs, hn, hf⟩ := ok.scr
      have hl' : s.heap.IsList B.scr its := let ⟨o, ho, hc, hd⟩ := hl; ⟨o, S.keep _ _ ho, hc, hd⟩
      cases r
      exact ⟨let ⟨o, ho, hc, _⟩ := hl'; ⟨o, ho, hc⟩, all hl' hs hn hf hi hj k⟩
    · exact k.elim
  · split at k
    · rename_i N f hm
      split at k
      · rename_i i j hi hj
        obtain ⟨p, its, e, h1, rfl, h2, h3, h4, h5, h6⟩ := S.nums hm r
        exact ⟨⟨_, h3, rfl⟩, all (isList_x h3) h4 h5 h6 hi hj k⟩
      · exact k.elim
    · exact k.elim
  · exact k.elim
end
end Mine
end
section
set_option maxRecDepth 100000
set_option linter.unusedVariables false
open PySem PySem.W PyProof.Rows PySem.Claim2Try PySem.Pin
namespace Mine
noncomputable def PVs (B : Bs) (ρ : Rho) (h : Heap) (K : List AV → Hp → Prop) : List Value → Shared → Prop := fun ws s' => ∃ vs σ' ρ', RepVs B s'.heap ρ' vs ws ∧ St B ρ' σ' s' ∧ Ext [] h ρ s'.heap ρ' ∧ K vs σ'
noncomputable def RepKs (B : Bs) (h : Heap) (ρ : Rho) (ks : List (Str × AV)) (kw : List (Str × Value)) : Prop := kw.map (·.1) = ks.map (·.1) ∧ RepVs B h ρ (ks.map (·.2)) (kw.map (·.2))
noncomputable def Kept (M : Model) (f : Value) (h : Heap) : Prop := ∃ k, (k = Keeper.frame ∨ k = Keeper.machine ∨ k = Keeper.boundFrame) ∧ Looks M h (keeperOf f) k
structure Snd (prog : Program) (w : World) (B : Bs) (I : In) (d : Nat) : Prop where
  ev : ∀ {sc e L σ K}, I.ev sc e L σ K → ∀ {A env ρ s}, AOk d A → EnvOk env sc → St B ρ σ s → Lo B env L ρ s.heap → wpAny (model prog w) A (eval e env) (PV B ρ s.heap K) no s
  ts : ∀ {sc e L σ K}, I.ts sc e L σ K → ∀ {A env ρ s}, AOk d A → EnvOk env sc → St B ρ σ s → Lo B env L ρ s.heap → wpAny (model prog w) A (isTrue e env (eval e env)) (PB B ρ s.heap K) no s
  ca : ∀ {f vs ks σ K}, I.ca f vs ks σ K → ∀ {A ρ s fw ws kws}, AOk d A → St B ρ σ s → RepV B s.heap ρ f fw → RepVs B s.heap ρ vs ws → RepKs B s.heap ρ ks kws → Kept (model prog w) fw s.heap ∧ wpAny (model prog w) A (call fw ws kws) (PV B ρ s.heap K) no s
  ex : ∀ {sc st L σ K}, I.ex sc st L σ K → ∀ {A env ρ s}, AOk d A → EnvOk env sc → St B ρ σ s → Lo B env L ρ s.heap → wpAny (model prog w) A (exec st env) (PF B ρ s.heap env K) no s
section
variable {prog : Program} {w : World} {B : Bs} {G : Pg} {I : In} {d : Nat} {A : Around} {env : Env} {sc : Scope} {ρ ρ' : Rho} {σ : Hp} {s : Shared} {L : Loc} {h : Heap}
theorem wpAny_gotS {M : Model} {t : Sem (List Value)} {K : List AV → Hp → Prop} {Q : List Value → Shared → Prop} (a : wpAny M A t (PVs B ρ h K) no s)
    (b : ∀ v w σ1 ρ1 s1, RepVs B s1.heap ρ1 v w → St B ρ1 σ1 s1 → Ext [] h ρ s1.heap ρ1 → K v σ1 → Q w s1) : wpAny M A t Q no s :=
  wpAny_mono a (fun w s1 ⟨v, σ1, ρ1, r, S, e, k⟩ => b v w σ1 ρ1 s1 r S e k) fun _ _ x => x
theorem star_each {es : List Expr} (hs : es.all noStar = true) (pos : Pos) : backTo pos (starEach es env) = es.map fun e => (false, eval e env) := by
  induction es with
  | nil => rfl
  | cons e r ih =>
    rw [List.all_cons, Bool.and_eq_true] at hs
    rw [List.map_cons, ← ih hs.2]
    cases e <;> first | rfl | cases hs.1
theorem sound_seq (sn : Snd prog w B I d) (ao : AOk d A) (eo : EnvOk env sc) : ∀ {es : List Expr} {K : List AV → Hp → Prop} {σ : Hp} {ρ : Rho} {s : Shared}, seqI (fun e σ1 K1 => I.ev sc e L σ1 K1) es σ K → St B ρ σ s → Lo B env L ρ s.heap →
    wpAny (model prog w) A (spliced (es.map fun e => (false, eval e env))) (PVs B ρ s.heap K) no s
  | [], K, σ, ρ, s, k, S, l => Calls.spliced_nil ⟨[], σ, ρ, .nil, S, .refl .., k⟩
  | e :: r, K, σ, ρ, s, k, S, l => by
    refine Calls.spliced_cons (wpAny_got (sn.ev k ao eo S l) fun a v σ1 ρ1 s1 ra S1 e1 k1 => ?_)
    refine wpAny_gotS (sound_seq sn ao eo k1 S1 (l.ext0 e1)) fun as vs σ2 ρ2 s2 rs S2 e2 k2 => ?_
    exact ⟨a :: as, σ2, ρ2, .cons (ra.ext0 e2) rs, S2, e1.trans e2, k2⟩
theorem kw_each (kws : List Keyword) (pos : Pos) : (backToKw pos (keywordEach kws env)).map (·.2) = kws.map fun k => (do let v ← eval k.value env; standAt pos; pure v) := by
  induction kws with
  | nil => rfl
  | cons x r ih =>
    obtain ⟨n, e, p⟩ := x
    show (do let v ← eval e env; standAt pos; pure v) :: _ = _
    rw [List.map_cons, ← ih]; rfl
theorem kw_names (kws : List Keyword) (pos : Pos) : (backToKw pos (keywordEach kws env)).map (·.1) = kws.map fun k => k.arg := by
  induction kws with
  | nil => rfl
  | cons x r ih =>
    obtain ⟨n, e, p⟩ := x
    show n :: _ = _
    rw [List.map_cons, ← ih]; rfl
theorem sound_kw (sn : Snd prog w B I d) (ao : AOk d A) (eo : EnvOk env sc) {pos : Pos} : ∀ {kws : List Keyword} {K : List (Str × AV) → Hp → Prop} {σ : Hp} {ρ : Rho} {s : Shared}, kwI (fun e σ1 K1 => I.ev sc e L σ1 K1) kws σ K → St B ρ σ s → Lo B env L ρ s.heap →
    wpAny (model prog w) A (evalAll (kws.map fun k => (do let v ← eval k.value env; standAt pos; pure v))) (fun ws s' => ∃ ks σ' ρ', ks.map (·.1) = kws.filterMap (fun k => k.arg) ∧ (kws.all fun k => k.arg.isSome) = true ∧ RepVs B s'.heap ρ' (ks.map (·.2)) ws ∧ St B ρ' σ' s' ∧ Ext [] s.heap ρ s'.heap ρ' ∧ K ks σ') no s
  | [], K, σ, ρ, s, k, S, l => wpAny_evalAll_nil ⟨[], σ, ρ, rfl, rfl, .nil, S, .refl .., k⟩
  | ⟨some x, e, p⟩ :: r, K, σ, ρ, s, k, S, l => by
    refine wpAny_evalAll_cons (wpAny_bind (wpAny_got (sn.ev k ao eo S l) fun a v σ1 ρ1 s1 ra S1 e1 k1 => wpAny_bind (wpAny_standAt (wpAny_pure ?_))))
    refine wpAny_mono (sound_kw sn ao eo k1 S1 (l.ext0 e1)) (fun vs s2 ⟨as, σ2, ρ2, hn, hall, rs, S2, e2, k2⟩ => ?_) fun _ _ x => x
    exact ⟨(x, a) :: as, σ2, ρ2, by rw [List.map_cons, hn]; rfl, by rw [List.all_cons, hall]; rfl, .cons (ra.ext0 e2) rs, S2, e1.trans e2, k2⟩
  | ⟨none, e, p⟩ :: r, K, σ, ρ, s, k, S, l => by exact k.elim
theorem RepVs.append {vs us : List AV} {ws xs : List Value} (a : RepVs B h ρ vs ws) (b : RepVs B h ρ us xs) : RepVs B h ρ (vs ++ us) (ws ++ xs) := by
  induction vs generalizing ws with
  | nil => cases a; exact b
  | cons v r ih => cases a with | cons x y => exact .cons x (ih y)
theorem zip_map {α β : Type} : ∀ {xs : List α} {ys : List β}, xs.length = ys.length → (xs.zip ys).map (·.1) = xs ∧ (xs.zip ys).map (·.2) = ys
  | [], [], _ => ⟨rfl, rfl⟩
  | x :: xs, y :: ys, hl => by
    obtain ⟨a, b⟩ := zip_map (xs := xs) (ys := ys) (Nat.succ.inj hl)
    exact ⟨by rw [List.zip_cons_cons, List.map_cons, a], by rw [List.zip_cons_cons, List.map_cons, b]⟩
/-- the arguments, then the call -/
theorem sound_args (sn : Snd prog w B I d) (ao : AOk d A) (eo : EnvOk env sc) {f : AV} {fw : Value} {first : List AV} {fs : List Value} {args : List Expr} {kws : List Keyword} {pos : Pos} {K : KV} (hst : args.all noStar = true) (hkn : kws.all kwNamed = true) (S : St B ρ σ s) (l : Lo B env L ρ s.heap) (rf : RepV B s.heap ρ f fw) (r1 : RepVs B s.heap ρ first fs)
    (k : seqI (fun e σ1 K1 => I.ev sc e L σ1 K1) args σ fun vs σ2 => kwI (fun e σ1 K1 => I.ev sc e L σ1 K1) kws σ2 fun ks σ3 => I.ca f (first ++ vs) ks σ3 K) :
    wpAny (model prog w) A (callWith pos fw fs (backTo pos (starEach args env)) (backToKw pos (keywordEach kws env))) (PV B ρ s.heap K) no s := by
  have body : ∀ {vs : List AV} {ws : List Value} {σ1 : Hp} {ρ1 : Rho} {s1 : Shared}, RepVs B s1.heap ρ1 vs ws → St B ρ1 σ1 s1 → Ext [] s.heap ρ s1.heap ρ1 → kwI (fun e σ1 K1 => I.ev sc e L σ1 K1) kws σ1 (fun ks σ3 => I.ca f (first ++ vs) ks σ3 K) →
      wpAny (model prog w) A (evalAll ((backToKw pos (keywordEach kws env)).map (·.2))) (fun ks s₂ => Kept (model prog w) fw s₂.heap ∧ wpAny (model prog w) A (call fw (fs ++ ws) (((backToKw pos (keywordEach kws env)).filterMap (·.1)).zip ks)) (PV B ρ s.heap K) no s₂) no s1 := by
    intro vs ws σ1 ρ1 s1 r S1 e1 k1
    rw [kw_each]
    refine wpAny_mono (sound_kw sn ao eo k1 S1 (l.ext0 e1)) (fun kv s2 ⟨ks, σ2, ρ2, hn, hall, rk, S2, e2, k2⟩ => ?_) fun _ _ x => x
    have e12 := e1.trans e2
    have hlen : (kws.filterMap fun k => k.arg).length = kv.length := by rw [← hn, List.length_map, rk.len, List.length_map]
    have hnm : (backToKw pos (keywordEach kws env)).filterMap (·.1) = kws.filterMap fun k => k.arg := by
      have := kw_names (env := env) kws pos
      have e3 : (backToKw pos (keywordEach kws env)).filterMap (·.1) = ((backToKw pos (keywordEach kws env)).map (·.1)).filterMap id := by rw [List.filterMap_map]; rfl
      rw [e3, this, List.filterMap_map]; rfl
    rw [hnm]
    obtain ⟨z1, z2⟩ := zip_map hlen
    have app : RepVs B s2.heap ρ2 (first ++ vs) (fs ++ ws) := (r1.ext0 e12).append (r.ext0 e2)
    obtain ⟨c1, c2⟩ := sn.ca k2 (kws := (kws.filterMap fun k => k.arg).zip kv) ao S2 (rf.ext0 e12) app ⟨by rw [z1, hn], by rw [z2]; exact rk⟩
    exact ⟨c1, wpAny_mono c2 (fun _ _ x => x.up e12) fun _ _ x => x⟩
  have hkw : (backToKw pos (keywordEach kws env)).all (·.1.isSome) = true := by
    have e3 : (backToKw pos (keywordEach kws env)).all (·.1.isSome) = ((backToKw pos (keywordEach kws env)).map (·.1)).all (·.isSome) := by rw [List.all_map]; rfl
    rw [e3, kw_names, List.all_map]; exact hkn
  have hkw2 : (backToKw pos (keywordEach kws env)).any (·.1.isNone) = false := by
    rw [List.any_eq_false]
    intro x hx
    have := List.all_eq_true.mp hkw x hx
    cases hy : x.1 with
    | none => rw [hy] at this; cases this
    | some y => exact fun q => nomatch q
  have hst' : (backTo pos (starEach args env)).any (·.1) = false := by
    rw [star_each hst, List.any_map]
    rw [List.any_eq_false]
    intro x _ q
    cases q
  refine callWith_of (P := Kept (model prog w) fw) (by rw [hst', hkw2]; rfl) (fun _ q => q) ?_
  rw [star_each hst]
  cases args with
  | nil =>
    refine evalArgs_kw_nil hkw (wpAny_mono (body .nil S (.refl ..) k) (fun ks s2 q => ?_) fun _ _ x => x)
    exact q
  | cons e r =>
    rw [List.map_cons]
    refine evalArgs_kw hkw ?_
    rw [← List.map_cons (f := fun e => (false, eval e env))]
    exact wpAny_gotS (sound_seq sn ao eo k S l) fun vs ws σ1 ρ1 s1 rs S1 e1 k1 => body rs S1 e1 k1
end
end Mine
end
section
set_option maxRecDepth 100000
set_option linter.unusedVariables false
open PySem PySem.W PyProof.Rows PySem.Claim2Try PySem.Pin
namespace Mine
section
variable {prog : Program} {w : World} {B : Bs} {G : Pg} {I : In} {d : Nat} {A : Around} {env : Env} {sc : Scope} {ρ ρ' : Rho} {σ : Hp} {s : Shared} {L : Loc} {h : Heap}
theorem base_plain {o : Expr} {a : Str} {t : Sem Value} (hb : plainBase o = true) : attributeBase o a env t = t := by
  cases o <;> first | rfl | cases hb
theorem callee_few {args : List Expr} {pos : Pos} {n : Nat} (hst : args.all noStar = true) (hn : n < 20) : methodCallForm n (backTo pos (starEach args env)) (backToKw pos (keywordEach [] env)) = true := by
  unfold methodCallForm
  rw [star_each hst]
  have : (args.map fun e => (false, eval e env)).all (fun x => !x.1) = true := by rw [List.all_map, List.all_eq_true]; intro _ _; rfl
  rw [this]
  show (true && true && decide (n + 0 < 30)) = true
  rw [decide_eq_true (by omega)]; rfl
theorem sound_methodCall (ok : Ok B G) (sn : Snd prog w B I d) (ao : AOk d A) (eo : EnvOk env sc) {o : Expr} {m : Str} {ap pos : Pos} {args : List Expr} {K : KV} (S : St B ρ σ s) (l : Lo B env L ρ s.heap)
    (hb : plainBase o = true) (hline : Nat.beq ap.endLine pos.line = true) (hn : args.length < 20) (hst : args.all noStar = true)
    (k : I.ev sc o L σ fun v σ1 => calleeI G v m σ1 fun f first => seqI (fun e σ1 K1 => I.ev sc e L σ1 K1) args σ1 fun vs σ2 => I.ca f (first ++ vs) [] σ2 K) :
    wpAny (model prog w) A (eval (.Call (.Attribute o m ap) args [] pos) env) (PV B ρ s.heap K) no s := by
  rw [arm_eval_Call, base_plain hb]
  refine wpAny_then (sn.ev k ao eo S l) fun v u σ1 ρ1 s1 r S1 e1 k1 => wpAny_bind (wpAny_standAt ?_)
  unfold methodCall
  have few : methodCallForm (args.length + ([] : List Keyword).length) (backTo pos (starEach args env)) (backToKw pos (keywordEach [] env)) = true := callee_few hst hn
  refine wpAny_bind (wpAny_holding ?_)
  rw [few]
  unfold calleeOf
  rw [if_pos rfl]
  refine sound_callee ok k1 S1 r fun f fw rf kf => ?_
  dsimp only
  unfold methodCallPos
  have hl : (ap.endLine == pos.line) = true := beq_iff_eq.mpr (Nat.eq_of_beq_eq_true hline)
  rw [if_pos (by rw [hl, Bool.or_true])]
  refine wpAny_bind (wpAny_pure ?_)
  refine wpAny_mono (sound_args sn ao eo (kws := []) (first := [v]) (fs := [u]) hst rfl S1 (l.ext0 e1) rf (.cons r .nil) kf) (fun _ _ x => x.up e1) fun _ _ x => x
theorem eval_Call_plain {f : Expr} {args : List Expr} {kws : List Keyword} {pos : Pos} (hf : ∀ o n p, f ≠ .Attribute o n p) : eval (.Call f args kws pos) env = (do callWith pos (← eval f env) [] (backTo pos (starEach args env)) (backToKw pos (keywordEach kws env))) := by
  cases f <;> first | rfl | exact (hf _ _ _ rfl).elim
theorem sound_chain (sn : Snd prog w B I d) (ao : AOk d A) (eo : EnvOk env sc) {pos : Pos} {op : BoolOp} : ∀ {es : List Expr} {K : KV} {σ : Hp} {ρ : Rho} {s : Shared}, chainI (fun e σ1 K1 => I.ev sc e L σ1 K1) op es σ K → St B ρ σ s → Lo B env L ρ s.heap →
    wpAny (model prog w) A (boolOp pos op (evalEach es env)) (PV B ρ s.heap K) no s
  | [], K, σ, ρ, s, k, S, l => k.elim
  | [e], K, σ, ρ, s, k, S, l => sn.ev k ao eo S l
  | e :: e2 :: r, K, σ, ρ, s, k, S, l => by
    show wpAny _ A (boolOp pos op (eval e env :: evalEach (e2 :: r) env)) _ _ _
    unfold boolOp
    refine wpAny_then (sn.ev k ao eo S l) fun v u σ1 ρ1 s1 rv S1 e1 k1 => wpAny_bind (wpAny_standAt (wpAny_bind (wpAny_holding (sound_truth k1 rv fun b kb => ?_))))
    cases op with
    | And =>
      cases b with
      | false => exact wpAny_pure (PV.of rv S1 e1 kb)
      | true => exact wpAny_mono (sound_chain sn ao eo kb S1 (l.ext0 e1)) (fun _ _ x => x.up e1) fun _ _ x => x
    | Or =>
      cases b with
      | true => exact wpAny_pure (PV.of rv S1 e1 kb)
      | false => exact wpAny_mono (sound_chain sn ao eo kb S1 (l.ext0 e1)) (fun _ _ x => x.up e1) fun _ _ x => x
theorem sound_opt (sn : Snd prog w B I d) (ao : AOk d A) (eo : EnvOk env sc) {e : Option Expr} {K : KV} (k : optI (fun e σ1 K1 => I.ev sc e L σ1 K1) e σ K) (S : St B ρ σ s) (l : Lo B env L ρ s.heap) :
    wpAny (model prog w) A (valueOrNone (evalOpt e env)) (PV B ρ s.heap K) no s := by
  cases e with
  | none => exact wpAny_pure (PV.of .none S (.refl ..) k)
  | some e => exact sn.ev k ao eo S l
theorem sound_slice (ok : Ok B G) (sn : Snd prog w B I d) (ao : AOk d A) (eo : EnvOk env sc) {o : Expr} {lo hi : Option Expr} {p pos : Pos} {K : KV} (S : St B ρ σ s) (l : Lo B env L ρ s.heap)
    (k : I.ev sc o L σ fun v σ1 => optI (fun e σ1 K1 => I.ev sc e L σ1 K1) lo σ1 fun a σ2 => optI (fun e σ1 K1 => I.ev sc e L σ1 K1) hi σ2 fun b σ3 => sliceI G v a b σ3 K) :
    wpAny (model prog w) A (eval (.Subscript o (.Slice lo hi none p) pos) env) (PV B ρ s.heap K) no s := by
  refine Subscript_ (wpAny_got (sn.ev k ao eo S l) fun v u σ1 ρ1 s1 r S1 e1 k1 => ?_)
  rw [arm_eval_Slice]
  refine wpAny_then (sound_opt sn ao eo k1 S1 (l.ext0 e1)) fun a va σ2 ρ2 s2 ra S2 e2 k2 => ?_
  have l2 := (l.ext0 e1).ext0 e2
  refine wpAny_bind (wpAny_holding (wpAny_got (sound_opt sn ao eo k2 S2 l2) fun b vb σ3 ρ3 s3 rb S3 e3 k3 => ?_))
  refine wpAny_bind (wpAny_holding (wpAny_pure ?_))
  unfold newFields
  refine wpAny_newObj_type ?_ (by size_fits)
  obtain ⟨hh, g, dd, t, os⟩ := s3
  have hsl : (hh.push { cls := .type "slice", data := .fields [va, vb, Value.none].toArray }).IsSliceOf hh.objs.size va vb .none := Heap.IsSliceOf.new hh va vb .none
  have E4 : Ext [] hh ρ3 (hh.push { cls := .type "slice", data := .fields [va, vb, Value.none].toArray }) ρ3 := .push _
  have S4 : St B ρ3 σ3 ⟨hh.push { cls := .type "slice", data := .fields [va, vb, Value.none].toArray }, g, dd, t, os⟩ := S3.push _
  have E23 := e2.trans e3
  obtain ⟨hT, hg⟩ := sound_cut (prog := prog) (w := w) (A := A) ok k3 S4 ((r.ext0 E23).ext0 E4) ((ra.ext0 e3).ext0 E4) (rb.ext0 E4) hsl
  refine sub_tail hT F.slot_list_getitem.lookup (.inr rfl) (wpAny_mono hg (fun _ _ x => x.up ((e1.trans E23).trans E4)) fun _ _ x => x)
theorem mkList_rep {vs : List AV} {ws : List Value} {e : Nat} (hl : vs.length ≤ 1000000) (p : Addr) (ho : h.get? p = some (listOf ws.toArray e)) (r : RepVs B h ρ vs ws) : RepO B h ρ (p, p) (mkList vs) := by
  unfold mkList
  split
  · rename_i l hl'
    obtain ⟨h1, h2⟩ := ints_rep hl' r
    refine ⟨rfl, ws.toArray, e, ho, by rw [List.size_toArray, h1], by rw [← h1, r.len]; exact hl, fun i hi => ?_⟩
    rw [List.getElem?_toArray]
    exact h2 i hi
  · exact ⟨rfl, hl, ws.toArray, e, ho, r⟩
theorem sound_list (sn : Snd prog w B I d) (ao : AOk d A) (eo : EnvOk env sc) {es : List Expr} {pos : Pos} {K : KV} (hst : es.all noStar = true) (hn : es.length < 1000) (S : St B ρ σ s) (l : Lo B env L ρ s.heap)
    (k : seqI (fun e σ1 K1 => I.ev sc e L σ1 K1) es σ fun vs σ1 => K (.loc σ1.length) (σ1 ++ [mkList vs])) : wpAny (model prog w) A (eval (.List es pos) env) (PV B ρ s.heap K) no s := by
  refine wpAny_List_spliced ?_
  rw [star_each hst]
  have hlen : ∀ {es : List Expr} {K : List AV → Hp → Prop} {σ : Hp} {ρ : Rho} {s : Shared}, seqI (fun e σ1 K1 => I.ev sc e L σ1 K1) es σ K → St B ρ σ s → Lo B env L ρ s.heap →
      wpAny (model prog w) A (spliced (es.map fun e => (false, eval e env))) (fun ws s' => ws.length = es.length ∧ PVs B ρ s.heap K ws s') no s := by
    intro es
    induction es with
    | nil => intro K σ ρ s k S l; exact Calls.spliced_nil ⟨rfl, [], σ, ρ, .nil, S, .refl .., k⟩
    | cons e r ih =>
      intro K σ ρ s k S l
      refine Calls.spliced_cons (wpAny_got (sn.ev k ao eo S l) fun a v σ1 ρ1 s1 ra S1 e1 k1 => ?_)
      refine wpAny_mono (ih k1 S1 (l.ext0 e1)) (fun vs s2 ⟨hl, as, σ2, ρ2, rs, S2, e2, k2⟩ => ?_) fun _ _ x => x
      exact ⟨by rw [List.length_cons, List.length_cons, hl], a :: as, σ2, ρ2, .cons (ra.ext0 e2) rs, S2, e1.trans e2, k2⟩
  refine wpAny_mono (hlen k S l) (fun ws s1 ⟨hl, vs, σ1, ρ1, rs, S1, e1, k1⟩ => ⟨by rw [hl, sizeLine]; omega, ?_⟩) fun _ _ x => x
  obtain ⟨S2, E2⟩ := S1.new (h' := s1.heap.push (listOf ws.toArray 0)) (tk := s1.toks) (d := s1.drawn) (p := (s1.heap.objs.size, s1.heap.objs.size)) (o := mkList vs) (fun b o e => Heap.get?_push_of_some _ e) (get?_size _) (get?_size _) ⟨_, Heap.get?_push_size _ rfl⟩ ⟨_, Heap.get?_push_size _ rfl⟩
    (mkList_rep (e := 0) (by rw [← rs.len, hl]; omega) _ (Heap.get?_push_size _ rfl) (rs.ext0 ⟨⟨⟨_, rfl, fun q hq => by rw [List.mem_singleton.mp hq]; exact ⟨get?_size _, get?_size _⟩⟩, fun b o _ _ e => Heap.get?_push_of_some _ e⟩, fun b o e => ⟨o, Heap.get?_push_of_some _ e⟩⟩))
  exact PV.of (.loc _ _ S1.lenAt) S2 (e1.trans E2) k1
theorem sound_tuple (sn : Snd prog w B I d) (ao : AOk d A) (eo : EnvOk env sc) {es : List Expr} {x1 : Nat} {pos : Pos} {K : KV} (hst : es.all noStar = true) (hn : es.length < 1000) (S : St B ρ σ s) (l : Lo B env L ρ s.heap)
    (k : seqI (fun e σ1 K1 => I.ev sc e L σ1 K1) es σ fun vs σ1 => K (.tup vs) σ1) : wpAny (model prog w) A (eval (.Tuple es x1 pos) env) (PV B ρ s.heap K) no s := by
  refine wpAny_Tuple_spliced ?_
  rw [star_each hst]
  have hlen : ∀ {es : List Expr} {K : List AV → Hp → Prop} {σ : Hp} {ρ : Rho} {s : Shared}, seqI (fun e σ1 K1 => I.ev sc e L σ1 K1) es σ K → St B ρ σ s → Lo B env L ρ s.heap →
      wpAny (model prog w) A (spliced (es.map fun e => (false, eval e env))) (fun ws s' => ws.length = es.length ∧ PVs B ρ s.heap K ws s') no s := by
    intro es
    induction es with
    | nil => intro K σ ρ s k S l; exact Calls.spliced_nil ⟨rfl, [], σ, ρ, .nil, S, .refl .., k⟩
    | cons e r ih =>
      intro K σ ρ s k S l
      refine Calls.spliced_cons (wpAny_got (sn.ev k ao eo S l) fun a v σ1 ρ1 s1 ra S1 e1 k1 => ?_)
      refine wpAny_mono (ih k1 S1 (l.ext0 e1)) (fun vs s2 ⟨hl, as, σ2, ρ2, rs, S2, e2, k2⟩ => ?_) fun _ _ x => x
      exact ⟨by rw [List.length_cons, List.length_cons, hl], a :: as, σ2, ρ2, .cons (ra.ext0 e2) rs, S2, e1.trans e2, k2⟩
  refine wpAny_mono (hlen k S l) (fun ws s1 ⟨hl, vs, σ1, ρ1, rs, S1, e1, k1⟩ => ⟨by rw [hl, sizeLine]; omega, ?_⟩) fun _ _ x => x
  have E2 : Ext [] s1.heap ρ1 (s1.heap.push (tupObj ws.toArray 0)) ρ1 := .push _
  exact PV.of (.tup vs _ ws.toArray 0 (S1.notOwn (get?_size _)) (Heap.get?_push_size _ rfl) (rs.ext0 E2)) (S1.push _) (e1.trans E2) k1
end
end Mine
end
section
set_option maxRecDepth 100000
set_option linter.unusedVariables false
open PySem PySem.W PyProof.Rows PySem.Claim2Try PySem.Pin
namespace Mine
section
variable {prog : Program} {w : World} {B : Bs} {G : Pg} {I : In} {d : Nat} {A : Around} {env : Env} {sc : Scope} {ρ ρ' : Rho} {σ : Hp} {s : Shared} {L : Loc} {h : Heap}
theorem EnvOk.plain (eo : EnvOk env sc) : (env.scope.kind == .class || (env.scope.kind == .module && env.locals != env.globals)) = false := by rw [eo.scope, eo.kind]; rfl
theorem sound_store {x : Str} {v : AV} {u : Value} {K : Loc → Prop} {Q : Unit → Shared → Prop} (eo : EnvOk env sc) (k : storeI sc x v L K) (S : St B ρ σ s) (l : Lo B env L ρ s.heap) (r : RepV B s.heap ρ v u)
    (q : ∀ L' s', St B ρ σ s' → Lo B env L' ρ s'.heap → Ext [env.locals] s.heap ρ s'.heap ρ → K L' → L' = putS x v L → Q () s') : wpAny (model prog w) A (storeName env x u) Q no s := by
  unfold storeI at k
  split at k
  · rename_i hk
    obtain ⟨m, hn, hm⟩ := l.ns
    refine wpAny_storeName_local ((eo.kindOf x).trans hk) hn (fun h' hn' sb => ?_) eo.plain
    have kk : ∀ b o, b ∉ [env.locals] → s.heap.get? b = some o → h'.get? b = some o := fun b o hb e => (sb.2 b fun z => hb (z ▸ List.mem_singleton.mpr rfl)).trans e
    have hx : ∀ y ∈ [env.locals], Hid s.heap y ∧ NotOwn ρ y ∧ B.hb.get? y = none := fun y hy => by rw [List.mem_singleton.mp hy]; exact ⟨ns_hid hn, l.own, l.above⟩
    have E' : Ext [env.locals] s.heap ρ h' ρ := .of_keep kk fun y hy => by rw [List.mem_singleton.mp hy]; exact let ⟨o, _, _, e, _⟩ := hn'; ⟨o, e⟩
    refine q _ _ (S.keeps kk hx) ⟨⟨_, hn', fun y z hz => ?_⟩, l.own, l.above⟩ E' k rfl
    rw [lookS_putS] at hz
    by_cases hy : y = x
    · rw [if_pos hy] at hz
      cases hz
      exact ⟨u, if_pos hy, r.ext E' fun y hy => (hx y hy).1⟩
    · rw [if_neg hy] at hz
      obtain ⟨z', h1, h2⟩ := hm y z hz
      exact ⟨z', (if_neg hy).trans h1, h2.ext E' fun y hy => (hx y hy).1⟩
  · exact k.elim
theorem St.listAt (S : St B ρ σ s) {n k : Nat} {v : Value} (ho : Mine.lenAt σ n = some k) (r : RepV B s.heap ρ (.loc n) v) :
    ∃ p its e, ρ[n]? = some p ∧ v = .ref p.1 ∧ p.2 = p.1 ∧ s.heap.get? p.1 = some (listOf its e) ∧ its.size = k ∧ k ≤ 1000000 ∧ ∀ i, ∃ o, itemAt σ n i = some o ∧ (match o with
      | none => its[i]? = none
      | some v => ∃ w, its[i]? = some w ∧ RepV B s.heap ρ v w) := by
  unfold Mine.lenAt at ho
  split at ho
  · rename_i f hn
    cases ho
    obtain ⟨p, its, e, h1, h2, h3, h4, h5, h6, h7⟩ := S.nums hn r
    refine ⟨p, its, e, h1, h2, h3, h4, h5, h6, fun i => ⟨_, by unfold itemAt; rw [hn], ?_⟩⟩
    cases hb : Nat.blt i k with
    | false =>
      have : ¬ i < k := fun q => by rw [Nat.blt_eq.mpr q] at hb; cases hb
      exact Array.getElem?_eq_none (by omega)
    | true =>
      obtain ⟨t, ht⟩ := h7 i (Nat.blt_eq.mp hb)
      exact ⟨_, ht, .int _ _⟩
  · rename_i vs hn
    cases ho
    obtain ⟨p, hp, rfl⟩ := r.loc_inv
    have hn' := hn
    rw [nth_eq] at hn'
    obtain ⟨e1, hlen, its, e, ho, hr⟩ := S.obj n p _ hp hn'
    refine ⟨p, its, e, hp, rfl, e1, ho, by rw [← Array.length_toList, hr.len], hlen, fun i => ⟨_, by unfold itemAt; rw [hn], ?_⟩⟩
    cases hz : nth vs i with
    | none =>
      rw [nth_eq] at hz
      have := List.getElem?_eq_none_iff.mp hz
      exact Array.getElem?_eq_none (by rw [← Array.length_toList, hr.len]; exact this)
    | some z =>
      obtain ⟨u, h1, h2⟩ := hr.at_ hz
      exact ⟨u, by rw [← Array.getElem?_toList]; exact h1, h2⟩
  · cases ho
theorem item_len {n i : Nat} {o : Option AV} (h : itemAt σ n i = some o) : ∃ k, lenAt σ n = some k := by
  unfold itemAt at h
  unfold lenAt
  split at h
  · exact ⟨_, rfl⟩
  · exact ⟨_, rfl⟩
  · cases h
theorem iter_hid {it l : Addr} {i : Nat} (x : h.IsListIter it l i) : Hid h it := by
  obtain ⟨o, ho, hc, hd⟩ := x
  intro o' ho'
  rw [ho] at ho'
  cases ho'
  refine ⟨fun its e q => ?_, fun f x q => ?_, fun a b t u v q => ?_⟩ <;> (rw [q] at hc; exact absurd hc (by simp))
end
end Mine
end
section
set_option maxRecDepth 100000
set_option linter.unusedVariables false
open PySem PySem.W PyProof.Rows PySem.Claim2Try PySem.Pin
namespace Mine
section
variable {prog : Program} {w : World} {B : Bs} {G : Pg} {I : In} {d : Nat} {A : Around} {env : Env} {sc : Scope} {ρ ρ' : Rho} {σ : Hp} {s : Shared} {L : Loc} {h : Heap}
theorem set_push {its : Array Value} {N : Nat} {f : Nat → Int} {x : Int} {t : Tok} (hs : its.size = N) (hf : ∀ i, i < N → ∃ t, its[i]? = some (.int (f i) t)) : ∀ i, i < N + 1 → ∃ t', (its.push (.int x t))[i]? = some (.int (setF f N x i) t') := by
  intro i hi
  unfold setF
  rw [Array.getElem?_push]
  by_cases e : i = its.size
  · rw [if_pos e, e, hs, Nat.beq_refl]
    exact ⟨t, rfl⟩
  · rw [if_neg e, show Nat.beq i N = false by rw [Bool.eq_false_iff]; intro q; exact e ((Nat.eq_of_beq_eq_true q).trans hs.symm)]
    exact hf i (by omega)
/-- a number more on a list -/
theorem append_x {l : Addr} {n N : Nat} {f : Nat → Int} {x : Int} {t : Tok} {Q : Value → Shared → Prop} {p : Addr × Addr} (S : St B ρ σ s) (hp : ρ[n]? = some p) (hn : nth σ n = some (.nums N f)) (hN : N ≤ 1000)
    (q : ∀ s', St B ρ (setN σ n (.nums (N + 1) (setF f N x))) s' → Ext [] s.heap ρ s'.heap ρ → Q .none s') : wpAny (model prog w) A (call (.builtin "list.append") [.ref p.1, .int x t]) Q no s := by
  obtain ⟨p', its, e, h1, h2, h3, h4, h5, h6, h7⟩ := S.nums hn (.loc n p hp)
  rw [hp] at h1
  cases h1
  refine wpAny_list_append_plain ⟨e, h4⟩ (fun h' hp' sb => ?_) (by rw [sizeLine]; omega)
  obtain ⟨e', ho'⟩ := hp'
  obtain ⟨S', E'⟩ := S.set (h' := h') (tk := s.toks) (d := s.drawn) (o := .nums (N + 1) (setF f N x)) hp (fun b o hb _ hbo => (sb.2 b hb).trans hbo) ⟨_, ho'⟩ (by rw [h3]; exact ⟨_, ho'⟩)
    ⟨h3, _, e', ho', by rw [Array.size_push, h5], by omega, set_push h5 h7⟩
  rw [setN_eq] at q
  exact q _ S' E'
theorem folded_plain {iter : Expr} (hs : noSet iter = true) (x : Value) : foldedSetIterable iter env x = pure x := by
  cases iter <;> first | rfl | cases hs
theorem noFree_inv {scope : Scope} {x : Str} (hn : noFree scope x = true) : (∀ y ∈ scope.names, y.2 ≠ .free) ∧ (∀ y ∈ scope.names, y.2 ≠ .cell) ∧ scope.kind = .function ∧ (∀ y ∈ scope.names, y.2 = .local → scope.names.lookup y.1 = some .local) ∧ kindS x scope = some .local := by
  unfold noFree plainScope at hn
  simp only [Bool.and_eq_true, List.all_eq_true] at hn
  obtain ⟨⟨⟨⟨⟨h1, h2⟩, h3⟩, h4⟩, h5⟩, h6⟩ := hn
  have kl : ∀ (y : Str), kindS y scope = scope.names.lookup y := fun y => by
    unfold kindS
    induction scope.names with
    | nil => rfl
    | cons z r ih =>
      obtain ⟨z, kk⟩ := z
      show cond (eqS y z) (some kk) (lookS y r) = _
      rw [List.lookup_cons]
      cases hq : eqS y z with
      | true => rw [eqS_iff.mp hq]; simp
      | false => rw [show (y == z) = false from beq_eq_false_iff_ne.mpr (eqS_ne hq)]; exact ih
  refine ⟨fun y hy e => ?_, fun y hy e => ?_, ?_, fun y hy e => ?_, ?_⟩
  · have := h4 y hy; rw [e] at this; cases this
  · have := h4 y hy; rw [e] at this; cases this
  · cases hk : scope.kind <;> first | rfl | (rw [hk] at h1; cases h1)
  · have := h6 y hy
    rw [e] at this
    dsimp only at this
    split at this
    · rename_i hk; rw [← kl]; exact hk
    · cases this
  · split at h5
    · rename_i hk; exact hk
    · cases h5
theorem sound_comp (sn : Snd prog w B I d) (ao : AOk d A) (eo : EnvOk env sc) {elt iter : Expr} {x : Str} {px pos : Pos} {scope : Scope} {K : KV} (hnf : noFree scope x = true) (hset : noSet iter = true) (S : St B ρ σ s) (l : Lo B env L ρ s.heap)
    (k : I.ev sc iter L σ fun v σ1 => compI I elt x scope v σ1 K) : wpAny (model prog w) A (eval (.ListComp elt [⟨.Name x px, iter, [], 0⟩] scope pos) env) (PV B ρ s.heap K) no s := by
  obtain ⟨hfree, hcell, hkind, hnames, hx⟩ := noFree_inv hnf
  refine wpAny_ListComp hfree hkind hnames (wpAny_got (sn.ev k ao eo S l) fun v u σ1 ρ1 s1 r S1 e1 k1 => ?_) (folded_plain hset)
  replace k1 : compI I elt x scope v σ1 K := k1
  unfold compI at k1
  split at k1
  · rename_i n
    split at k1
    · rename_i kk hlen
      obtain ⟨p, its, e, hp, rfl, _, hl, hsz, _, _⟩ := S1.listAt hlen r
      refine wpAny_pyIter_list (isList_x hl) ?_
      obtain ⟨hh, g, dd, t, os⟩ := s1
      dsimp only
      generalize hit : hh.objs.size = it
      generalize hH2 : hh.push { cls := .type "list_iterator", data := .fields #[.ref p.1, .int 0 0] } = H2
      have S2 : St B ρ1 σ1 ⟨H2, g, dd, t, os⟩ := hH2 ▸ S1.push _
      have g2 : ∀ b o, hh.get? b = some o → H2.get? b = some o := fun b o q => hH2 ▸ Heap.get?_push_of_some _ q
      have i2 : H2.IsListIter it p.1 0 := ⟨_, by rw [← hH2, ← hit]; exact Heap.get?_push_size _ rfl, rfl, rfl⟩
      have f0 : hh.get? it = none := by rw [← hit]; exact get?_size _
      unfold newList
      refine wpAny_newObj_type ?_ (by size_fits)
      dsimp only
      have hacc0 : H2.get? H2.objs.size = none := get?_size _
      obtain ⟨S3, E3⟩ := S2.newNums (its := #[]) (e := 0) (N := 0) (f := fun _ => 0) rfl (by omega) (fun i hi => absurd hi (Nat.not_lt_zero _)) t dd
      have hacc : (ρ1 ++ [(H2.objs.size, H2.objs.size)])[σ1.length]? = some (H2.objs.size, H2.objs.size) := S2.lenAt
      dsimp only at S3 E3
      generalize hH3 : H2.push (listOf #[] 0) = H3 at S3 E3
      have g3 : ∀ b o, H2.get? b = some o → H3.get? b = some o := fun b o q => hH3 ▸ Heap.get?_push_of_some _ q
      have hH3' : H2.push { cls := .type "list", data := .seq (([] : List Value).toArray) } = H3 := hH3
      generalize hac : H2.objs.size = acc at *
      refine wpAny_newFunctionEnv hcell (fun _ q => nomatch q) (fun H4 hns4 sb4 => ?_) hkind
      have fC : H3.get? H3.objs.size = none := get?_size _
      dsimp only at hns4 sb4 ⊢
      generalize hC : H3.objs.size = C at *
      have g4 : ∀ b o, H3.get? b = some o → H4.get? b = some o := fun b o q => by
        have hb : b ≠ C := fun z => by rw [z, fC] at q; cases q
        exact (sb4.2 b hb).trans (Heap.get?_push_of_some _ q)
      have S4 : St B (ρ1 ++ [(acc, acc)]) (σ1 ++ [.nums 0 (fun _ => 0)]) ⟨H4, g, dd, t, os⟩ := S3.grows g4
      have fC1 : hh.get? C = none := by
        cases hz : hh.get? C with
        | none => rfl
        | some o => rw [g3 _ _ (g2 _ _ hz)] at fC; cases fC
      have bno : ∀ a, hh.get? a = none → B.hb.get? a = none := fun a ha => by
        cases hz : B.hb.get? a with
        | none => rfl
        | some o => have := S1.keep a o hz; rw [show hh.get? a = some o from this] at ha; cases ha
      have hCit : C ≠ it := fun z => by
        obtain ⟨o, ho, _⟩ := i2
        rw [← z] at ho
        rw [g3 _ _ ho] at fC; cases fC
      have hE4 : Ext [it, C] hh ρ1 H4 (ρ1 ++ [(acc, acc)]) := by
        have a1 : Ext [it, C] hh ρ1 H2 ρ1 := .grow g2
        exact (a1.trans E3.loc).trans (.grow g4)
      have nIt : NotOwn (ρ1 ++ [(acc, acc)]) it := by
        obtain ⟨o, ho, _⟩ := i2
        exact E3.notOwn (S1.notOwn f0) ho
      have nC : NotOwn (ρ1 ++ [(acc, acc)]) C := S3.notOwn fC
      show codeAny (model prog w) A (.compStart (.ListComp elt [⟨.Name x px, iter, [], 0⟩] scope pos) 0 (.ref it) (.ref acc) (compEnv scope C env)) (fun r s' => ∃ m, s'.heap.Ns C m ∧ ∀ h', Heap.SameBut C s'.heap h' →
        match r with | .ok _ => PV B ρ s.heap K (.ref acc) { s' with heap := h' } | .error x => wpAny (model prog w) A (PySem.passOn "comprehension.variables-let-go" x (compEnv scope C env)) (PV B ρ s.heap K) no { s' with heap := h' }) ⟨H4, g, dd, t, os⟩
      have eoC : EnvOk (compEnv scope C env) scope := ⟨rfl, hkind, eo.glob, eo.blt⟩
      have loop : codeAny (model prog w) A (.compLoop (.ListComp elt [⟨.Name x px, iter, [], 0⟩] scope pos) 0 (.ref it) (.ref acc) (compEnv scope C env)) (fun r s' => ∃ m, s'.heap.Ns C m ∧ ∀ h', Heap.SameBut C s'.heap h' →
        match r with | .ok _ => PV B ρ s.heap K (.ref acc) { s' with heap := h' } | .error x => wpAny (model prog w) A (PySem.passOn "comprehension.variables-let-go" x (compEnv scope C env)) (PV B ρ s.heap K) no { s' with heap := h' }) ⟨H4, g, dd, t, os⟩ := by
        refine codeAny_compLoop_list (fun m s' => ∃ i σ' ρ', compLoop (fun u σ1 K1 => I.ev scope elt [(x, u)] σ1 K1) n σ1.length m i σ' (fun σ2 => K (.loc σ1.length) σ2) ∧ St B ρ' σ' s' ∧ s'.heap.IsListIter it p.1 i ∧ (∃ mm, s'.heap.Ns C mm) ∧
          NotOwn ρ' it ∧ NotOwn ρ' C ∧ Ext [it, C] hh ρ1 s'.heap ρ' ∧ ρ'[σ1.length]? = some (acc, acc)) (fun m s' ⟨i, σ', ρ', kl, S', it', ⟨mm, ns'⟩, n1, n2, E', ac'⟩ => ?_) kk ⟨0, _, _, k1, S4, ⟨_, (g4 _ _ (g3 _ _ i2.choose_spec.1)), i2.choose_spec.2⟩, ⟨_, hns4⟩, nIt, nC, hE4, hacc⟩
        have hp' : ρ'[n]? = some p := E'.at hp
        have fin : K (.loc σ1.length) σ' → itemAt σ' n i = some none → wpAny (model prog w) A (pyNext (.ref it)) (fun r s₁ => match r with
            | none => ∃ m, s₁.heap.Ns C m ∧ ∀ h', Heap.SameBut C s₁.heap h' → PV B ρ s.heap K (.ref acc) { s₁ with heap := h' }
            | some v => False) no s' := by
          intro kf hi
          obtain ⟨k2, hk2⟩ := item_len hi
          obtain ⟨p2, its2, e2, hp2, _, _, hl2, _, _, hit2⟩ := S'.listAt hk2 (.loc n p hp')
          rw [hp'] at hp2
          cases hp2
          obtain ⟨o2, ho2, hval⟩ := hit2 i
          rw [hi] at ho2
          cases ho2
          refine wpAny_pyNext_list_end ao.handled it' (isList_x hl2) hval fun h2 eb => ⟨mm, ns'.at (fun o q => eb C o hCit q), fun h3 sb => ?_⟩
          have kx : ∀ b o, b ∉ [it, C] → s'.heap.get? b = some o → h3.get? b = some o := fun b o hb q => by
            simp only [List.mem_cons, List.not_mem_nil, or_false, not_or] at hb
            exact (sb.2 b hb.2).trans (eb b o hb.1 q)
          have hxx : ∀ y ∈ [it, C], Hid s'.heap y ∧ NotOwn ρ' y ∧ B.hb.get? y = none := fun y hy => by
            simp only [List.mem_cons, List.not_mem_nil, or_false] at hy
            rcases hy with rfl | rfl
            · exact ⟨iter_hid it', n1, bno _ f0⟩
            · exact ⟨ns_hid ns', n2, bno _ fC1⟩
          have fr : ∀ b o, hh.get? b = some o → b ∉ [it, C] := fun b o q hb => by
            simp only [List.mem_cons, List.not_mem_nil, or_false] at hb
            rcases hb with rfl | rfl
            · rw [f0] at q; cases q
            · rw [fC1] at q; cases q
          have Ef : Ext [] hh ρ1 h3 ρ' := ⟨⟨E'.pre, fun b o hn' _ q => kx b o (fr b o q) (E'.keep b o hn' (fr b o q) q)⟩, fun b o q => by
            obtain ⟨o', q'⟩ := E'.there b o q
            exact ⟨o', kx b o' (fr b o q) q'⟩⟩
          exact PV.of (.loc _ _ ac') (S'.keeps kx hxx) (e1.trans Ef) kf
        cases m with
        | zero =>
          unfold compLoop at kl
          split at kl
          · rename_i hi; exact wpAny_mono (fin kl hi) (fun r s₁ q => by cases r with | none => exact q | some v => exact q.elim) fun _ _ z => z.elim
          · exact kl.elim
        | succ m =>
          unfold compLoop at kl
          split at kl
          · exact kl.elim
          · rename_i hi; exact wpAny_mono (fin kl hi) (fun r s₁ q => by cases r with | none => exact q | some v => exact q.elim) fun _ _ z => z.elim
          · rename_i v' hi
            obtain ⟨k2, hk2⟩ := item_len hi
            obtain ⟨p2, its2, e2, hp2, _, _, hl2, _, _, hit2⟩ := S'.listAt hk2 (.loc n p hp')
            rw [hp'] at hp2
            cases hp2
            obtain ⟨o2, ho2, hval⟩ := hit2 i
            rw [hi] at ho2
            cases ho2
            obtain ⟨w', hw', rw'⟩ := hval
            refine wpAny_pyNext_list_item it' (isList_x hl2) hw' fun h2 it2 sb2 => ?_
            dsimp only
            have kI : ∀ b o, b ∉ [it] → s'.heap.get? b = some o → h2.get? b = some o := fun b o hb q => (sb2.2 b fun z => hb (z ▸ List.mem_singleton.mpr rfl)).trans q
            have hI : ∀ y ∈ [it], Hid s'.heap y ∧ NotOwn ρ' y ∧ B.hb.get? y = none := fun y hy => by rw [List.mem_singleton.mp hy]; exact ⟨iter_hid it', n1, bno _ f0⟩
            have EI : Ext [it] s'.heap ρ' h2 ρ' := .of_keep kI fun y hy => by rw [List.mem_singleton.mp hy]; exact ⟨_, it2.choose_spec.1⟩
            have SI : St B ρ' σ' { s' with heap := h2 } := S'.keeps kI hI
            have lC : Lo B (compEnv scope C env) [] ρ' h2 := ⟨⟨mm, ns'.sameBut sb2 hCit, fun _ _ q => nomatch q⟩, n2, bno _ fC1⟩
            have rI := rw'.ext EI fun y hy => (hI y hy).1
            show wpAny (model prog w) A (do standAt px; bindName (compEnv scope C env) x w') _ _ _
            refine wpAny_bind (wpAny_standAt (wpAny_bindName ?_))
            refine wpAny_mono (sound_store (Q := fun _ s₂ => wpAny (model prog w) A (eval elt (compEnv scope C env)) (fun y s₃ => wpAny (model prog w) A (call (.builtin "list.append") [.ref acc, y]) (fun _ s₄ => ∃ m', m' < m + 1 ∧ ∃ i σ' ρ', compLoop (fun u σ1 K1 => I.ev scope elt [(x, u)] σ1 K1) n σ1.length m' i σ' (fun σ2 => K (.loc σ1.length) σ2) ∧ St B ρ' σ' s₄ ∧ s₄.heap.IsListIter it p.1 i ∧ (∃ mm, s₄.heap.Ns C mm) ∧
              NotOwn ρ' it ∧ NotOwn ρ' C ∧ Ext [it, C] hh ρ1 s₄.heap ρ' ∧ ρ'[σ1.length]? = some (acc, acc)) no s₃) no s₂) (K := fun L1 => True) eoC (by unfold storeI; rw [hx]; trivial) SI lC rI (fun L' s5 S5 l5 E5 _ eL => ?_)) (fun _ s5 q => wpAny_mono q (fun y s6 q => wpAny_mono q (fun _ _ q => q) fun _ _ z => z.elim) fun _ _ z => z.elim) fun _ _ z => z.elim
            subst eL
            have it5 : s5.heap.IsListIter it p.1 (i + 1) := by
              obtain ⟨o, q1, q2⟩ := it2
              exact ⟨o, E5.keep _ _ n1 (fun z => hCit (List.mem_singleton.mp z).symm) q1, q2⟩
            refine wpAny_got (sn.ev kl ao eoC S5 l5) fun yv y σ6 ρ6 s6 r6 S6 E6 k6 => ?_
            split at k6
            · rename_i xx N f hacc6
              cases hN : decide (N ≤ 1000) with
              | false => rw [hN] at k6; exact k6.elim
              | true =>
                rw [hN] at k6
                obtain ⟨ty, rfl⟩ := r6.int_inv
                have ac6 := E6.at ac'
                have n16 : NotOwn ρ6 it := let ⟨o, q1, _⟩ := it5; E6.notOwn n1 q1
                have n26 : NotOwn ρ6 C := let ⟨o, q1⟩ := l5.there; E6.notOwn n2 q1
                refine append_x (l := acc) S6 ac6 hacc6 (of_decide_eq_true hN) fun s7 S7 E7 => ⟨m, Nat.lt_succ_self m, i + 1, _, ρ6, k6, S7, ?_, ?_, n16, n26, ?_, ac6⟩
                · obtain ⟨o, q1, q2⟩ := it5
                  exact ⟨o, E7.keep _ _ n16 (fun z => nomatch z) (E6.keep _ _ n1 (fun z => nomatch z) q1), q2⟩
                · obtain ⟨m5, ns5, _⟩ := l5.ns
                  exact ⟨m5, ns5.at fun o q => E7.keep _ _ n26 (fun z => nomatch z) (E6.keep _ _ n2 (fun z => nomatch z) q)⟩
                · have a1 : Ext [it, C] s'.heap ρ' h2 ρ' := EI.mono fun y hy => by rw [List.mem_singleton.mp hy]; exact List.mem_cons_self ..
                  have a2 : Ext [it, C] h2 ρ' s5.heap ρ' := E5.mono fun y hy => by rw [List.mem_singleton.mp hy]; exact List.mem_cons_of_mem _ (List.mem_singleton.mpr rfl)
                  exact (((E'.trans a1).trans a2).trans E6.loc).trans E7.loc
            · exact k6.elim
      exact codeAny_compStart_list loop (wpAny_pyIter_listiter ⟨_, (g4 _ _ (g3 _ _ i2.choose_spec.1)), i2.choose_spec.2⟩ loop)
    · exact k1.elim
  · exact k1.elim
end
end Mine
end
section
set_option maxRecDepth 100000
set_option linter.unusedVariables false
open PySem PySem.W PyProof.Rows PySem.Claim2Try PySem.Pin
namespace Mine
section
variable {prog : Program} {w : World} {B : Bs} {G : Pg} {I : In} {d : Nat} {A : Around} {env : Env} {sc : Scope} {ρ ρ' : Rho} {σ : Hp} {s : Shared} {L : Loc} {h : Heap}
theorem AOk.room (ao : AOk d A) : A.units < cLine := by have := ao.units; rw [cLine]; omega
theorem sound_cmpE (sn : Snd prog w B I d) (ao : AOk d A) (eo : EnvOk env sc) {l r : Expr} {op : CmpOp} {K : Bool → Hp → Prop} (S : St B ρ σ s) (lo : Lo B env L ρ s.heap) (hm : behindInMarks op r = false)
    (k : I.ev sc l L σ fun a σ1 => I.ev sc r L σ1 fun b σ2 => cmpI op a b σ2 fun t => K t σ2) {Q : Value → Shared → Prop} (q : ∀ t s', PB B ρ s.heap K t s' → Q (.bool t) s') :
    wpAny (model prog w) A (eval l env) (fun a s₁ => wpAny (model prog w) A (eval r env) (fun b s₂ => wpAny (model prog w) A (compareOp op a b) Q no s₂) no s₁) no s := by
  refine wpAny_got (sn.ev k ao eo S lo) fun a u σ1 ρ1 s1 ra S1 e1 k1 => ?_
  refine wpAny_got (sn.ev k1 ao eo S1 (lo.ext0 e1)) fun b v σ2 ρ2 s2 rb S2 e2 k2 => ?_
  exact sound_cmp k2 S2 (ra.ext0 e2) rb ao.room fun t kt => q t s2 ⟨σ2, ρ2, S2, e1.trans e2, kt⟩
theorem sound_index (ok : Ok B G) (sn : Snd prog w B I d) (ao : AOk d A) (eo : EnvOk env sc) {o i : Expr} {pos : Pos} {K : KV} (hno : ∀ lo hi p, i ≠ .Slice lo hi none p)
    (k : I.ev sc o L σ fun v σ1 => I.ev sc i L σ1 fun w σ2 => itemI G v w σ2 fun u => K u σ2) (S : St B ρ σ s) (l : Lo B env L ρ s.heap) : wpAny (model prog w) A (eval (.Subscript o i pos) env) (PV B ρ s.heap K) no s := by
  refine Subscript_ (wpAny_got (sn.ev k ao eo S l) fun v u σ1 ρ1 s1 r S1 e1 k1 => ?_)
  refine wpAny_got (sn.ev k1 ao eo S1 (l.ext0 e1)) fun x y σ2 ρ2 s2 rx S2 e2 k2 => ?_
  obtain ⟨⟨T, id, hT, hl⟩, hg⟩ := sound_item (prog := prog) (w := w) (A := A) ok k2 S2 (r.ext0 e2) rx
  refine sub_tail hT hl (.inl (subscripted_plain ?_)) (wpAny_mono hg (fun _ _ x => x.up (e1.trans e2)) fun _ _ x => x)
  cases i with
  | Slice a b c p =>
    cases c with
    | none => exact (hno _ _ _ rfl).elim
    | some _ => rfl
  | _ => rfl
theorem sound_callPlain (sn : Snd prog w B I d) (ao : AOk d A) (eo : EnvOk env sc) {f : Expr} {args : List Expr} {kws : List Keyword} {pos : Pos} {K : KV} (hno : ∀ o n p, f ≠ .Attribute o n p)
    (k : cond (args.all noStar && kws.all kwNamed) (I.ev sc f L σ fun v σ1 => seqI (fun e σ1 K1 => I.ev sc e L σ1 K1) args σ1 fun vs σ2 => kwI (fun e σ1 K1 => I.ev sc e L σ1 K1) kws σ2 fun ks σ3 => I.ca v vs ks σ3 K) False) (S : St B ρ σ s) (l : Lo B env L ρ s.heap) : wpAny (model prog w) A (eval (.Call f args kws pos) env) (PV B ρ s.heap K) no s := by
  obtain ⟨hc, k⟩ := condF k
  rw [Bool.and_eq_true] at hc
  rw [eval_Call_plain hno]
  refine wpAny_then (sn.ev k ao eo S l) fun v u σ1 ρ1 s1 r S1 e1 k1 => ?_
  exact wpAny_mono (sound_args sn ao eo (first := []) (fs := []) hc.1 hc.2 S1 (l.ext0 e1) r .nil k1) (fun _ _ x => x.up e1) fun _ _ x => x
inductive NameV : Expr → Prop
  | mk (x : Str) (p : Pos) : NameV (.Name x p)
theorem isNameE_v {e : Expr} (h : isNameE e = true) : NameV e := by
  cases e with
  | Name x p => exact .mk x p
  | _ => exact absurd h Bool.false_ne_true
theorem compPat_inv {gens : List Comprehension} {q : Str × Expr} (h : compPat gens = some q) : ∃ px, gens = [⟨.Name q.1 px, q.2, [], 0⟩] := by
  cases gens with
  | nil => cases h
  | cons g r =>
    cases r with
    | cons _ _ => cases h
    | nil =>
      obtain ⟨t, it, ifs, as⟩ := g
      have h : cond (isNameE t && ifs.isEmpty && decide (as = 0)) (some (nmOf t, it)) none = some q := h
      cases hc : isNameE t && ifs.isEmpty && decide (as = 0) with
      | false => rw [hc] at h; cases h
      | true =>
        rw [hc] at h
        cases h
        rw [Bool.and_eq_true, Bool.and_eq_true, List.isEmpty_iff] at hc
        obtain ⟨⟨c1, rfl⟩, c3⟩ := hc
        obtain rfl := of_decide_eq_true c3
        cases isNameE_v c1 with | mk x p => exact ⟨p, rfl⟩
theorem sound_evB (ok : Ok B G) (sn : Snd prog w B I d) (ao : AOk d A) (eo : EnvOk env sc) {e : Expr} {K : KV} (k : evB G I sc e L σ K) (S : St B ρ σ s) (l : Lo B env L ρ s.heap) : wpAny (model prog w) A (eval e env) (PV B ρ s.heap K) no s := by
  cases e with
  | Constant c x p => exact sound_const k S
  | Name x p => exact sound_name ok k eo S l
  | BinOp a op b p =>
    refine wpAny_BinOp (wpAny_got (sn.ev k ao eo S l) fun a u σ1 ρ1 s1 ra S1 e1 k1 => ?_)
    refine wpAny_got (sn.ev k1 ao eo S1 (l.ext0 e1)) fun b v σ2 ρ2 s2 rb S2 e2 k2 => ?_
    exact wpAny_mono (sound_bin k2 S2 (ra.ext0 e2) rb) (fun _ _ x => x.up (e1.trans e2)) fun _ _ x => x
  | UnaryOp op a p =>
    rw [arm_eval_UnaryOp]
    refine wpAny_then (sn.ev k ao eo S l) fun a u σ1 ρ1 s1 ra S1 e1 k1 => wpAny_bind (wpAny_standAt (wpAny_holding ?_))
    exact wpAny_mono (sound_un k1 S1 ra) (fun _ _ x => x.up e1) fun _ _ x => x
  | Compare a ops rs p =>
    cases ops with
    | nil => exact False.elim k
    | cons op ops =>
      cases ops with
      | cons _ _ => exact False.elim k
      | nil =>
        cases rs with
        | nil => exact False.elim k
        | cons r rs =>
          cases rs with
          | cons _ _ => exact False.elim k
          | nil =>
            obtain ⟨hm, k⟩ := condT k
            exact wpAny_Compare1 (sound_cmpE sn ao eo (K := fun t σ2 => K (.bool t) σ2) S l hm k fun t s' ⟨σ2, ρ2, S2, e2, kt⟩ => PV.of (.bool t) S2 e2 kt) hm
  | IfExp t a b p =>
    rw [arm_eval_IfExp]
    refine wpAny_bind (wpAny_gotB (sn.ts k ao eo S l) fun b σ1 ρ1 s1 S1 e1 k1 => ?_)
    cases b with
    | true => exact wpAny_mono (sn.ev k1 ao eo S1 (l.ext0 e1)) (fun _ _ x => x.up e1) fun _ _ x => x
    | false => exact wpAny_mono (sn.ev k1 ao eo S1 (l.ext0 e1)) (fun _ _ x => x.up e1) fun _ _ x => x
  | BoolOp op es p =>
    rw [arm_eval_BoolOp]
    exact sound_chain sn ao eo k S l
  | Attribute o a p =>
    obtain ⟨hb, k⟩ := condF k
    rw [arm_eval_Attribute, base_plain hb]
    refine wpAny_then (sn.ev k ao eo S l) fun v u σ1 ρ1 s1 r S1 e1 k1 => wpAny_bind (wpAny_standAt (wpAny_bind (wpAny_holding ?_)))
    exact wpAny_mono (sound_attr ok k1 S1 r) (fun _ _ x => wpAny_bind (wpAny_letTemporaryGo (wpAny_pure (x.up e1)))) fun _ _ x => x
  | Subscript o i p =>
    cases i with
    | Slice lo hi st p2 =>
      cases st with
      | none => exact sound_slice ok sn ao eo S l k
      | some _ => exact sound_index ok sn ao eo (fun _ _ _ e => nomatch e) k S l
    | _ => exact sound_index ok sn ao eo (fun _ _ _ e => nomatch e) k S l
  | List es p =>
    obtain ⟨hc, k⟩ := condF k
    rw [Bool.and_eq_true] at hc
    exact sound_list sn ao eo hc.1 (Nat.blt_eq.mp hc.2) S l k
  | Tuple es x p =>
    obtain ⟨hc, k⟩ := condF k
    rw [Bool.and_eq_true] at hc
    exact sound_tuple sn ao eo hc.1 (Nat.blt_eq.mp hc.2) S l k
  | Call f args kws pos =>
    cases f with
    | Attribute o m ap =>
      obtain ⟨hc, k'⟩ := condF k
      clear k
      simp only [Bool.and_eq_true, List.isEmpty_iff] at hc
      obtain ⟨⟨⟨⟨h1, rfl⟩, h3⟩, h4⟩, h5⟩ := hc
      exact sound_methodCall ok sn ao eo S l h1 h3 (Nat.blt_eq.mp h4) h5 k'
    | _ => exact sound_callPlain sn ao eo (fun _ _ _ e => nomatch e) k S l
  | ListComp elt gens scope p =>
    obtain ⟨q, hg, k⟩ := someK_inv k
    obtain ⟨px, rfl⟩ := compPat_inv hg
    obtain ⟨hc, k⟩ := condF k
    rw [Bool.and_eq_true] at hc
    exact sound_comp sn ao eo hc.1 hc.2 S l k
  | _ => exact False.elim k
theorem sound_and (sn : Snd prog w B I d) (ao : AOk d A) (eo : EnvOk env sc) {op : BoolOp} : ∀ {es : List Expr} {K : Bool → Hp → Prop} {σ : Hp} {ρ : Rho} {s : Shared}, andI (fun e σ1 K1 => I.ts sc e L σ1 K1) op es σ K → St B ρ σ s → Lo B env L ρ s.heap →
    wpAny (model prog w) A (allTrue op es env) (PB B ρ s.heap K) no s
  | [], K, σ, ρ, s, k, S, l => by
    cases op <;> exact wpAny_pure ⟨σ, ρ, S, .refl .., k⟩
  | e :: r, K, σ, ρ, s, k, S, l => by
    unfold allTrue
    refine wpAny_bind (wpAny_gotB (sn.ts k ao eo S l) fun b σ1 ρ1 s1 S1 e1 k1 => ?_)
    cases op with
    | And =>
      cases b with
      | false => exact wpAny_pure ⟨σ1, ρ1, S1, e1, k1⟩
      | true => exact wpAny_mono (sound_and sn ao eo k1 S1 (l.ext0 e1)) (fun _ _ x => x.up e1) fun _ _ x => x
    | Or =>
      cases b with
      | true => exact wpAny_pure ⟨σ1, ρ1, S1, e1, k1⟩
      | false => exact wpAny_mono (sound_and sn ao eo k1 S1 (l.ext0 e1)) (fun _ _ x => x.up e1) fun _ _ x => x
theorem isTrue_else {e : Expr} {t : Sem Value} (h1 : ∀ x p, e ≠ .UnaryOp .Not x p) (h2 : ∀ o v p, e ≠ .BoolOp o v p) (h3 : ∀ a b c p, e ≠ .IfExp a b c p) (h4 : ∀ a b c p, e ≠ .Compare a b c p) : isTrue e env t = (do let v ← t; standAt e.pos; holding [v] (truthy v)) := by
  cases e with
  | UnaryOp op x p => cases op <;> first | rfl | exact (h1 _ _ rfl).elim
  | BoolOp o v p => exact (h2 _ _ _ rfl).elim
  | IfExp a b c p => exact (h3 _ _ _ _ rfl).elim
  | Compare a b c p => exact (h4 _ _ _ _ rfl).elim
  | _ => rfl
theorem sound_tsB (sn : Snd prog w B I d) (ao : AOk d A) (eo : EnvOk env sc) {e : Expr} {K : Bool → Hp → Prop} (k : tsB G I sc e L σ K) (S : St B ρ σ s) (l : Lo B env L ρ s.heap) : wpAny (model prog w) A (isTrue e env (eval e env)) (PB B ρ s.heap K) no s := by
  unfold tsB at k
  split at k
  · rename_i x p
    show wpAny _ A (do return !(← isTrue x env (eval x env))) _ _ _
    refine wpAny_bind (wpAny_mono (sn.ts k ao eo S l) (fun b s1 q => wpAny_pure q) fun _ _ x => x)
  · rename_i op es p
    show wpAny _ A (allTrue op es env) _ _ _
    exact sound_and sn ao eo k S l
  · rename_i t a b p
    show wpAny _ A (do if ← isTrue t env (eval t env) then isTrue a env (eval a env) else isTrue b env (eval b env)) _ _ _
    refine wpAny_bind (wpAny_gotB (sn.ts k ao eo S l) fun b σ1 ρ1 s1 S1 e1 k1 => ?_)
    cases b with
    | true => exact wpAny_mono (sn.ts k1 ao eo S1 (l.ext0 e1)) (fun _ _ x => x.up e1) fun _ _ x => x
    | false => exact wpAny_mono (sn.ts k1 ao eo S1 (l.ext0 e1)) (fun _ _ x => x.up e1) fun _ _ x => x
  · obtain ⟨hm, k⟩ := condT k
    exact wpAny_isTrue_Compare1 (sound_cmpE sn ao eo S l hm k fun t s' q => wpAny_truthy_bool q) hm
  · exact k.elim
  · rename_i h1 h2 h3 h4 h5
    rw [isTrue_else (fun x p q => h1 x p q) (fun o v p q => h2 o v p q) (fun a b c p q => h3 a b c p q) (fun a b c p q => h5 a b c p q)]
    refine wpAny_then (sn.ev k ao eo S l) fun v u σ1 ρ1 s1 r S1 e1 k1 => wpAny_bind (wpAny_standAt (wpAny_holding ?_))
    exact sound_truth k1 r fun t kt => ⟨σ1, ρ1, S1, e1, kt⟩
end
end Mine
end
section
set_option maxRecDepth 100000
set_option linter.unusedVariables false
open PySem PySem.W PyProof.Rows PySem.Claim2Try PySem.Pin
namespace Mine
section
variable {prog : Program} {w : World} {B : Bs} {G : Pg} {I : In} {d : Nat} {A : Around} {E : Value → Shared → Prop} {env : Env} {sc : Scope} {ρ ρ' : Rho} {σ : Hp} {s : Shared} {L : Loc} {h : Heap}
/-- n items off a list's iterator -/
theorem draw_list {it l : Addr} {its : Array Value} {e : Nat} (hne : l ≠ it) : ∀ (n i : Nat) (s : Shared) (Q : List Value → Shared → Prop), s.heap.IsListIter it l i → s.heap.get? l = some (listOf its e) → i + n ≤ its.size →
    (∀ h', h'.IsListIter it l (i + n) → Heap.SameBut it s.heap h' → Q ((its.toList.drop i).take n) { s with heap := h' }) → wpAny (model prog w) A (draw (.ref it) n) Q E s
  | 0, i, s, Q, hit, _, _, hQ => wpAny_pure (by simpa using hQ s.heap hit (Heap.SameBut.refl ..))
  | n + 1, i, s, Q, hit, hl, hle, hQ => by
    have hlt : i < its.size := by omega
    unfold draw
    refine wpAny_bind (wpAny_pyNext_list_item hit (isList_x hl) (Array.getElem?_eq_getElem hlt) fun h1 hit1 sb1 => ?_)
    refine wpAny_bind (wpAny_holding (draw_list hne n (i + 1) _ _ hit1 ((sb1.2 l hne).trans hl) (by omega) fun h2 hit2 sb2 => wpAny_pure ?_))
    have := hQ h2 (by rw [show i + (n + 1) = i + 1 + n by omega]; exact hit2) (sb1.trans sb2)
    rw [List.drop_eq_getElem_cons (by rw [Array.length_toList]; exact hlt), List.take_succ_cons, Array.getElem_toList] at this
    exact this
theorem unpack_list {l : Addr} {its : Array Value} {e : Nat} {targets : List (Bool × (Value → Sem Unit))} {Q : Unit → Shared → Prop} (hh : A.handled = none) (hl : s.heap.get? l = some (listOf its e))
    (hn : targets.length = its.size) (hstar : targets.findIdx? (·.1) = none)
    (q : ∀ h', (∀ b o, s.heap.get? b = some o → h'.get? b = some o) → wpAny (model prog w) A (assignInOrder (targets.map (·.2)) its.toList) Q E { s with heap := h' }) : wpAny (model prog w) A (unpack (.ref l) targets) Q E s := by
  have hlt : l ≠ s.heap.objs.size := Nat.ne_of_lt (Heap.lt_size hl)
  unfold unpack
  rw [hstar, hn]
  refine wpAny_bind (wpAny_holding ?_)
  unfold unpackItems
  refine wpAny_bind ?_
  unfold notIterableAtAll
  refine wpAny_bind (wpAny_specialOf (isList_x hl).typeIs F.slot_list_iter.lookup ?_)
  refine wpAny_pure ?_
  simp only [Bool.false_eq_true, if_false]
  refine wpAny_bind (wpAny_holding (wpAny_pyIter_list (isList_x hl) ?_))
  refine wpAny_bind (wpAny_holding (draw_list (e := e) hlt its.size 0 _ _ ⟨_, Heap.get?_push_size _ rfl, rfl, rfl⟩ (Heap.get?_push_of_some _ hl) (by omega) fun h1 hit1 hs1 => ?_))
  have hall : List.take its.size (List.drop 0 its.toList) = its.toList := by rw [List.drop_zero]; exact List.take_of_length_le (by simp)
  rw [hall, if_neg (by simp)]
  refine wpAny_bind (wpAny_holding (wpAny_pyNext_list_end hh hit1 (isList_x ((hs1.2 l hlt).trans (Heap.get?_push_of_some _ hl))) (by simp) fun h2 he2 => ?_))
  simp only [Option.isSome_none, Bool.false_eq_true, if_false]
  refine wpAny_pure (q h2 fun b o e => ?_)
  have hb : b ≠ s.heap.objs.size := Nat.ne_of_lt (Heap.lt_size e)
  exact he2 b o hb ((hs1.2 b hb).trans (Heap.get?_push_of_some _ e))
theorem assign_sub (o i : Expr) (p : Pos) (u : Value) (env : Env) : assign (.Subscript o i p) env u = (do
      let ov ← holding [u] (eval o env)
      let iv ← holding [u, ov] (eval i env)
      standAt p
      holding [u, ov, iv] (setItem ov iv u)
      release (match i with | .Slice _ _ none _ => [iv, u, ov] | _ => [u, ov, iv]) []) := rfl
theorem sound_asg1 (ok : Ok B G) (sn : Snd prog w B I d) (ao : AOk d A) (eo : EnvOk env sc) {t : Expr} {v : AV} {u : Value} {K : Loc → Hp → Prop} (k : asg1 I sc t v L σ K) (S : St B ρ σ s) (l : Lo B env L ρ s.heap) (r : RepV B s.heap ρ v u) :
    wpAny (model prog w) A (assign t env u) (PU B ρ s.heap env K) no s := by
  unfold asg1 at k
  split at k
  · rename_i x p
    show wpAny _ A (do standAt p; bindName env x u) _ _ _
    refine wpAny_bind (wpAny_standAt (wpAny_bindName ?_))
    exact sound_store eo k S l r fun L' s' S' l' E' k' _ => ⟨L', σ, ρ, S', l', E', k'⟩
  · rename_i o a p
    show wpAny _ A (do let ov ← holding [u] (eval o env); standAt p.atName; holding [u, ov] (setAttr ov a u); release [u, ov] []) _ _ _
    refine wpAny_bind (wpAny_holding (wpAny_got (sn.ev k ao eo S l) fun y ov σ1 ρ1 s1 ry S1 e1 k1 => wpAny_bind (wpAny_standAt (wpAny_bind (wpAny_holding ?_)))))
    exact sound_setAttr ok k1 S1 ry (r.ext0 e1) fun σ2 s2 S2 e2 k2 => wpAny_release ⟨L, σ2, ρ1, S2, (l.ext0 e1).ext0 e2, (e1.trans e2).loc, k2⟩
  · exact k.elim
  · rename_i o i p hno
    rw [assign_sub]
    refine wpAny_bind (wpAny_holding (wpAny_got (sn.ev k ao eo S l) fun y ov σ1 ρ1 s1 ry S1 e1 k1 => ?_))
    refine wpAny_bind (wpAny_holding (wpAny_got (sn.ev k1 ao eo S1 (l.ext0 e1)) fun z iv σ2 ρ2 s2 rz S2 e2 k2 => wpAny_bind (wpAny_standAt (wpAny_bind (wpAny_holding ?_)))))
    exact sound_setItem k2 S2 (ry.ext0 e2) rz ((r.ext0 e1).ext0 e2) fun σ3 s3 S3 e3 k3 => wpAny_release ⟨L, σ3, ρ2, S3, ((l.ext0 e1).ext0 e2).ext0 e3, ((e1.trans e2).trans e3).loc, k3⟩
  · exact k.elim
theorem sound_asgs (ok : Ok B G) (sn : Snd prog w B I d) (ao : AOk d A) (eo : EnvOk env sc) : ∀ {ts : List Expr} {vs : List AV} {us : List Value} {K : Loc → Hp → Prop} {L : Loc} {σ : Hp} {ρ : Rho} {s : Shared}, asgs I sc ts vs L σ K → St B ρ σ s → Lo B env L ρ s.heap → RepVs B s.heap ρ vs us →
    wpAny (model prog w) A (assignInOrder ((ts.map fun t => assign t env)) us) (PU B ρ s.heap env K) no s
  | [], [], us, K, L, σ, ρ, s, k, S, l, r => by
    cases r
    exact wpAny_pure ⟨L, σ, ρ, S, l, .refl .., k⟩
  | t :: ts, v :: vs, us, K, L, σ, ρ, s, k, S, l, r => by
    cases r with | cons a b =>
    show wpAny _ A (do holding _ (assign t env _); assignInOrder _ _) _ _ _
    refine wpAny_bind (wpAny_holding (wpAny_gotU (sound_asg1 ok sn ao eo k S l a) fun L1 σ1 ρ1 s1 S1 l1 e1 k1 => ?_))
    refine wpAny_mono (sound_asgs ok sn ao eo k1 S1 l1 (b.ext e1 fun y hy => by rw [List.mem_singleton.mp hy]; exact l.hid)) (fun _ _ x => x.up e1) fun _ _ x => x
  | [], _ :: _, _, _, _, _, _, _, k, _, _, _ => k.elim
  | _ :: _, [], _, _, _, _, _, _, k, _, _, _ => k.elim
theorem each_plain {ts : List Expr} (hs : ts.all noStarT = true) : assignEach ts env = ts.map fun t => (false, assign t env) := by
  induction ts with
  | nil => rfl
  | cons t r ih =>
    rw [List.all_cons, Bool.and_eq_true] at hs
    rw [List.map_cons, ← ih hs.2]
    cases t <;> first | rfl | cases hs.1
theorem St.itemsAt (S : St B ρ σ s) {v : AV} {vs : List AV} {u : Value} (hi : itemsOf σ v = some vs) (r : RepV B s.heap ρ v u) :
    ∃ a its, u = .ref a ∧ (s.heap.IsTuple a its ∨ ∃ e, s.heap.get? a = some (listOf its e)) ∧ RepVs B s.heap ρ vs its.toList := by
  unfold itemsOf at hi
  split at hi
  · cases hi
    obtain ⟨a, its, e, rfl, _, ho, hr⟩ := r.tup_inv
    exact ⟨a, its, rfl, .inl ⟨_, ho, rfl, e, rfl⟩, hr⟩
  · split at hi
    · rename_i kk f hn
      obtain ⟨p, its, e, h1, rfl, h2, h3, h4, h5, h6⟩ := S.nums hn r
      cases hk : decide (kk ≤ 8) with
      | false => rw [hk] at hi; cases hi
      | true =>
        rw [hk] at hi
        cases hi
        refine ⟨_, its, rfl, .inr ⟨e, h3⟩, ?_⟩
        have gen : ∀ (m i : Nat) (ws : List Value), ws.length = m → (∀ j, j < m → ∃ t, ws[j]? = some (.int (f (i + j)) t)) → RepVs B s.heap ρ ((List.range' i m).map fun i => AV.int (f i)) ws := by
          intro m
          induction m with
          | zero => intro i ws hw _; cases ws with | nil => exact .nil | cons _ _ => cases hw
          | succ m ih =>
            intro i ws hw hf
            cases ws with
            | nil => cases hw
            | cons x r' =>
              obtain ⟨t, ht⟩ := hf 0 (Nat.succ_pos _)
              cases ht
              refine .cons (.int _ _) (ih (i + 1) r' (Nat.succ.inj hw) fun j hj => ?_)
              obtain ⟨t', ht'⟩ := hf (j + 1) (Nat.succ_lt_succ hj)
              exact ⟨t', by rw [show i + 1 + j = i + (j + 1) by omega]; exact ht'⟩
        have := gen kk 0 its.toList (by rw [Array.length_toList]; exact h4) fun j hj => by
          obtain ⟨t, ht⟩ := h6 j hj
          exact ⟨t, by rw [Array.getElem?_toList, Nat.zero_add]; exact ht⟩
        rw [List.range_eq_range']
        exact this
    · rename_i vs' hn
      cases hi
      obtain ⟨p, hp, rfl⟩ := r.loc_inv
      rw [nth_eq] at hn
      obtain ⟨e1, hlen, its, e, ho, hr⟩ := S.obj _ p _ hp hn
      exact ⟨_, its, rfl, .inr ⟨e, ho⟩, hr⟩
    · cases hi
  · cases hi
theorem sound_asgI (ok : Ok B G) (sn : Snd prog w B I d) (ao : AOk d A) (eo : EnvOk env sc) {t : Expr} {v : AV} {u : Value} {K : Loc → Hp → Prop} (k : asgI I sc t v L σ K) (S : St B ρ σ s) (l : Lo B env L ρ s.heap) (r : RepV B s.heap ρ v u) :
    wpAny (model prog w) A (assign t env u) (PU B ρ s.heap env K) no s := by
  unfold asgI at k
  split at k
  · rename_i ts x1 p
    split at k
    · rename_i vs hi
      obtain ⟨hc, k⟩ := condF k
      rw [Bool.and_eq_true] at hc
      obtain ⟨a, its, rfl, alt, rs⟩ := S.itemsAt hi r
      show wpAny _ A (do standAt p; unpack (.ref a) (assignEach ts env)) _ _ _
      refine wpAny_bind (wpAny_standAt ?_)
      have hn : (assignEach ts env).length = its.size := by
        rw [each_plain hc.1, List.length_map, ← Array.length_toList, rs.len]
        exact Nat.eq_of_beq_eq_true hc.2
      have hs : (assignEach ts env).findIdx? (·.1) = none := by
        rw [each_plain hc.1, List.findIdx?_eq_none_iff]
        intro y hy
        obtain ⟨z, _, rfl⟩ := List.mem_map.mp hy
        rfl
      have hm : (assignEach ts env).map (·.2) = ts.map fun t => assign t env := by rw [each_plain hc.1, List.map_map]; rfl
      have rest : ∀ h', (∀ b o, s.heap.get? b = some o → h'.get? b = some o) → wpAny (model prog w) A (assignInOrder ((assignEach ts env).map (·.2)) its.toList) (PU B ρ s.heap env K) no { s with heap := h' } := by
        intro h' g
        have E' : Ext [] s.heap ρ h' ρ := .grow g
        rw [hm]
        exact wpAny_mono (sound_asgs ok sn ao eo k (S.grows g) (l.ext0 E') (rs.ext0 E')) (fun _ _ x => x.up E'.loc) fun _ _ x => x
      rcases alt with ht | ⟨e, hl⟩
      · exact wpAny_unpack_tuple ao.handled ht hn hs fun h' eb => rest h' fun b o q => eb b o (Nat.ne_of_lt (Heap.lt_size q)) q
      · exact unpack_list ao.handled hl hn hs rest
    · exact k.elim
  · exact sound_asg1 ok sn ao eo k S l r
end
end Mine
end
section
set_option maxRecDepth 100000
set_option linter.unusedVariables false
open PySem PySem.W PyProof.Rows PySem.Claim2Try PySem.Pin
namespace Mine
section
variable {prog : Program} {w : World} {B : Bs} {G : Pg} {I : In} {d : Nat} {A : Around} {E : Value → Shared → Prop} {env : Env} {sc : Scope} {ρ ρ' : Rho} {σ : Hp} {s : Shared} {L : Loc} {h : Heap}
theorem RepF.next_inv {f : AF} (r : RepF B h ρ f .next) : f = .next := by cases r; rfl
theorem sound_stmts (sn : Snd prog w B I d) (ao : AOk d A) (eo : EnvOk env sc) : ∀ {bo : List Stmt} {K : KF} {L : Loc} {σ : Hp} {ρ : Rho} {s : Shared}, stmtsI (I.ex sc) bo L σ K → St B ρ σ s → Lo B env L ρ s.heap →
    wpAny (model prog w) A (execs bo env) (PF B ρ s.heap env K) no s
  | [], K, L, σ, ρ, s, k, S, l => wpAny_execs_nil ⟨.next, L, σ, ρ, .next, S, l, .refl .., k⟩
  | st :: r, K, L, σ, ρ, s, k, S, l => by
    refine wpAny_execs_cons (wpAny_gotF (sn.ex k ao eo S l) fun fl f L1 σ1 ρ1 s1 rf S1 l1 e1 k1 => ?_)
    cases rf with
    | next => exact wpAny_mono (sound_stmts sn ao eo k1 S1 l1) (fun _ _ x => x.up e1) fun _ _ x => x
    | brk => exact ⟨_, L1, σ1, ρ1, .brk, S1, l1, e1, k1⟩
    | cont => exact ⟨_, L1, σ1, ρ1, .cont, S1, l1, e1, k1⟩
    | ret rv => exact ⟨_, L1, σ1, ρ1, .ret rv, S1, l1, e1, k1⟩
theorem sound_gen (ok : Ok B G) (sn : Snd prog w B I d) (ao : AOk d A) (eo : EnvOk env sc) {src : Hp → Nat → Option (Option AV)} {itv : Value} {xs : List Addr} {It : Nat → Heap → Prop} {t : Expr} {bo : List Stmt} {h1 : Heap} {ρ1 : Rho} {K : KF} {EE : Value → Shared → Prop}
    (stable : ∀ i h h', It i h → (∀ a ∈ xs, ∀ o, h.get? a = some o → h'.get? a = some o) → It i h') (hidx : ∀ i h, It i h → ∀ a ∈ xs, Hid h a ∧ ∃ o, h.get? a = some o)
    (fresh : ∀ a ∈ xs, h1.get? a = none) (base : ∀ a ∈ xs, B.hb.get? a = none) (locx : ∃ o, h1.get? env.locals = some o)
    (fin : ∀ i σ' ρ' s', St B ρ' σ' s' → It i s'.heap → (∀ a ∈ xs, NotOwn ρ' a) → (∀ (m : Nat) p, ρ1[m]? = some p → ρ'[m]? = some p) → src σ' i = some none →
      wpAny (model prog w) A (pyNext itv) (fun r s1 => r = none ∧ ∃ h' tk, s1 = ⟨h', s'.gens, s'.drawn, tk, s'.os⟩ ∧ ∀ b o, b ∉ xs → s'.heap.get? b = some o → h'.get? b = some o) no s')
    (step : ∀ i v σ' ρ' s', St B ρ' σ' s' → It i s'.heap → (∀ a ∈ xs, NotOwn ρ' a) → (∀ (m : Nat) p, ρ1[m]? = some p → ρ'[m]? = some p) → src σ' i = some (some v) →
      wpAny (model prog w) A (pyNext itv) (fun r s1 => ∃ u, r = some u ∧ wpAny (model prog w) A (letOwnedTupleGo t itv u) (fun _ s2 => ∃ h' tk, s2 = ⟨h', s'.gens, s'.drawn, tk, s'.os⟩ ∧ It (i + 1) h' ∧ (∀ b o, b ∉ xs → s'.heap.get? b = some o → h'.get? b = some o) ∧ RepV B h' ρ' v u) no s1) no s')
    {kk : Nat} (k : genLoop src (stmtsI (I.ex sc) bo) (asgI I sc t) kk 0 L σ K) (S : St B ρ σ s) (l : Lo B env L ρ s.heap) (it0 : It 0 s.heap) (nx : ∀ a ∈ xs, NotOwn ρ a) (E0 : Ext (env.locals :: xs) h1 ρ1 s.heap ρ) :
    codeAny (model prog w) A (.forLoop t itv bo [] env) (fun r s' => match r with | .ok f => PF B ρ1 h1 env K f s' | .error e => EE e s') s := by
  have lx : env.locals ∉ xs := fun q => by obtain ⟨o, ho⟩ := locx; rw [fresh _ q] at ho; cases ho
  have frx : ∀ b o, h1.get? b = some o → b ∉ xs := fun b o e q => by rw [fresh b q] at e; cases e
  refine codeAny_forLoop_any (fun m s' => ∃ i L' σ' ρ', genLoop src (stmtsI (I.ex sc) bo) (asgI I sc t) m i L' σ' K ∧ St B ρ' σ' s' ∧ Lo B env L' ρ' s'.heap ∧ It i s'.heap ∧ (∀ a ∈ xs, NotOwn ρ' a) ∧ Ext (env.locals :: xs) h1 ρ1 s'.heap ρ')
    (fun m s' ⟨i, L', σ', ρ', kl, S', l', it', nx', E'⟩ => ?_) kk ⟨0, L, σ, ρ, k, S, l, it0, nx, E0⟩
  have hat : ∀ (m : Nat) p, ρ1[m]? = some p → ρ'[m]? = some p := fun m p e => E'.at e
  have xall : ∀ y ∈ xs, Hid s'.heap y ∧ NotOwn ρ' y ∧ B.hb.get? y = none := fun y hy => ⟨(hidx i _ it' y hy).1, nx' y hy, base y hy⟩
  have done : K .next L' σ' → src σ' i = some none → wpAny (model prog w) A (pyNext itv) (fun r s₁ => r = none ∧ PF B ρ1 h1 env K .next s₁) no s' := by
    intro kf hs
    refine wpAny_mono (fin i σ' ρ' s' S' it' nx' hat hs) (fun r s1 ⟨hr, h', tk, e1, kp⟩ => ⟨hr, ?_⟩) fun _ _ x => x
    subst e1
    have EX : Ex xs s'.heap ρ' h' ρ' := .of_keep kp
    refine ⟨.next, L', σ', ρ', .next, S'.keeps kp xall, l'.ex EX (fun y hy => (xall y hy).1) lx, ⟨⟨E'.pre, fun b o hn hx e => ?_⟩, fun b o e => ?_⟩, kf⟩
    · refine kp b o (frx b o e) (E'.keep b o hn (fun q => ?_) e)
      rcases List.mem_cons.mp q with q | q
      · exact hx (List.mem_singleton.mpr q)
      · exact frx b o e q
    · obtain ⟨o', e'⟩ := E'.there b o e
      exact ⟨o', kp b o' (frx b o e) e'⟩
  have fin2 : K .next L' σ' → src σ' i = some none → wpAny (model prog w) A (pyNext itv) (fun r s₁ => r = none ∧ wpAny (model prog w) A (execs [] env) (fun f s₃ => match (Except.ok f : Result) with | .ok f => PF B ρ1 h1 env K f s₃ | .error e => EE e s₃) (notedBy (model prog w) A env fun e s' => EE e s') s₁) no s' :=
    fun a b => wpAny_mono (done a b) (fun r s1 ⟨q1, q2⟩ => ⟨q1, wpAny_execs_nil q2⟩) fun _ _ x => x
  cases m with
  | zero =>
    unfold genLoop at kl
    split at kl
    · rename_i hs
      refine wpAny_mono (fin2 kl hs) (fun r s1 ⟨q1, q2⟩ => ?_) fun _ _ z => z.elim
      subst q1
      exact q2
    · exact kl.elim
  | succ m =>
    unfold genLoop at kl
    split at kl
    · exact kl.elim
    · rename_i hs
      refine wpAny_mono (fin2 kl hs) (fun r s1 ⟨q1, q2⟩ => ?_) fun _ _ z => z.elim
      subst q1
      exact q2
    · rename_i v hs
      refine wpAny_mono (step i v σ' ρ' s' S' it' nx' hat hs) (fun r s1 ⟨u, hr, q⟩ => ?_) fun _ _ z => z.elim
      subst hr
      refine wpAny_mono q (fun _ s2 ⟨h', tk, e2, it2, kp, ru⟩ => ?_) fun _ _ z => z.elim
      subst e2
      have EX : Ext xs s'.heap ρ' h' ρ' := .of_keep kp fun y hy => (hidx _ _ it2 y hy).2
      have S2 : St B ρ' σ' ⟨h', s'.gens, s'.drawn, tk, s'.os⟩ := S'.keeps kp xall
      have l2 : Lo B env L' ρ' h' := l'.ext EX (fun y hy => (xall y hy).1) lx
      refine wpAny_mono (sound_asgI ok sn ao eo kl S2 l2 ru) (fun _ s3 ⟨L3, σ3, ρ3, S3, l3, e3, k3⟩ => ?_) fun _ _ z => z.elim
      refine wpAny_mono (sound_stmts sn ao eo k3 S3 l3) (fun f s4 ⟨fl, L4, σ4, ρ4, rf, S4, l4, e4, k4⟩ => ?_) fun _ _ z => z.elim
      have n3 : ∀ a ∈ xs, NotOwn ρ3 a := fun a ha => let ⟨o, e⟩ := (hidx _ _ it2 a ha).2; e3.notOwn (nx' a ha) e
      have nl : ∀ a ∈ xs, a ∉ [env.locals] := fun a ha q => lx (List.mem_singleton.mp q ▸ ha)
      have it3 : It (i + 1) s3.heap := stable _ _ _ it2 fun a ha o e => e3.keep a o (nx' a ha) (nl a ha) e
      have n4 : ∀ a ∈ xs, NotOwn ρ4 a := fun a ha => let ⟨o, e⟩ := (hidx _ _ it3 a ha).2; e4.notOwn (n3 a ha) e
      have it4 : It (i + 1) s4.heap := stable _ _ _ it3 fun a ha o e => e4.keep a o (n3 a ha) (nl a ha) e
      have Ef : Ext (env.locals :: xs) h1 ρ1 s4.heap ρ4 :=
        ((E'.trans (EX.mono fun y hy => List.mem_cons_of_mem _ hy)).trans (e3.mono fun y hy => by rw [List.mem_singleton.mp hy]; exact List.mem_cons_self ..)).trans (e4.mono fun y hy => by rw [List.mem_singleton.mp hy]; exact List.mem_cons_self ..)
      have Eg : Ext [env.locals] h1 ρ1 s4.heap ρ4 := Ef.drop fun y hy => by
        rcases List.mem_cons.mp hy with q | q
        · exact .inl (List.mem_singleton.mpr q)
        · exact .inr (fresh y q)
      cases rf with
      | next => exact ⟨m, Nat.lt_succ_self m, i + 1, L4, σ4, ρ4, k4, S4, l4, it4, n4, Ef⟩
      | cont => exact ⟨m, Nat.lt_succ_self m, i + 1, L4, σ4, ρ4, k4, S4, l4, it4, n4, Ef⟩
      | brk => exact ⟨.next, L4, σ4, ρ4, .next, S4, l4, Eg, k4⟩
      | ret rv => exact ⟨_, L4, σ4, ρ4, .ret rv, S4, l4, Eg, k4⟩
end
end Mine
end
section
set_option maxRecDepth 100000
set_option linter.unusedVariables false
open PySem PySem.W PyProof.Rows PySem.Claim2Try PySem.Pin
namespace Mine
section
variable {prog : Program} {w : World} {B : Bs} {G : Pg} {I : In} {d : Nat} {A : Around} {E : Value → Shared → Prop} {env : Env} {sc : Scope} {ρ ρ' : Rho} {σ : Hp} {s : Shared} {L : Loc} {h : Heap}
theorem lot_list {t : Expr} {it l : Addr} {i : Nat} {v : Value} {Q : Unit → Shared → Prop} (ht : okTarget t = true) (hit : s.heap.IsListIter it l i) (q : Q () s) : wpAny (model prog w) A (letOwnedTupleGo t (.ref it) v) Q E s := by
  cases t with
  | Name x p => exact wpAny_pure q
  | Tuple es x p =>
    cases v with
    | ref a => exact wpAny_letOwnedTupleGo_listiter hit q
    | _ => exact wpAny_pure q
  | _ => cases ht
theorem St.base (S : St B ρ σ s) {a : Addr} (ha : s.heap.get? a = none) : B.hb.get? a = none := by
  cases hz : B.hb.get? a with
  | none => rfl
  | some o => rw [S.keep a o hz] at ha; cases ha
theorem sound_forList (ok : Ok B G) (sn : Snd prog w B I d) (ao : AOk d A) (eo : EnvOk env sc) {n kk : Nat} {u : Value} {t : Expr} {bo : List Stmt} {K : KF} {EE : Value → Shared → Prop} (ht : okTarget t = true) (hlen : lenAt σ n = some kk) (k : listLoop (stmtsI (I.ex sc) bo) (asgI I sc t) n false kk 0 L σ K)
    (S : St B ρ σ s) (l : Lo B env L ρ s.heap) (r : RepV B s.heap ρ (.loc n) u) :
    wpAny (model prog w) A (pyIter u) (fun it s₂ => codeAny (model prog w) A (.forLoop t it bo [] env) (fun r s' => match r with | .ok f => PF B ρ s.heap env K f s' | .error e => EE e s') s₂) no s := by
  obtain ⟨p, its, e, hp, rfl, _, hl, _, _, _⟩ := S.listAt hlen r
  refine wpAny_pyIter_list (isList_x hl) ?_
  have hit0 : (s.heap.push { cls := .type "list_iterator", data := .fields #[.ref p.1, .int 0 0] }).IsListIter s.heap.objs.size p.1 0 := ⟨_, Heap.get?_push_size _ rfl, rfl, rfl⟩
  have E0 : Ext (env.locals :: [s.heap.objs.size]) s.heap ρ (s.heap.push { cls := .type "list_iterator", data := .fields #[.ref p.1, .int 0 0] }) ρ := .push _
  have E0' : Ext [] s.heap ρ (s.heap.push { cls := .type "list_iterator", data := .fields #[.ref p.1, .int 0 0] }) ρ := .push _
  have one : ∀ {y : Addr}, y ∈ [s.heap.objs.size] → y = s.heap.objs.size := fun q => List.mem_singleton.mp q
  refine sound_gen ok sn ao eo (src := listSrc n false) (itv := .ref s.heap.objs.size) (xs := [s.heap.objs.size]) (It := fun i h => h.IsListIter s.heap.objs.size p.1 i) (h1 := s.heap) (ρ1 := ρ)
    (fun i h h' ⟨o, a, b⟩ kk => ⟨o, kk _ (List.mem_singleton.mpr rfl) _ a, b⟩) (fun i h q a ha => by rw [one ha]; exact ⟨iter_hid q, let ⟨o, e, _⟩ := q; ⟨o, e⟩⟩)
    (fun a ha => by rw [one ha]; exact get?_size _) (fun a ha => by rw [one ha]; exact S.base (get?_size _)) l.there ?_ ?_ k (S.push _) (l.ext0 E0') hit0 (fun a ha => by rw [one ha]; exact S.notOwn (get?_size _)) E0
  · intro i σ' ρ' s' S' it' nx hat hs
    have hi : itemAt σ' n i = some none := by
      unfold listSrc at hs
      split at hs
      · cases hs
      · exact hs
    obtain ⟨k2, hk2⟩ := item_len hi
    obtain ⟨p2, its2, e2, hp2, _, _, hl2, _, _, hit2⟩ := S'.listAt hk2 (.loc n p (hat n p hp))
    rw [hat n p hp] at hp2
    cases hp2
    obtain ⟨o2, ho2, hval⟩ := hit2 i
    rw [hi] at ho2
    cases ho2
    exact wpAny_pyNext_list_end ao.handled it' (isList_x hl2) hval fun h2 eb => ⟨rfl, h2, s'.toks, rfl, fun b o hb q => eb b o (fun z => hb (z ▸ List.mem_singleton.mpr rfl)) q⟩
  · intro i v σ' ρ' s' S' it' nx hat hs
    obtain ⟨z, hi, hz⟩ : ∃ z, itemAt σ' n i = some (some z) ∧ z = v := by
      unfold listSrc at hs
      split at hs
      · rename_i z hz; cases hs; exact ⟨z, hz, rfl⟩
      · rename_i hne; exact ⟨v, hs, rfl⟩
    subst hz
    obtain ⟨k2, hk2⟩ := item_len hi
    obtain ⟨p2, its2, e2, hp2, _, _, hl2, _, _, hit2⟩ := S'.listAt hk2 (.loc n p (hat n p hp))
    rw [hat n p hp] at hp2
    cases hp2
    obtain ⟨o2, ho2, hval⟩ := hit2 i
    rw [hi] at ho2
    cases ho2
    obtain ⟨w', hw', rw'⟩ := hval
    refine wpAny_pyNext_list_item it' (isList_x hl2) hw' fun h2 it2 sb2 => ⟨w', rfl, lot_list ht it2 ?_⟩
    have kI : ∀ b o, b ∉ [s.heap.objs.size] → s'.heap.get? b = some o → h2.get? b = some o := fun b o hb q => (sb2.2 b fun z => hb (z ▸ List.mem_singleton.mpr rfl)).trans q
    have EI : Ext [s.heap.objs.size] s'.heap ρ' h2 ρ' := .of_keep kI fun y hy => by rw [one hy]; exact ⟨_, it2.choose_spec.1⟩
    exact ⟨h2, s'.toks, rfl, it2, kI, rw'.ext EI fun y hy => by rw [one hy]; exact iter_hid it'⟩
theorem range_size {a b : Int} : Builtin.Range.rangeSize a b 1 = ((b - a).toNat : Int) := by
  unfold Builtin.Range.rangeSize
  rw [if_pos (by decide)]
  split
  · rw [Int.ediv_one]; omega
  · omega
theorem lot_range {t : Expr} {it : Addr} {x left step : Int} {v : Int} {tk : Tok} {Q : Unit → Shared → Prop} (ht : okTarget t = true) (q : Q () s) : wpAny (model prog w) A (letOwnedTupleGo t (.ref it) (.int v tk)) Q E s := by
  cases t with
  | Name x p => exact wpAny_pure q
  | Tuple es x p => exact wpAny_pure q
  | _ => cases ht
theorem range_hid {it : Addr} {x left step : Int} (q : IsRangeIter h it x left step) : Hid h it := by
  intro o' ho'
  rw [q] at ho'
  cases ho'
  refine ⟨fun its e q => ?_, fun f x q => ?_, fun a b t u v q => ?_⟩ <;> exact absurd (congrArg Obj.cls q) (by simp)
theorem sound_forRange (ok : Ok B G) (sn : Snd prog w B I d) (ao : AOk d A) (eo : EnvOk env sc) {a b : Int} {u : Value} {t : Expr} {bo : List Stmt} {K : KF} {EE : Value → Shared → Prop} (ht : okTarget t = true) (h0 : 0 ≤ a) (h1 : a ≤ 1000000) (h2 : 0 ≤ b) (h3 : b ≤ 1000000)
    (k : genLoop (rangeSrc (b - a).toNat a) (stmtsI (I.ex sc) bo) (asgI I sc t) (b - a).toNat 0 L σ K) (S : St B ρ σ s) (l : Lo B env L ρ s.heap) (r : RepV B s.heap ρ (.rng a b) u) :
    wpAny (model prog w) A (pyIter u) (fun it s₂ => codeAny (model prog w) A (.forLoop t it bo [] env) (fun r s' => match r with | .ok f => PF B ρ s.heap env K f s' | .error e => EE e s') s₂) no s := by
  cases r with | rng _ _ rr tt uu vv hno hr =>
  refine wpAny_pyIter_range hr (small_one (by omega) (by omega) (by omega) (by omega)) ?_
  rw [range_size]
  have hit0 : IsRangeIter (s.heap.push { cls := .type "range_iterator", data := .fields #[rawInt a, rawInt ((b - a).toNat : Int), rawInt 1] }) s.heap.objs.size a ((b - a).toNat : Int) 1 := Heap.get?_push_size _ rfl
  have E0 : Ext (env.locals :: [s.heap.objs.size]) s.heap ρ (s.heap.push { cls := .type "range_iterator", data := .fields #[rawInt a, rawInt ((b - a).toNat : Int), rawInt 1] }) ρ := .push _
  have E0' : Ext [] s.heap ρ (s.heap.push { cls := .type "range_iterator", data := .fields #[rawInt a, rawInt ((b - a).toNat : Int), rawInt 1] }) ρ := .push _
  have one : ∀ {y : Addr}, y ∈ [s.heap.objs.size] → y = s.heap.objs.size := fun q => List.mem_singleton.mp q
  refine sound_gen ok sn ao eo (src := rangeSrc (b - a).toNat a) (itv := .ref s.heap.objs.size) (xs := [s.heap.objs.size]) (It := fun i h => IsRangeIter h s.heap.objs.size (a + i) ((b - a).toNat - i) 1) (h1 := s.heap) (ρ1 := ρ)
    (fun i h h' q kk => kk _ (List.mem_singleton.mpr rfl) _ q) (fun i h q y hy => by rw [one hy]; exact ⟨range_hid q, _, q⟩)
    (fun y hy => by rw [one hy]; exact get?_size _) (fun y hy => by rw [one hy]; exact S.base (get?_size _)) l.there ?_ ?_ k (S.push _) (l.ext0 E0') (by simpa using hit0) (fun y hy => by rw [one hy]; exact S.notOwn (get?_size _)) E0
  · intro i σ' ρ' s' S' it' nx hat hs
    have hi : ¬ i < (b - a).toNat := fun q => by
      unfold rangeSrc at hs
      rw [Nat.blt_eq.mpr q] at hs
      cases hs
    exact wpAny_pyNext_range_end ao.handled it' (by omega) fun h2 eb => ⟨rfl, h2, s'.toks, rfl, fun b o hb q => eb b o (fun z => hb (z ▸ List.mem_singleton.mpr rfl)) q⟩
  · intro i v σ' ρ' s' S' it' nx hat hs
    have hi : i < (b - a).toNat := by
      apply Classical.byContradiction
      intro q
      unfold rangeSrc at hs
      rw [show Nat.blt i (b - a).toNat = false by rw [Bool.eq_false_iff]; intro z; exact q (Nat.blt_eq.mp z)] at hs
      cases hs
    have hv : v = .int (a + i) := by
      unfold rangeSrc at hs
      rw [Nat.blt_eq.mpr hi] at hs
      cases hs; rfl
    subst hv
    refine wpAny_pyNext_range_item it' (by omega) fun h2 it2 sb2 => ⟨_, rfl, lot_range (x := 0) (left := 0) (step := 0) ht ?_⟩
    have kI : ∀ b o, b ∉ [s.heap.objs.size] → s'.heap.get? b = some o → h2.get? b = some o := fun b o hb q => (sb2.2 b fun z => hb (z ▸ List.mem_singleton.mpr rfl)).trans q
    refine ⟨h2, s'.toks + 1, rfl, ?_, kI, .int _ _⟩
    have e1 : a + (i : Int) + 1 = a + ((i + 1 : Nat) : Int) := by omega
    have e2 : ((b - a).toNat : Int) - (i : Int) - 1 = ((b - a).toNat : Int) - ((i + 1 : Nat) : Int) := by omega
    rw [← e1, ← e2]
    exact it2
end
end Mine
end
section
set_option maxRecDepth 100000
set_option linter.unusedVariables false
open PySem PySem.W PyProof.Rows PySem.Claim2Try PySem.Pin
namespace Mine
section
variable {prog : Program} {w : World} {B : Bs} {G : Pg} {I : In} {d : Nat} {A : Around} {E : Value → Shared → Prop} {env : Env} {sc : Scope} {ρ ρ' : Rho} {σ : Hp} {s : Shared} {L : Loc} {h : Heap}
theorem enum_hid {e it : Addr} {i : Int} {old : Value} (q : IsEnum h e it i old) : Hid h e := by
  intro o' ho'
  rw [q] at ho'
  cases ho'
  refine ⟨fun its e q => ?_, fun f x q => ?_, fun a b t u v q => ?_⟩ <;> exact absurd (congrArg Obj.cls q) (by simp)
theorem sound_forEnum (ok : Ok B G) (sn : Snd prog w B I d) (ao : AOk d A) (eo : EnvOk env sc) {n kk : Nat} {u : Value} {t : Expr} {bo : List Stmt} {K : KF} {EE : Value → Shared → Prop} (ht : isTup t = true) (hlen : lenAt σ n = some kk) (k : listLoop (stmtsI (I.ex sc) bo) (asgI I sc t) n true kk 0 L σ K)
    (S : St B ρ σ s) (l : Lo B env L ρ s.heap) (r : RepV B s.heap ρ (.loc n) u) :
    wpAny (model prog w) A (call (.type "enumerate") [u]) (fun en s1 => wpAny (model prog w) A (pyIter en) (fun it s₂ => codeAny (model prog w) A (.forLoop t it bo [] env) (fun r s' => match r with | .ok f => PF B ρ s.heap env K f s' | .error e => EE e s') s₂) no s1) no s := by
  obtain ⟨p, its, e, hp, rfl, _, hl, _, _, _⟩ := S.listAt hlen r
  refine call_enumerate_list (isList_x hl) fun H1 en1 li1 sz1 g1 => wpAny_pyIter_enum en1 ?_
  generalize hit : s.heap.objs.size = it at *
  have fit : s.heap.get? it = none := by rw [← hit]; exact get?_size _
  have fen : s.heap.get? (it + 1) = none := Heap.get?_none_of_le (by rw [hit]; exact Nat.le_succ _)
  have E0 : Ext (env.locals :: [it + 1, it]) s.heap ρ H1 ρ := .grow g1
  have E0' : Ext [] s.heap ρ H1 ρ := .grow g1
  have two : ∀ {y : Addr}, y ∈ [it + 1, it] → y = it + 1 ∨ y = it := fun q => by simpa using q
  have fx : ∀ y ∈ [it + 1, it], s.heap.get? y = none := fun y hy => by rcases two hy with rfl | rfl; exact fen; exact fit
  refine sound_gen ok sn ao eo (src := listSrc n true) (itv := .ref (it + 1)) (xs := [it + 1, it]) (It := fun i h => (∃ old, IsEnum h (it + 1) it i old) ∧ h.IsListIter it p.1 i) (h1 := s.heap) (ρ1 := ρ)
    (fun i h h' ⟨⟨old, a1⟩, o, a, b⟩ kk => ⟨⟨old, kk _ (by simp) _ a1⟩, o, kk _ (by simp) _ a, b⟩) (fun i h ⟨⟨old, q1⟩, q2⟩ a ha => by
      rcases two ha with rfl | rfl
      · exact ⟨enum_hid q1, _, q1⟩
      · exact ⟨iter_hid q2, let ⟨o, e, _⟩ := q2; ⟨o, e⟩⟩)
    fx (fun y hy => S.base (fx y hy)) l.there ?_ ?_ k (S.grows g1) (l.ext0 E0') ⟨⟨_, en1⟩, li1⟩ (fun y hy => S.notOwn (fx y hy)) E0
  · intro i σ' ρ' s' S' ⟨⟨old, en'⟩, it'⟩ nx hat hs
    have hi : itemAt σ' n i = some none := by
      unfold listSrc at hs
      split at hs
      · cases hs
      · exact hs
    obtain ⟨k2, hk2⟩ := item_len hi
    obtain ⟨p2, its2, e2, hp2, _, _, hl2, _, _, hit2⟩ := S'.listAt hk2 (.loc n p (hat n p hp))
    rw [hat n p hp] at hp2
    cases hp2
    obtain ⟨o2, ho2, hval⟩ := hit2 i
    rw [hi] at ho2
    cases ho2
    exact wpAny_pyNext_enum_end ao.handled en' it' (isList_x hl2) hval fun h2 eb => ⟨rfl, h2, s'.toks, rfl, fun b o hb q => eb b o (fun z => hb (by rw [z]; simp)) q⟩
  · intro i v σ' ρ' s' S' ⟨⟨old, en'⟩, it'⟩ nx hat hs
    obtain ⟨z, hi, hz⟩ : ∃ z, itemAt σ' n i = some (some z) ∧ v = .tup [.int i, z] := by
      unfold listSrc at hs
      split at hs
      · rename_i z hz; cases hs; exact ⟨z, hz, rfl⟩
      · rename_i hne; exact (hne _ hs).elim
    subst hz
    obtain ⟨k2, hk2⟩ := item_len hi
    obtain ⟨p2, its2, e2, hp2, _, _, hl2, _, _, hit2⟩ := S'.listAt hk2 (.loc n p (hat n p hp))
    rw [hat n p hp] at hp2
    cases hp2
    obtain ⟨o2, ho2, hval⟩ := hit2 i
    rw [hi] at ho2
    cases ho2
    obtain ⟨w', hw', rw'⟩ := hval
    refine wpAny_pyNext_enum_item en' it' (isList_x hl2) hw' (Nat.succ_ne_self it) fun h2 eo2 li2 tup2 sz2 kp2 => ⟨_, rfl, ?_⟩
    cases t with
    | Tuple es x1 pp =>
      refine wpAny_letOwnedTupleGo_enum eo2 fun h3 en3 sb3 => ?_
      have fs : s'.heap.get? s'.heap.objs.size = none := get?_size _
      have ne1 : s'.heap.objs.size ≠ it + 1 := fun z => by rw [z] at fs; rw [en'] at fs; cases fs
      have nea : it ≠ it + 1 := (Nat.succ_ne_self it).symm
      have kp3 : ∀ b o, b ∉ [it + 1, it] → s'.heap.get? b = some o → h3.get? b = some o := fun b o hb q => by
        simp only [List.mem_cons, List.not_mem_nil, or_false, not_or] at hb
        exact (sb3.2 b hb.1).trans (kp2 b o hb.1 hb.2 q)
      have li3 : h3.IsListIter it p.1 (i + 1) := let ⟨o, a, b⟩ := li2; ⟨o, (sb3.2 _ nea).trans a, b⟩
      have EI : Ext [it + 1, it] s'.heap ρ' h3 ρ' := .of_keep kp3 fun y hy => by
        rcases two hy with rfl | rfl
        · exact ⟨_, en3⟩
        · exact let ⟨o, a, _⟩ := li3; ⟨o, a⟩
      have rz : RepV B h3 ρ' z w' := rw'.ext EI fun y hy => by
        rcases two hy with rfl | rfl
        · exact enum_hid en'
        · exact iter_hid it'
      have tup3 : h3.get? s'.heap.objs.size = some (tupObj #[.int i s'.toks, w'] 0) := (sb3.2 _ ne1).trans tup2
      exact ⟨h3, s'.toks + 1, rfl, ⟨⟨_, by simpa using en3⟩, li3⟩, kp3, .tup _ _ _ _ (S'.notOwn fs) tup3 (.cons (.int _ _) (.cons rz .nil))⟩
    | _ => cases ht
theorem drop_value {e : Expr} {pos : Pos} {v : Value} {Q : Flow → Shared → Prop} (q : Q .next s) : wpAny (model prog w) A (dropValue e pos v) Q no s := by
  unfold dropValue
  split
  · exact wpAny_pure q
  · exact wpAny_bind (wpAny_standAt (wpAny_bind (wpAny_runValue (codeAny_builtin entry_let_go (show wpAny _ _ (ret .none) _ _ s from wpAny_pure (wpAny_pure q))))))
  · exact wpAny_pure q
theorem swaps_plain {e : Expr} {t : Option Expr} {n : Nat} (hc : noComp e = true) : swapsWith e t n env = pure false := by
  cases e <;> first | rfl | cases hc
theorem EnvOk.notInteractive (eo : EnvOk env sc) : interactive env = false := by unfold interactive; rw [eo.scope, eo.kind]; rfl
theorem swapped_none {t e : Expr} (hs : noSwap t e = true) : swappedStores [t] e env = pure none := by
  cases t with
  | Tuple ts x p =>
    cases e with
    | Tuple vs y q =>
      cases ts with
      | nil => unfold swappedStores; rfl
      | cons a r =>
        have hn : isName a = false := by
          have : (!isName a) = true := hs
          cases h : isName a with
          | false => rfl
          | true => rw [h] at this; cases this
        unfold swappedStores
        dsimp only
        split
        · rfl
        · split
          · rfl
          · have hlt : ∀ (f : Expr → Option Str), f a = none → ((a :: r).filterMap f).length ≠ (a :: r).length := fun f hf => by
              rw [List.filterMap_cons, hf]
              have := List.length_filterMap_le f r
              dsimp only
              rw [List.length_cons]
              omega
            rw [if_pos]
            rw [Bool.or_eq_true]
            refine .inl ?_
            rw [bne_iff_ne]
            refine hlt _ ?_
            cases a <;> first | rfl | cases hn
    | _ => rfl
  | List ts p => cases hs
  | _ => rfl
end
end Mine
end
section
set_option maxRecDepth 100000
set_option linter.unusedVariables false
open PySem PySem.W PyProof.Rows PySem.Claim2Try PySem.Pin
namespace Mine
section
variable {prog : Program} {w : World} {B : Bs} {G : Pg} {I : In} {d : Nat} {A : Around} {E : Value → Shared → Prop} {env : Env} {sc : Scope} {ρ ρ' : Rho} {σ : Hp} {s : Shared} {L : Loc} {h : Heap}
theorem noComp_call {e : Expr} (h : callish e = true) : noComp e = true := by cases e <;> first | rfl | cases h
theorem each_one {t : Expr} (ht : ∀ e p, t ≠ .Starred e p) : (assignEach [t] env).map (·.2) = [assign t env] := by
  cases t <;> first | rfl | exact (ht _ _ rfl).elim
theorem asg_noStar {t : Expr} {v : AV} {K : Loc → Hp → Prop} (k : asgI I sc t v L σ K) : ∀ e p, t ≠ .Starred e p := by
  rintro e p rfl
  exact k
theorem exec_Assign_plain {t e : Expr} {pos : Pos} (h1 : noComp e = true) (h2 : noSwap t e = true) (h3 : ∀ e p, t ≠ .Starred e p) : exec (.Assign [t] e pos) env = (do standAt pos; let v ← eval e env; assign t env v; pure .next) := by
  have e0 : exec (.Assign [t] e pos) env = (do
      standAt pos
      if ← swapsWith e (some t) pos.line env then do
        evalThenUse e env fun v => assignAll v ((assignEach [t] env).map (·.2))
        pure .next
      else do
        let v ← eval e env
        assignStores env v (← swappedStores [t] e env) ((assignEach [t] env).map (·.2))) := rfl
  rw [e0, swaps_plain h1, swapped_none h2, each_one h3]
  rfl
theorem eval_enum {x : Str} {p pos : Pos} {e : Expr} {Q : Value → Shared → Prop} (ok : Ok B G) (eo : EnvOk env sc) (S : St B ρ σ s) (hx : eqS x "enumerate" = true) (hk : kindS x sc = some .globalImplicit) (ht : topFind x G.top = none) (hns : noStar e = true)
    (q : wpAny (model prog w) A (eval e env) (fun u s1 => wpAny (model prog w) A (call (.type "enumerate") [u]) Q no s1) no s) : wpAny (model prog w) A (eval (.Call (.Name x p) [e] [] pos) env) Q no s := by
  rw [eval_Call_plain (f := .Name x p) (fun _ _ _ z => nomatch z)]
  have e1 := eqS_iff.mp hx
  subst e1
  refine wpAny_bind ?_
  refine Calls.Name_function_global (eo.scope ▸ eo.kind) ((eo.kindOf _).trans hk) ?_ (by decide)
  have hg : s.heap.Ns env.globals B.mg := by rw [eo.glob]; exact ok.glob.keeps S.keep
  have hb : s.heap.Ns env.builtins B.mb := by rw [eo.blt]; exact ok.blt.keeps S.keep
  refine Calls.loadGlobal_builtin hg (ok.enum ht).1 hb (ok.enum ht).2 ?_
  have hst : [e].all noStar = true := by rw [List.all_cons, hns]; rfl
  refine PyProof.Rows.callWith_type (by rw [star_each hst]; rfl) ?_
  rw [star_each hst]
  refine Calls.evalArgs_plain (Calls.spliced_cons (wpAny_mono q (fun u s1 q1 => Calls.spliced_nil q1) fun _ _ z => z))
theorem sound_assign (ok : Ok B G) (sn : Snd prog w B I d) (ao : AOk d A) (eo : EnvOk env sc) {t e : Expr} {pos : Pos} {K : KF} (hc : (noComp e && noSwap t e) = true)
    (k : I.ev sc e L σ fun v σ1 => asgI I sc t v L σ1 fun L1 σ2 => K .next L1 σ2) (S : St B ρ σ s) (l : Lo B env L ρ s.heap) : wpAny (model prog w) A (exec (.Assign [t] e pos) env) (PF B ρ s.heap env K) no s := by
  rw [Bool.and_eq_true] at hc
  cases hst : noStarT t with
  | false =>
    cases t with
    | Starred a b =>
      -- a starred target: the value is had, then nothing is
      have e0 : exec (.Assign [.Starred a b] e pos) env = (do
          standAt pos
          if ← swapsWith e (some (.Starred a b)) pos.line env then do
            evalThenUse e env fun v => assignAll v ((assignEach [.Starred a b] env).map (·.2))
            pure .next
          else do
            let v ← eval e env
            assignStores env v (← swappedStores [.Starred a b] e env) ((assignEach [.Starred a b] env).map (·.2))) := rfl
      rw [e0, swaps_plain hc.1]
      refine wpAny_bind (wpAny_standAt (wpAny_bind (wpAny_pure ?_)))
      refine wpAny_then (K := fun v σ1 => False) (wpAny_got (sn.ev k ao eo S l) fun v u σ1 ρ1 s1 r S1 e1 k1 => ⟨v, σ1, ρ1, r, S1, e1, k1⟩) fun v u σ1 ρ1 s1 r S1 e1 k1 => k1.elim
    | _ => cases hst
  | true =>
    have h3 : ∀ e p, t ≠ .Starred e p := by rintro e p rfl; cases hst
    rw [exec_Assign_plain hc.1 hc.2 h3]
    refine wpAny_bind (wpAny_standAt (wpAny_then (sn.ev k ao eo S l) fun v u σ1 ρ1 s1 r S1 e1 k1 => ?_))
    refine wpAny_bind (wpAny_gotU (sound_asgI ok sn ao eo k1 S1 (l.ext0 e1) r) fun L2 σ2 ρ2 s2 S2 l2 e2 k2 => wpAny_pure ?_)
    exact ⟨.next, L2, σ2, ρ2, .next, S2, l2, e1.loc.trans e2, k2⟩
theorem sound_augSub (ok : Ok B G) (sn : Snd prog w B I d) (ao : AOk d A) (eo : EnvOk env sc) {o i e : Expr} {p pos : Pos} {op : Operator} {K : KF} (hno : ∀ a b c p, i ≠ .Slice a b c p)
    (k : I.ev sc o L σ fun u σ1 => I.ev sc i L σ1 fun w σ2 => itemI G u w σ2 fun v => I.ev sc e L σ2 fun x σ3 => inplI op v x σ3 fun r σ4 => setItemI u w r σ4 fun σ5 => K .next L σ5) (S : St B ρ σ s) (l : Lo B env L ρ s.heap) :
    wpAny (model prog w) A (exec (.AugAssign (.Subscript o i p) op e pos) env) (PF B ρ s.heap env K) no s := by
  refine wpAny_AugAssign_SubscriptAny ?_ (fun ov iv new => by
    cases i with
    | Slice a b c p => exact (hno _ _ _ _ rfl).elim
    | _ => rfl)
  refine wpAny_got (sn.ev k ao eo S l) fun a ov σ1 ρ1 s1 ra S1 e1 k1 => ?_
  refine wpAny_got (sn.ev k1 ao eo S1 (l.ext0 e1)) fun b iv σ2 ρ2 s2 rb S2 e2 k2 => ?_
  refine wpAny_mono (sound_item (K := fun x σ3 => I.ev sc e L σ3 fun y σ4 => inplI op x y σ4 fun r σ5 => setItemI a b r σ5 fun σ6 => K .next L σ6) ok k2 S2 (ra.ext0 e2) rb).2 (fun old s3 ⟨c, σ3, ρ3, rc, S3, e3, k3⟩ => ?_) fun _ _ z => z
  refine wpAny_got (sn.ev k3 ao eo S3 (((l.ext0 e1).ext0 e2).ext0 e3)) fun y v σ4 ρ4 s4 ry S4 e4 k4 => ?_
  refine wpAny_got (sound_inpl k4 S4 (rc.ext0 e4) ry) fun z x σ5 ρ5 s5 rz S5 e5 k5 => ?_
  have e35 := (e3.trans e4).trans e5
  have e15 := (e1.trans e2).trans e35
  exact sound_setItem k5 S5 ((ra.ext0 e2).ext0 e35) (rb.ext0 e35) rz fun σ6 s6 S6 e6 k6 => ⟨.next, L, σ6, ρ5, .next, S6, (l.ext0 e15).ext0 e6, (e15.trans e6).loc, k6⟩
inductive EnumV : Expr → Prop
  | mk (x : Str) (p : Pos) (e : Expr) (q : Pos) : EnumV (.Call (.Name x p) [e] [] q)
theorem isEnumB_v {it : Expr} (h : isEnumB G sc it = true) : EnumV it := by
  cases it with
  | Call f args kws q =>
    cases f with
    | Name x p =>
      cases args with
      | nil => exact absurd h Bool.false_ne_true
      | cons e' r =>
        cases r with
        | cons _ _ => exact absurd h Bool.false_ne_true
        | nil =>
          cases kws with
          | cons _ _ => exact absurd h Bool.false_ne_true
          | nil => exact .mk x p e' q
    | _ => exact absurd h Bool.false_ne_true
  | _ => exact absurd h Bool.false_ne_true
theorem isGlob_inv {o : Option NameKind} (h : isGlob o = true) : o = some .globalImplicit := by
  cases o with
  | none => cases h
  | some kd => cases kd <;> first | rfl | cases h
theorem sound_for (ok : Ok B G) (sn : Snd prog w B I d) (ao : AOk d A) (eo : EnvOk env sc) {t it : Expr} {bo : List Stmt} {pos : Pos} {K : KF} (ht : okTarget t = true)
    (k : cond (isEnumB G sc it) (cond (isTup t && noStar (argOf it)) (I.ev sc (argOf it) L σ fun v σ1 => locK [v] fun n => someK (lenAt σ1 n) fun k => listLoop (stmtsI (I.ex sc) bo) (asgI I sc t) n true k 0 L σ1 K) False)
    (cond (noSet it) (I.ev sc it L σ fun v σ1 => forI I sc t bo v L σ1 K) False)) (S : St B ρ σ s) (l : Lo B env L ρ s.heap) : wpAny (model prog w) A (exec (.For t it bo [] pos) env) (PF B ρ s.heap env K) no s := by
  have up : ∀ {ρ1 : Rho} {h1 : Heap} (e1 : Ext [] s.heap ρ h1 ρ1) {rr : Result} {s4 : Shared}, (match rr with | .ok f => PF B ρ1 h1 env K f s4 | .error e => cameBackBy (model prog w) A env no e s4) → (match rr with | .ok f => PF B ρ s.heap env K f s4 | .error e => cameBackBy (model prog w) A env no e s4) := by
    intro ρ1 h1 e1 rr s4 q
    cases rr with
    | ok f => exact PF.up e1.loc q
    | error e => exact q
  cases hen : isEnumB G sc it with
  | true =>
    rw [hen] at k
    obtain ⟨hc, k⟩ := condF k
    rw [Bool.and_eq_true] at hc
    cases isEnumB_v hen with | mk x p e q =>
    have hen : (eqS x "enumerate" && isGlob (kindS x sc) && (topFind x G.top).isNone) = true := hen
    rw [Bool.and_eq_true, Bool.and_eq_true] at hen
    refine wpAny_For (eval_enum ok eo S hen.1.1 (isGlob_inv hen.1.2) (Option.isNone_iff_eq_none.mp hen.2) hc.2 (wpAny_got (sn.ev k ao eo S l) fun v u σ1 ρ1 s1 r S1 e1 k1 => ?_)) (folded_plain rfl)
    obtain ⟨n, ev, k1⟩ := locK_inv k1
    cases ev
    obtain ⟨kk, hlen, k1⟩ := someK_inv k1
    exact wpAny_mono (sound_forEnum (EE := cameBackBy (model prog w) A env no) ok sn ao eo hc.1 hlen k1 S1 (l.ext0 e1) r) (fun en s2 q => wpAny_mono q (fun it s3 q2 => codeAny_mono q2 fun rr s4 q3 => up e1 q3) fun _ _ z => z) fun _ _ z => z
  | false =>
    rw [hen] at k
    obtain ⟨hs, k⟩ := condF k
    refine wpAny_For (wpAny_got (sn.ev k ao eo S l) fun v u σ1 ρ1 s1 r S1 e1 k1 => ?_) (folded_plain hs)
    cases v with
    | rng a b =>
      obtain ⟨hc, k1⟩ := condF k1
      simp only [Bool.and_eq_true, decide_eq_true_eq] at hc
      exact wpAny_mono (sound_forRange (EE := cameBackBy (model prog w) A env no) ok sn ao eo ht hc.1.1.1 hc.1.1.2 hc.1.2 hc.2 k1 S1 (l.ext0 e1) r) (fun it s3 q2 => codeAny_mono q2 fun rr s4 q3 => up e1 q3) fun _ _ z => z
    | loc n =>
      obtain ⟨kk, hlen, k1⟩ := someK_inv k1
      exact wpAny_mono (sound_forList (EE := cameBackBy (model prog w) A env no) ok sn ao eo ht hlen k1 S1 (l.ext0 e1) r) (fun it s3 q2 => codeAny_mono q2 fun rr s4 q3 => up e1 q3) fun _ _ z => z
    | _ => exact False.elim k1
theorem sound_exB (ok : Ok B G) (sn : Snd prog w B I d) (ao : AOk d A) (eo : EnvOk env sc) {st : Stmt} {K : KF} (k : exB G I sc st L σ K) (S : St B ρ σ s) (l : Lo B env L ρ s.heap) : wpAny (model prog w) A (exec st env) (PF B ρ s.heap env K) no s := by
  cases st with
  | Expr e p =>
    obtain ⟨hc, k⟩ := condF k
    rw [exec_Expr env _ _ eo.notInteractive (swaps_plain (noComp_call hc))]
    refine wpAny_bind (wpAny_standAt (wpAny_then (sn.ev k ao eo S l) fun v u σ1 ρ1 s1 r S1 e1 k1 => drop_value ?_))
    exact ⟨.next, L, σ1, ρ1, .next, S1, l.ext0 e1, e1.loc, k1⟩
  | Pass p => exact wpAny_Pass ⟨.next, L, σ, ρ, .next, S, l, .refl .., k⟩
  | Break p => exact wpAny_bind (wpAny_standAt (wpAny_pure ⟨.brk, L, σ, ρ, .brk, S, l, .refl .., k⟩))
  | Return e p =>
    cases e with
    | some e => exact wpAny_Return_some (wpAny_got (sn.ev k ao eo S l) fun v u σ1 ρ1 s1 r S1 e1 k1 => ⟨.ret v, L, σ1, ρ1, .ret r, S1, l.ext0 e1, e1.loc, k1⟩)
    | none => exact wpAny_Return_none ⟨.ret .none, L, σ, ρ, .ret .none, S, l, .refl .., k⟩
  | Assign ts e p =>
    cases ts with
    | nil => exact False.elim k
    | cons t ts =>
      cases ts with
      | cons _ _ => exact False.elim k
      | nil =>
        obtain ⟨hc, k⟩ := condF k
        exact sound_assign ok sn ao eo hc k S l
  | AugAssign t op e p =>
    cases t with
    | Name x q =>
      refine wpAny_AugAssign_Name ?_
      refine (sound_load (prog := prog) (w := w) (A := A) ok k eo S l fun a u ra ka => ?_).1
      refine wpAny_got (sn.ev ka ao eo S l) fun b v σ1 ρ1 s1 rb S1 e1 k1 => ?_
      refine wpAny_got (sound_inpl k1 S1 (ra.ext0 e1) rb) fun c x σ2 ρ2 s2 rc S2 e2 k2 => ?_
      have e12 := e1.trans e2
      exact sound_store eo k2 S2 (l.ext0 e12) rc fun L' s3 S3 l3 e3 k3 _ => ⟨.next, L', σ2, ρ2, .next, S3, l3, e12.loc.trans e3, k3⟩
    | Attribute o a0 q =>
      refine wpAny_AugAssign_AttributeAny ?_
      refine wpAny_got (sn.ev k ao eo S l) fun a ov σ1 ρ1 s1 ra S1 e1 k1 => ?_
      refine wpAny_got (sound_attr (K := fun x σ2 => I.ev sc e L σ2 fun y σ3 => inplI op x y σ3 fun r σ4 => setAttrI a a0 r σ4 fun σ5 => K .next L σ5) ok k1 S1 ra) fun b old σ2 ρ2 s2 rb S2 e2 k2 => ?_
      refine wpAny_got (sn.ev k2 ao eo S2 ((l.ext0 e1).ext0 e2)) fun c v σ3 ρ3 s3 rc S3 e3 k3 => ?_
      refine wpAny_got (sound_inpl k3 S3 (rb.ext0 e3) rc) fun y x σ4 ρ4 s4 ry S4 e4 k4 => ?_
      have e14 := ((e1.trans e2).trans e3).trans e4
      exact sound_setAttr ok k4 S4 (((ra.ext0 e2).ext0 e3).ext0 e4) ry fun σ5 s5 S5 e5 k5 => ⟨.next, L, σ5, ρ4, .next, S5, (l.ext0 e14).ext0 e5, (e14.trans e5).loc, k5⟩
    | Subscript o i q =>
      cases i with
      | Slice _ _ _ _ => exact False.elim k
      | _ => exact sound_augSub ok sn ao eo (fun _ _ _ _ e => nomatch e) k S l
    | _ => exact False.elim k
  | If t b o p =>
    refine wpAny_If (wpAny_gotB (sn.ts k ao eo S l) fun b σ1 ρ1 s1 S1 e1 k1 => ?_)
    cases b with
    | true => rw [if_pos rfl]; exact wpAny_mono (sound_stmts sn ao eo k1 S1 (l.ext0 e1)) (fun _ _ x => x.up e1.loc) fun _ _ z => z
    | false => rw [if_neg Bool.false_ne_true]; exact wpAny_mono (sound_stmts sn ao eo k1 S1 (l.ext0 e1)) (fun _ _ x => x.up e1.loc) fun _ _ z => z
  | For t it bo el p =>
    cases el with
    | cons _ _ => exact False.elim k
    | nil =>
      obtain ⟨ht, k⟩ := condF k
      exact sound_for ok sn ao eo ht k S l
  | _ => exact False.elim k
end
end Mine
end
section
set_option maxRecDepth 100000
set_option linter.unusedVariables false
open PySem PySem.W PyProof.Rows PySem.Claim2Try PySem.Pin
namespace Mine
theorem memS_iff {x : Str} : ∀ {l : List Str}, memS x l = true ↔ x ∈ l
  | [] => ⟨fun h => (by cases h), fun h => (by cases h)⟩
  | y :: r => by
    unfold memS
    cases h : eqS x y with
    | true => exact ⟨fun _ => by rw [eqS_iff.mp h]; exact List.mem_cons_self .., fun _ => rfl⟩
    | false =>
      show memS x r = true ↔ _
      rw [memS_iff]
      exact ⟨fun q => List.mem_cons_of_mem _ q, fun q => (List.mem_cons.mp q).resolve_left (eqS_ne h)⟩
theorem nodupS_iff : ∀ {l : List Str}, nodupS l = true → l.Nodup
  | [], _ => List.nodup_nil
  | x :: r, h => by
    unfold nodupS at h
    cases hm : memS x r with
    | true => rw [hm] at h; cases h
    | false =>
      rw [hm] at h
      refine List.nodup_cons.mpr ⟨fun q => ?_, nodupS_iff h⟩
      rw [memS_iff.mpr q] at hm; cases hm
theorem fm_congr {α β : Type} {f g : α → Option β} : ∀ {l : List α}, (∀ x ∈ l, f x = g x) → l.filterMap f = l.filterMap g
  | [], _ => rfl
  | x :: r, h => by rw [List.filterMap_cons, List.filterMap_cons, h x (List.mem_cons_self ..), fm_congr fun y hy => h y (List.mem_cons_of_mem _ hy)]
theorem zip_lookup {α : Type} : ∀ {ns : List Str} {ws : List α}, ns.length = ws.length → ns.Nodup → (∀ n ∈ ns, ((ns.zip ws).lookup n).isSome = true) ∧ ns.filterMap (fun n => ((ns.zip ws).lookup n).map (n, ·)) = ns.zip ws
  | [], [], _, _ => ⟨fun _ h => (nomatch h), rfl⟩
  | n :: ns, x :: ws, hl, hd => by
    obtain ⟨h1, h2⟩ := zip_lookup (ns := ns) (ws := ws) (Nat.succ.inj hl) (List.nodup_cons.mp hd).2
    have hne : ∀ m ∈ ns, ((n, x) :: ns.zip ws).lookup m = (ns.zip ws).lookup m := fun m hm => by
      rw [List.lookup_cons, show (m == n) = false from beq_eq_false_iff_ne.mpr fun e => (List.nodup_cons.mp hd).1 (e ▸ hm)]
    refine ⟨fun m hm => ?_, ?_⟩
    · rw [List.zip_cons_cons]
      rcases List.mem_cons.mp hm with rfl | hm
      · rw [List.lookup_cons, beq_self_eq_true]; rfl
      · rw [hne m hm]; exact h1 m hm
    · rw [List.zip_cons_cons, List.filterMap_cons, List.lookup_cons, beq_self_eq_true]
      show (n, x) :: _ = _
      congr 1
      refine Eq.trans (fm_congr fun m hm => ?_) h2
      rw [hne m hm]
theorem wpAny_forE {M : Model} {A : Around} {E : Value → Shared → Prop} {s : Shared} {α β : Type} {l : List α} {b : β} {f : α → β → Sem (ForInStep β)} {Q : β → Shared → Prop} (h : l = []) (q : Q b s) : wpAny M A (forIn l b f) Q E s := by rw [h]; exact wpAny_forN q
theorem bind_plain {s : Shared} {fd : FuncData} {ws : List Value} (h1 : fd.params.posonlyargs = []) (h2 : fd.params.kwonlyargs = []) (h3 : fd.params.vararg = none) (h4 : fd.params.kwarg = none) (h5 : fd.defaults = .none) (hl : (fd.params.args.map (·.arg)).length = ws.length) (hd : (fd.params.args.map (·.arg)).Nodup) :
    BindsTo s fd ⟨ws, []⟩ ((fd.params.args.map (·.arg)).zip ws) := by
  intro M A E Q hq
  obtain ⟨f1, f2, ⟨po, ar, va, ko, kd, ka, de⟩, f4, f5, f6, f7, f8, f9, f10, f11, f12, f13, f14, f15⟩ := fd
  cases h1; cases h2; cases h3; cases h4; cases h5
  dsimp only at hl hd hq
  obtain ⟨z1, z2⟩ := zip_lookup hl hd
  unfold bindArgs
  refine wpAny_bind (wpAny_forN ?_)
  refine wpAny_to (v := none) rfl ?_
  refine wpAny_no (show ¬ ((decide (ws.length > (ar.map (·.arg)).length) && true) = true) by rw [hl]; simp) ?_
  have hmiss : ∀ l : List Str, (∀ n ∈ l, n ∈ ar.map (·.arg)) → List.filter (fun n => (List.lookup n ((ar.map (·.arg)).zip ws)).isNone) l = [] := fun l hm => by
    rw [List.filter_eq_nil_iff]
    intro n hn q
    have := z1 n (hm n hn)
    rw [Option.isNone_iff_eq_none] at q
    rw [q] at this; cases this
  refine wpAny_no (show ¬ ((!(List.filter (fun n => (List.lookup n ((ar.map (·.arg)).zip ws)).isNone) (List.take _ (ar.map (·.arg)))).isEmpty) = true) by rw [hmiss _ fun n hn => List.mem_of_mem_take hn]; decide) ?_
  refine wpAny_bind (wpAny_forE (show List.zip _ (List.drop _ ([] : List Value)) = [] by rw [List.drop_nil, List.zip_nil_right]) ?_)
  refine wpAny_bind (wpAny_forN ?_)
  refine wpAny_is (v := List.filterMap (fun n => (((ar.map (·.arg)).zip ws).lookup n).map (n, ·)) (([] ++ ar.map (·.arg)) ++ [])) rfl ?_
  rw [List.append_nil, List.nil_append, z2]
  exact hq
noncomputable def afterLoad {α : Type} (t : Sem α) (o : Obj) : Sem α := match t with
  | .load _ _ k => k o
  | t => t
theorem wpAny_loads {M : Model} {A : Around} {α : Type} {t : Sem α} {a : Addr} {p : Option Value} {o : Obj} {s : Shared} {Q : α → Shared → Prop} {E : Value → Shared → Prop} (ht : t = Sem.load a p (afterLoad t)) (ho : s.heap.get? a = some o) (q : wpAny M A (afterLoad t o) Q E s) : wpAny M A t Q E s := by
  have h : wpAny M A (loadPart a p >>= afterLoad t) Q E s := wpAny_bind (wpAny_loadPart ho q)
  exact Eq.mpr (congrArg (fun t => wpAny M A t Q E s) ht) h
theorem two_of {α : Type} {l : List α} (h : l.length = 2) : ∃ a b, l = [a, b] := by
  cases l with
  | nil => cases h
  | cons a r =>
    cases r with
    | nil => cases h
    | cons b r =>
      cases r with
      | nil => exact ⟨a, b, rfl⟩
      | cons _ _ => cases h
theorem bind_init {s : Shared} {fd : FuncData} {T : Addr} {o : Obj} {items : Array Value} {n : Nat} {a b c : Arg} {x m p : Value} (h1 : fd.params.posonlyargs = []) (h2 : fd.params.kwonlyargs = []) (h3 : fd.params.vararg = none) (h4 : fd.params.kwarg = none) (ha : fd.params.args = [a, b, c]) (e1 : a.arg = nSelf) (e2 : b.arg = nMemory) (e3 : c.arg = nPc)
    (hd : fd.defaults = .ref T) (ho : s.heap.get? T = some o) (hs : o.data = .seq items n) (hn : items.size = 2) : BindsTo s fd ⟨[x], [(nMemory, m), (nPc, p)]⟩ [(nSelf, x), (nMemory, m), (nPc, p)] := by
  intro M A E Q hq
  obtain ⟨f1, f2, ⟨po, ar, va, ko, kd, ka, de⟩, f4, f5, f6, f7, f8, f9, f10, f11, f12, f13, f14, f15⟩ := fd
  obtain ⟨a1, a2, a3⟩ := a
  obtain ⟨b1, b2, b3⟩ := b
  obtain ⟨c1, c2, c3⟩ := c
  obtain ⟨o1, o2, o3, o4⟩ := o
  obtain ⟨l⟩ := items
  cases h1; cases h2; cases h3; cases h4; cases ha; cases e1; cases e2; cases e3; cases hd; cases hs
  obtain ⟨d1, d2, rfl⟩ := two_of (l := l) hn
  refine wpAny_loads (a := T) (p := none) (by kernel_rfl) ho ?_
  exact wpAny_is (by kernel_rfl) hq
end Mine
end
section
set_option maxRecDepth 100000
set_option linter.unusedVariables false
open PySem PySem.W PyProof.Rows PySem.Claim2Try PySem.Pin
namespace Mine
section
variable {prog : Program} {w : World} {B : Bs} {G : Pg} {I : In} {d : Nat} {A : Around} {E : Value → Shared → Prop} {env : Env} {sc : Scope} {ρ ρ' : Rho} {σ : Hp} {s : Shared} {L : Loc} {h : Heap}
theorem kindS_lookup {sc : Scope} (y : Str) : kindS y sc = sc.names.lookup y := by
  unfold kindS
  induction sc.names with
  | nil => rfl
  | cons z r ih =>
    obtain ⟨z, kk⟩ := z
    show cond (eqS y z) (some kk) (lookS y r) = _
    rw [List.lookup_cons]
    cases hq : eqS y z with
    | true => rw [eqS_iff.mp hq]; simp
    | false => rw [show (y == z) = false from beq_eq_false_iff_ne.mpr (eqS_ne hq)]; exact ih
theorem plainScope_inv (h : plainScope sc = true) : sc.kind = .function ∧ sc.isGenerator = false ∧ sc.isCoroutine = false ∧ ∀ y ∈ sc.names, y.2 ≠ .cell := by
  unfold plainScope at h
  simp only [Bool.and_eq_true, List.all_eq_true, Bool.not_eq_true'] at h
  obtain ⟨⟨⟨h1, h2⟩, h3⟩, h4⟩ := h
  refine ⟨?_, h2, h3, fun y hy e => ?_⟩
  · cases hk : sc.kind <;> first | rfl | (rw [hk] at h1; cases h1)
  · have := h4 y hy; rw [e] at this; cases this
theorem AOk.deeper (ao : AOk (d + 1) A) (env : Env) : AOk d (A.deeper env) := by
  obtain ⟨h1, h2, h3⟩ := ao
  refine ⟨?_, ?_, h3⟩
  · show A.depth + 1 + 2 * d ≤ 900; omega
  · show A.units + 3 + 8 * d ≤ 9000; omega
theorem AOk.less {d' : Nat} (ao : AOk d A) (h : d' ≤ d) : AOk d' A := ⟨by have := ao.depth; omega, by have := ao.units; omega, ao.handled⟩
theorem AOk.room1 (ao : AOk d A) : A.depth < recursionLimit := by have := ao.depth; rw [recursionLimit]; omega
theorem sound_body (ok : Ok B G) (sn : Snd prog w B I d) {name qual : Str} {pa : Arguments} {bo : List Stmt} {fw : Value} {args : Args} {L0 : Option Loc} {K : KV} {R : Result → Shared → Prop} {binds : Loc → List (Str × Value)} (fn : FnAt B.hb 0 fw name qual pa bo sc) (k : bodyI I L0 bo sc σ K) (S : St B ρ σ s) (room : A.depth < recursionLimit) (ao : ∀ env, AOk d (A.deeper env))
    (hb : ∀ L fd, L0 = some L → fd.params = pa → (∃ dv, B.hb.DefaultsAt 0 dv fd.defaults ∧ ConstVals pa.defaults dv) → BindsTo s fd args (binds L))
    (hn : ∀ L, L0 = some L → (binds L).map (·.1) = L.map (·.1)) (hr : ∀ L, L0 = some L → ∀ x v, lookS x L = some v → ∃ u, (binds L).reverse.lookup x = some u ∧ RepV B s.heap ρ v u)
    (q : ∀ v s', PV B ρ s.heap K v s' → R (.ok (.ret v)) s') : codeAny (model prog w) A (.call fw args) R s := by
  unfold bodyI at k
  split at k
  · rename_i L
    obtain ⟨hc, k⟩ := condF k
    rw [Bool.and_eq_true] at hc
    obtain ⟨p1, p2, p3, p4⟩ := plainScope_inv hc.1
    obtain ⟨a, dV, pm, c, doc, P, dv, rfl, _, _, _, hf, hcr, _, _, hdef, hcv⟩ := fn
    refine codeAny_call_def (binds := binds L) (body := bo) room (S.keep _ _ hf) rfl (ok.lim.keeps S.keep) (hcr.keeps S.keep) rfl (hb L _ rfl rfl ⟨dv, hdef, hcv⟩) p4 (fun y hy => ?_) (fun h₀ hns g => ?_) p3 p2 p1
    · have hm : y.1 ∈ L.map (·.1) := by rw [← hn L rfl]; exact List.mem_map_of_mem hy
      obtain ⟨z, hz, e⟩ := List.mem_map.mp hm
      have := List.all_eq_true.mp hc.2 z hz
      rw [← e, ← kindS_lookup]
      show kindS z.1 sc = _
      split at this
      · rename_i hk; exact hk
      · cases this
    · generalize henv : callEnv (defFd name qual pa bo sc mainGlobals dV .none none pm (.ref c) doc) s.heap.objs.size a = cenv
      have el : cenv.locals = s.heap.objs.size := by rw [← henv]; rfl
      have eo : EnvOk cenv sc := by rw [← henv]; exact ⟨rfl, p1, rfl, rfl⟩
      have E0 : Ext [] s.heap ρ h₀ ρ := .grow g
      have f0 : s.heap.get? cenv.locals = none := by rw [el]; exact get?_size _
      have l0 : Lo B cenv L ρ h₀ := ⟨⟨_, by rw [el]; exact hns, fun x v hv => let ⟨u, a1, a2⟩ := hr L rfl x v hv; ⟨u, a1, a2.ext0 E0⟩⟩, S.notOwn f0, S.base f0⟩
      refine wpAny_mono (sound_stmts sn (ao cenv) eo k (S.grows g) l0) (fun f s' ⟨fl, L', σ', ρ', rf, S', l', e', k'⟩ => ?_) fun _ _ z => z.elim
      have Ef : Ext [] s.heap ρ s'.heap ρ' := (E0.loc.trans e').drop fun y hy => .inr (by rw [List.mem_singleton.mp hy]; exact f0)
      cases rf with
      | next => exact q _ _ (PV.of .none S' Ef k')
      | ret rv => exact q _ _ (PV.of rv S' Ef k')
      | brk => exact k'.elim
      | cont => exact k'.elim
  · exact k.elim
theorem lookS_zip : ∀ {ns : List Str} {vs : List AV} {ws : List Value} {x : Str} {v : AV}, RepVs B h ρ vs ws → ns.length = vs.length → ns.Nodup → lookS x (ns.zip vs) = some v → ∃ u, (ns.zip ws).reverse.lookup x = some u ∧ RepV B h ρ v u
  | [], _, _, _, _, _, _, _, e => by cases e
  | n :: ns, [], _, _, _, _, hl, _, _ => by cases hl
  | n :: ns, v0 :: vs, _, x, v, r, hl, hd, e => by
    cases r with | cons a b =>
    rename_i w0 ws
    have hd' := List.nodup_cons.mp hd
    rw [List.zip_cons_cons, List.reverse_cons, List.lookup_append]
    have e : cond (eqS x n) (some v0) (lookS x (ns.zip vs)) = some v := e
    cases hq : eqS x n with
    | true =>
      rw [hq] at e
      cases e
      have hx := eqS_iff.mp hq
      subst hx
      have hno : List.lookup x (ns.zip ws).reverse = none := by
        rw [List.lookup_eq_none_iff]
        intro p hp
        rw [List.mem_reverse] at hp
        have hm : p.1 ∈ ns := (List.of_mem_zip hp).1
        rw [bne_iff_ne]
        intro z
        exact hd'.1 (z ▸ hm)
      refine ⟨w0, ?_, a⟩
      rw [hno]
      show List.lookup x [(x, w0)] = _
      rw [List.lookup_cons, beq_self_eq_true]
    | false =>
      rw [hq] at e
      obtain ⟨u, h1, h2⟩ := lookS_zip b (Nat.succ.inj hl) hd'.2 e
      exact ⟨u, by rw [h1]; rfl, h2⟩
end
end Mine
end
section
set_option maxRecDepth 100000
set_option linter.unusedVariables false
open PySem PySem.W PyProof.Rows PySem.Claim2Try PySem.Pin
namespace Mine
theorem call_type : fastLookup "type" (Str.ofString "__call__") = some (some (.builtin "type.__call__")) := by kernel_rfl
theorem type_mro : (fastBuiltinMro "type").map (·.contains (.type "type")) = some true := by kernel_rfl
section
variable {prog : Program} {w : World} {B : Bs} {G : Pg} {I : In} {d : Nat} {A : Around} {E : Value → Shared → Prop} {env : Env} {sc : Scope} {ρ ρ' : Rho} {σ : Hp} {s : Shared} {L : Loc} {h : Heap}
theorem kept_fn {M : Model} {a : Addr} {o : Obj} {fd : FuncData} (ho : h.get? a = some o) (hd : o.data = .func fd) : Kept M (.ref a) h := by
  refine ⟨.frame, .inl rfl, (Looks.ld (part := none) ho).andThen ?_⟩
  rw [hd]; exact .now
theorem kept_bm {M : Model} {q f : Addr} {self : Value} {o : Obj} {fd : FuncData} (hq : h.get? q = some (methodObj (.ref f) self)) (ho : h.get? f = some o) (hd : o.data = .func fd) : Kept M (.ref q) h := by
  refine ⟨.boundFrame, .inr (.inr rfl), (Looks.ld (part := none) hq).andThen ((Looks.ld (part := none) ho).andThen ?_)⟩
  rw [hd]; exact .now
theorem bindI_inv {pa : Arguments} {vs : List AV} {L : Loc} (h : bindI pa vs = some L) : pa.posonlyargs = [] ∧ pa.kwonlyargs = [] ∧ pa.vararg = none ∧ pa.kwarg = none ∧ pa.defaults = [] ∧ (pa.args.map (·.arg)).length = vs.length ∧ (pa.args.map (·.arg)).Nodup ∧ L = (pa.args.map (·.arg)).zip vs := by
  unfold bindI at h
  cases hc : pa.posonlyargs.isEmpty && pa.kwonlyargs.isEmpty && pa.vararg.isNone && pa.kwarg.isNone && pa.defaults.isEmpty && Nat.beq pa.args.length vs.length && nodupS (pa.args.map (·.arg)) with
  | false => rw [hc] at h; cases h
  | true =>
    rw [hc] at h
    cases h
    simp only [Bool.and_eq_true, List.isEmpty_iff, Option.isNone_iff_eq_none] at hc
    obtain ⟨⟨⟨⟨⟨⟨h1, h2⟩, h3⟩, h4⟩, h5⟩, h6⟩, h7⟩ := hc
    exact ⟨h1, h2, h3, h4, h5, by rw [List.length_map]; exact Nat.eq_of_beq_eq_true h6, nodupS_iff h7, rfl⟩
theorem sound_fn (ok : Ok B G) (sn : Snd prog w B I d) {name qual : Str} {pa : Arguments} {bo : List Stmt} {fw : Value} {vs : List AV} {ws : List Value} {K : KV} {R : Result → Shared → Prop} (fn : FnAt B.hb 0 fw name qual pa bo sc) (k : bodyI I (bindI pa vs) bo sc σ K) (S : St B ρ σ s) (ao : AOk (d + 1) A)
    (r : RepVs B s.heap ρ vs ws) (q : ∀ v s', PV B ρ s.heap K v s' → R (.ok (.ret v)) s') : codeAny (model prog w) A (.call fw ⟨ws, []⟩) R s := by
  refine sound_body ok sn (binds := fun _ => (pa.args.map (·.arg)).zip ws) fn k S ao.room1 (fun env => ao.deeper env) (fun L fd hL hp ⟨dv, hd, hcv⟩ => ?_) (fun L hL => ?_) (fun L hL x v hv => ?_) q
  · obtain ⟨h1, h2, h3, h4, h5, h6, h7, rfl⟩ := bindI_inv hL
    have hdn : fd.defaults = .none := by
      rw [h5] at hcv
      have : dv = [] := by cases dv with | nil => rfl | cons _ _ => cases hcv
      rcases hd with ⟨_, r⟩ | ⟨r, _⟩
      · exact r
      · exact (r this).elim
    subst hp
    exact bind_plain h1 h2 h3 h4 hdn (by rw [h6, r.len]) h7
  · obtain ⟨h1, h2, h3, h4, h5, h6, h7, rfl⟩ := bindI_inv hL
    rw [(zip_map (h6.trans r.len.symm)).1, (zip_map h6).1]
  · obtain ⟨h1, h2, h3, h4, h5, h6, h7, rfl⟩ := bindI_inv hL
    exact lookS_zip r h6 h7 hv
theorem args3_inv {l : List Arg} (h : args3 l = true) : ∃ a b c, l = [a, b, c] ∧ a.arg = nSelf ∧ b.arg = nMemory ∧ c.arg = nPc := by
  match l, h with
  | [a, b, c], h =>
    have h : (eqS a.arg nSelf && eqS b.arg nMemory && eqS c.arg nPc) = true := h
    rw [Bool.and_eq_true, Bool.and_eq_true] at h
    exact ⟨a, b, c, rfl, eqS_iff.mp h.1.1, eqS_iff.mp h.1.2, eqS_iff.mp h.2⟩
theorem bindC_inv {pa : Arguments} {s : AV} {vs : List AV} {ks : List (Str × AV)} {L : Loc} (h : bindC pa s vs ks = some L) : ∃ m p, vs = [] ∧ ks = [(nMemory, m), (nPc, p)] ∧ pa.posonlyargs = [] ∧ pa.kwonlyargs = [] ∧ pa.vararg = none ∧ pa.kwarg = none ∧ pa.defaults.length = 2 ∧
    (∃ a b c, pa.args = [a, b, c] ∧ a.arg = nSelf ∧ b.arg = nMemory ∧ c.arg = nPc) ∧ L = [(nSelf, s), (nMemory, m), (nPc, p)] := by
  match vs, ks, h with
  | [], [(x, m), (y, p)], h =>
    have h : cond (okC pa x y) (some [(nSelf, s), (nMemory, m), (nPc, p)]) none = some L := h
    cases hc : okC pa x y with
    | false => rw [hc] at h; cases h
    | true =>
      rw [hc] at h
      cases h
      unfold okC at hc
      simp only [Bool.and_eq_true, List.isEmpty_iff, Option.isNone_iff_eq_none] at hc
      obtain ⟨⟨⟨⟨⟨⟨⟨h1, h2⟩, h3⟩, h4⟩, h5⟩, h6⟩, h7⟩, h8⟩ := hc
      rw [eqS_iff.mp h6, eqS_iff.mp h7]
      exact ⟨m, p, rfl, rfl, h1, h2, h3, h4, Nat.eq_of_beq_eq_true h5, args3_inv h8, rfl⟩
theorem ConstVals.len : ∀ {es : List Expr} {vs : List Value}, ConstVals es vs → vs.length = es.length
  | [], [], _ => rfl
  | [], _ :: _, h => by cases h
  | _ :: _, [], h => by cases h
  | e :: r, v :: r', h => congrArg (· + 1) (ConstVals.len h.2)
/-- the class's own facts for a call of it -/
theorem cls_call (ok : Ok B G) (S : St B ρ σ s) {f : Addr} {fo : Obj} {fd : FuncData} (hl : B.l.lookup (Str.ofString "__init__") = some (.ref f)) (hf : B.hb.get? f = some fo) (hfc : fo.cls = .type "function") (hfd : fo.data = .func fd) {ws : List Value} {kws : List (Str × Value)} {Q : Value → Shared → Prop} :
    Kept (model prog w) (.ref B.C) s.heap ∧
    (codeAny (model prog w) (A.under (.builtin "type.__call__" ⟨.ref B.C :: ws, kws⟩)) (.call (.ref f) ⟨.ref (s.heap.objs.size + 1) :: ws, kws⟩) (InitBack (s.heap.objs.size + 1) fun r s' => match r with | .ok (.ret v) => Q v s' | .ok _ => False | .error e => no e s') { s with heap := (s.heap.push emptyDict).push (instObj B.C s.heap.objs.size) } →
      wpAny (model prog w) A (call (.ref B.C) ws kws) Q no s) := by
  obtain ⟨K0, X, _, hfind, hex, nm, q, sub, col, k0, k1, k2, k3, k5, hC⟩ := clsK ok S.keep [(f, fo)] (frag1 (S.keep _ _ hf))
  have hK := hex f fo frag1_self (fun _ e => by rw [hfd] at e; cases e) (fun _ _ e => by rw [hfd] at e; cases e)
  have hsp : specialIn K0 (.ref B.C) (Str.ofString "__call__") = some (some (.builtin "type.__call__")) := specialIn_ref hC rfl call_type
  have hin : instIn K0 (.ref B.C) (.type "type") = some true := by
    unfold instIn typeIn
    dsimp only
    rw [hC]
    exact type_mro
  have mk : makesIn K0 B.C = true := by
    unfold makesIn
    rw [hC]
    dsimp only
    rw [hsp, hin]
    simp
  refine ⟨?_, fun q => ?_⟩
  · obtain ⟨kk, a, b⟩ := looks_keep (M := model prog w) (K := K0) (f := .ref B.C) (by
      unfold keepIn
      dsimp only
      rw [hC]
      dsimp only
      rw [hsp]
      simp) X
    exact ⟨kk, a.elim .inl (fun e => .inr (.inl e)), b⟩
  · obtain ⟨hh, g, dd, t, os⟩ := s
    exact wpAny_call (make_core (makes_of X mk) (looks_findIn X (by rw [hfind]; exact congrArg some (by rw [hl]))) (fun self => bind_fn X self (by unfold typeIn; dsimp only; rw [hK]; exact congrArg some hfc)) (.inl rfl) q)
theorem St.newInst (S : St B ρ σ s) {H : Heap} (hH : (s.heap.push emptyDict).push (instObj B.C s.heap.objs.size) = H) : St B (ρ ++ [(s.heap.objs.size + 1, s.heap.objs.size)]) (σ ++ [.inst []]) { s with heap := H } ∧ Ext [] s.heap ρ H (ρ ++ [(s.heap.objs.size + 1, s.heap.objs.size)]) := by
  have g1 : ∀ b o, s.heap.get? b = some o → H.get? b = some o := fun b o e => hH ▸ Heap.get?_push_of_some _ (Heap.get?_push_of_some _ e)
  have hx : H.get? (s.heap.objs.size + 1) = some (instObj B.C s.heap.objs.size) := by
    have := Heap.get?_push_size (s.heap.push emptyDict) (o := instObj B.C s.heap.objs.size) rfl
    rw [Heap.size_push, hH] at this
    exact this
  have hdx : H.get? s.heap.objs.size = some emptyDict := hH ▸ Heap.get?_push_of_some _ (Heap.get?_push_size _ rfl)
  exact S.new (h' := H) (tk := s.toks) (d := s.drawn) (p := (s.heap.objs.size + 1, s.heap.objs.size)) (o := .inst []) g1 (Heap.get?_none_of_le (Nat.le_succ _)) (get?_size _) ⟨_, hx⟩ ⟨_, hdx⟩
    ⟨(Nat.succ_ne_self _).symm, _, fun _ => none, hx, rfl, (fun _ e => nomatch e), rfl, ⟨_, #[], 0, hdx, rfl, (fun e he => nomatch he), List.Pairwise.nil, fun _ => rfl⟩, fun _ => rfl⟩
theorem zip_unmap {α β : Type} : ∀ l : List (α × β), l = (l.map (·.1)).zip (l.map (·.2))
  | [] => rfl
  | x :: r => congrArg (x :: ·) (zip_unmap r)
theorem kws2 {m p : AV} {kws : List (Str × Value)} (rk : RepKs B h ρ [(nMemory, m), (nPc, p)] kws) : ∃ wm wp, kws = [(nMemory, wm), (nPc, wp)] ∧ RepV B h ρ m wm ∧ RepV B h ρ p wp := by
  obtain ⟨n1, r⟩ := rk
  have e := zip_unmap kws
  rw [n1] at e
  generalize kws.map (·.2) = ws at e r
  cases r with | cons a b => cases b with | cons b1 b2 => cases b2; exact ⟨_, _, e, a, b1⟩
theorem sound_cls (ok : Ok B G) (sn : Snd prog w B I d) {pa : Arguments} {bo : List Stmt} {vs : List AV} {ks : List (Str × AV)} {ws : List Value} {kws : List (Str × Value)} {K : KV} {Q : Value → Shared → Prop} (hd : defOf (clsFind initName G.body) = some (pa, bo, sc))
    (k : bodyI I (bindC pa (.loc σ.length) vs ks) bo sc (σ ++ [.inst []]) fun r σ1 => match r with | .none => K (.loc σ.length) σ1 | _ => False) (S : St B ρ σ s) (ao : AOk (d + 1) A) (r : RepVs B s.heap ρ vs ws) (rk : RepKs B s.heap ρ ks kws) :
    Kept (model prog w) (.ref B.C) s.heap ∧ wpAny (model prog w) A (call (.ref B.C) ws kws) (PV B ρ s.heap K) no s := by
  obtain ⟨fv, _, _, hl, fn⟩ := ok.meth hd
  obtain ⟨f, fo, fd, rfl, hf, hfc, hfd⟩ := fn.ref
  obtain ⟨kp, go⟩ := cls_call (prog := prog) (w := w) (A := A) (ws := ws) (kws := kws) (Q := PV B ρ s.heap K) ok S hl hf hfc hfd
  refine ⟨kp, go ?_⟩
  clear go kp hl hf
  cases hL : bindC pa (.loc σ.length) vs ks with
  | none => rw [hL] at k; exact k.elim
  | some L =>
    rw [hL] at k
    obtain ⟨m, p, rfl, rfl, p1, p2, p3, p4, p5, ⟨a, b, c', e1, e2, e3, e4⟩, rfl⟩ := bindC_inv hL
    cases r
    obtain ⟨wm, wp, rfl, rm, rp⟩ := kws2 rk
    generalize hH : (s.heap.push emptyDict).push (instObj B.C s.heap.objs.size) = H
    obtain ⟨S1, E1⟩ := S.newInst hH
    have hself : (ρ ++ [(s.heap.objs.size + 1, s.heap.objs.size)])[σ.length]? = some (s.heap.objs.size + 1, s.heap.objs.size) := S.lenAt
    have rr : RepVs B H (ρ ++ [(s.heap.objs.size + 1, s.heap.objs.size)]) [.loc σ.length, m, p] [.ref (s.heap.objs.size + 1), wm, wp] := .cons (.loc _ _ hself) (.cons (rm.ext0 E1) (.cons (rp.ext0 E1) .nil))
    refine sound_body ok sn (binds := fun _ => [nSelf, nMemory, nPc].zip [.ref (s.heap.objs.size + 1), wm, wp]) fn k S1 (by have := ao.depth; rw [depth_under_kw, recursionLimit]; omega) (fun env => ?_) (fun L fd hL hp ⟨dv', hd', hcv'⟩ => ?_) (fun L hL => ?_) (fun L hL x v hv => ?_) (fun v s' ⟨av, σ1, ρ1, rv1, S2, E2, k2⟩ => ?_)
    · refine ⟨?_, ?_, ao.handled⟩
      · show (A.under _).depth + 1 + 2 * d ≤ 900
        rw [depth_under_kw]
        have := ao.depth
        omega
      · show A.units + 1 + 3 + 8 * d ≤ 9000
        have := ao.units
        omega
    · subst hp
      rcases hd' with ⟨z, _⟩ | ⟨_, T, eT, _, hT⟩
      · have := (ConstVals.len hcv').trans p5; rw [z] at this; cases this
      · exact bind_init p1 p2 p3 p4 e1 e2 e3 e4 eT (S1.keep _ _ hT) rfl ((ConstVals.len hcv').trans p5)
    · cases hL; rfl
    · cases hL
      exact lookS_zip (ns := [nSelf, nMemory, nPc]) rr rfl (nodupS_iff (by decide +kernel)) hv
    · cases av with
      | none => cases rv1; exact ⟨rfl, PV.of (.loc _ _ (E2.at hself)) S2 (E1.trans E2) k2⟩
      | _ => exact False.elim k2
end
end Mine
end
section
set_option maxRecDepth 100000
set_option linter.unusedVariables false
open PySem PySem.W PyProof.Rows PySem.Claim2Try PySem.Pin
namespace Mine
section
variable {prog : Program} {w : World} {B : Bs} {G : Pg} {I : In} {d : Nat} {A : Around} {E : Value → Shared → Prop} {env : Env} {sc : Scope} {ρ ρ' : Rho} {σ : Hp} {s : Shared} {L : Loc} {h : Heap}
theorem RepKs.nil_inv {kws : List (Str × Value)} (r : RepKs B h ρ [] kws) : kws = [] := by
  obtain ⟨h1, _⟩ := r
  cases kws with
  | nil => rfl
  | cons _ _ => cases h1
theorem fnI_inv {o : Option Stmt} {vs : List AV} {ks : List (Str × AV)} {K : KV} {kws : List (Str × Value)} (k : fnI I (defOf o) vs ks σ K) (rk : RepKs B h ρ ks kws) : kws = [] ∧ ∃ pa bo sc, defOf o = some (pa, bo, sc) ∧ bodyI I (bindI pa vs) bo sc σ K := by
  cases hd : defOf o with
  | none => rw [hd] at k; exact k.elim
  | some x =>
    obtain ⟨pa, bo, sc⟩ := x
    rw [hd] at k
    obtain ⟨c, k⟩ := condF k
    rw [List.isEmpty_iff] at c
    subst c
    exact ⟨rk.nil_inv, pa, bo, sc, rfl, k⟩
theorem sound_caB (ok : Ok B G) (sn : Snd prog w B I d) {f : AV} {vs : List AV} {ks : List (Str × AV)} {K : KV} {fw : Value} {ws : List Value} {kws : List (Str × Value)} (k : caB G I f vs ks σ K) (ao : AOk (d + 1) A) (S : St B ρ σ s) (rf : RepV B s.heap ρ f fw) (r : RepVs B s.heap ρ vs ws) (rk : RepKs B s.heap ρ ks kws) :
    Kept (model prog w) fw s.heap ∧ wpAny (model prog w) A (call fw ws kws) (PV B ρ s.heap K) no s := by
  cases f with
  | fn x =>
    obtain ⟨rfl, pa, bo, sc', hd, k⟩ := fnI_inv k rk
    obtain ⟨v, n, hv, fn⟩ := ok.fn _ _ _ _ hd
    have e : fw = v := by cases rf with | fn _ _ q => rw [hv] at q; cases q; rfl
    subst e
    obtain ⟨a, o, fd, rfl, hf, _, hd⟩ := fn.ref
    exact ⟨kept_fn (S.keep _ _ hf) hd, wpAny_call (sound_fn ok sn fn k S ao r fun v s' q => q)⟩
  | mth x =>
    obtain ⟨rfl, pa, bo, sc', hd, k⟩ := fnI_inv k rk
    obtain ⟨v, n, q, hv, fn⟩ := ok.meth hd
    have e : fw = v := by cases rf with | mth _ _ q => rw [hv] at q; cases q; rfl
    subst e
    obtain ⟨a, o, fd, rfl, hf, _, hd⟩ := fn.ref
    exact ⟨kept_fn (S.keep _ _ hf) hd, wpAny_call (sound_fn ok sn fn k S ao r fun v s' q => q)⟩
  | bm x n0 =>
    obtain ⟨rfl, pa, bo, sc', hd, k⟩ := fnI_inv k rk
    cases rf with | bm _ _ a f p hno ho hl hp =>
    obtain ⟨v, n, q, hv, fn⟩ := ok.meth hd
    rw [hl] at hv
    cases hv
    obtain ⟨a', o, fd, e, hf, _, hd⟩ := fn.ref
    cases e
    exact ⟨kept_bm ho (S.keep _ _ hf) hd, wpAny_call (ks_codeAny_call_bound ho (sound_fn ok sn fn k S ao (.cons (.loc n0 p hp) r) fun v s' q => q))⟩
  | cls =>
    have k : clsI I (defOf (clsFind initName G.body)) vs ks σ K := k
    cases hd : defOf (clsFind initName G.body) with
    | none => rw [hd] at k; exact k.elim
    | some x =>
      obtain ⟨pa, bo, sc⟩ := x
      rw [hd] at k
      cases rf
      exact sound_cls ok sn (Q := no) hd k S ao r rk
  | bi id =>
    obtain ⟨c, k⟩ := condF k
    rw [Bool.and_eq_true, List.isEmpty_iff] at c
    obtain ⟨hid, rfl⟩ := c
    obtain rfl := beq_iff_eq.mp hid
    obtain ⟨n, rfl, k⟩ := locK_inv k
    obtain ⟨kk, hlen, k⟩ := someK_inv k
    rw [rk.nil_inv]
    cases rf
    cases r with | cons a b =>
    cases b
    obtain ⟨p, its, e, hp, rfl, _, hl, hsz, hk, _⟩ := S.listAt hlen a
    refine ⟨⟨.machine, .inr (.inl rfl), .now⟩, Calls.call_len_list (isList_x hl) (by omega) (PV.of ?_ S.toks (.refl ..) k)⟩
    rw [hsz]
    exact .int _ _
  | ty id =>
    obtain ⟨c, k⟩ := condF k
    rw [Bool.and_eq_true, List.isEmpty_iff] at c
    obtain ⟨hid, rfl⟩ := c
    obtain rfl := beq_iff_eq.mp hid
    obtain ⟨b, rfl, k⟩ := numK_inv k
    obtain ⟨hc, k⟩ := condF k
    rw [rk.nil_inv]
    cases rf
    cases r with | cons a b' =>
    cases b'
    obtain ⟨t, rfl⟩ := a.int_inv
    have E1 : Ext [] s.heap ρ (s.heap.push (rngObj 0 b s.toks t (s.toks + 1))) ρ := .push _
    exact ⟨⟨.machine, .inr (.inl rfl), .now⟩, call_range_1 (PV.of (.rng 0 b _ s.toks t (s.toks + 1) (S.notOwn (get?_size _)) (Heap.get?_push_size _ rfl)) (S.push _) E1 k)⟩
  | _ => exact False.elim k
theorem Snd.mk' (ok : Ok B G) (sn : Snd prog w B I d) : Snd prog w B (mkIn G I) (d + 1) where
  ev k _ _ _ _ ao eo S l := sound_evB ok sn (ao.less (Nat.le_succ d)) eo k S l
  ts k _ _ _ _ ao eo S l := sound_tsB (G := G) sn (ao.less (Nat.le_succ d)) eo k S l
  ca k _ _ _ _ _ _ ao S rf r rk := sound_caB ok sn k ao S rf r rk
  ex k _ _ _ _ ao eo S l := sound_exB ok sn (ao.less (Nat.le_succ d)) eo k S l
theorem Snd.fail : Snd prog w B inFail 0 := ⟨fun k => k.elim, fun k => k.elim, fun k => k.elim, fun k => k.elim⟩
theorem sound (ok : Ok B G) : ∀ n, Snd prog w B (inN G n) n
  | 0 => .fail
  | n + 1 => (sound ok n).mk' ok
end
end Mine
end
section
set_option maxRecDepth 100000
set_option linter.unusedVariables false
open PySem PySem.W PyProof.Rows PySem.Claim2Try PySem.Pin Builtin Builtin.ObjectAttr
namespace Mine
theorem arms_int : (WShape.int).arms = [.int] := by kernel_rfl
theorem has_int {d : WData} (h : WShape.has [] d .int = true) : ∃ i, d = .int i := by
  cases d with
  | int i => exact ⟨i, rfl⟩
  | _ => (unfold WShape.has at h; rw [arms_int] at h; simp at h)
theorem items_int : ∀ {xs : List WData}, WShape.hasItems [] xs .int = true → ∃ ns : List Int, xs = ns.map .int
  | [], _ => ⟨[], rfl⟩
  | x :: r, h => by
    unfold WShape.hasItems at h
    rw [Bool.and_eq_true] at h
    obtain ⟨i, rfl⟩ := has_int h.1
    obtain ⟨ns, rfl⟩ := items_int h.2
    exact ⟨i :: ns, rfl⟩
theorem arms_list : (WShape.list .int).arms = [.list .int] := by kernel_rfl
theorem has_list {d : WData} (h : WShape.has [] d (.list .int) = true) : ∃ ns : List Int, d = .list (ns.map .int) := by
  cases d with
  | list xs =>
    unfold WShape.has at h
    rw [arms_list] at h
    simp at h
    obtain ⟨ns, rfl⟩ := items_int h
    exact ⟨ns, rfl⟩
  | _ => (unfold WShape.has at h; rw [arms_list] at h; simp at h)
theorem args_of {l : OpenLaw} (hm : l.most = some 63) (hb : l.bound = none) {args : List WData} (h : l.row.toRowW.claim.pre args = true) : ∃ ns : List Int, args = [.list (ns.map .int)] ∧ ns.length ≤ 63 := by
  obtain ⟨h1, h2⟩ := pre_splitW h
  have h1 : WShape.hasAll [] args [.list .int] = true := h1
  cases args with
  | nil => cases h1
  | cons d r =>
    unfold WShape.hasAll at h1
    rw [Bool.and_eq_true] at h1
    obtain ⟨ns, rfl⟩ := has_list h1.1
    cases r with
    | cons _ _ => have := h1.2; unfold WShape.hasAll at this; cases this
    | nil =>
      refine ⟨ns, rfl, ?_⟩
      have h2 : WTm.holds [] l.pre { args := [.list (ns.map .int)] } = true := h2
      unfold OpenLaw.pre at h2
      rw [hm, hb] at h2
      unfold WTm.holds at h2
      simp only [WTm.value] at h2
      have hl : less? (.int (63 : Nat)) (.int ((ns.map WData.int).length : Nat)) = some (decide (((63 : Nat) : Int) < ((ns.map WData.int).length : Nat))) := rfl
      rw [List.getElem?_cons_zero] at h2
      dsimp only at h2
      rw [hl] at h2
      by_cases hc : ((63 : Nat) : Int) < ((ns.map WData.int).length : Nat)
      · rw [decide_eq_true hc] at h2
        simp at h2
      · rw [List.length_map] at hc
        omega
theorem reads_ints {cl : Str → Option Addr} {h : Heap} : ∀ {ns : List Int} {vs : List Value} {as : List Addr}, ReadsAllW [] cl h vs (ns.map .int) as → vs.length = ns.length ∧ ∀ i, i < ns.length → ∃ t, vs[i]? = some (.int (getI ns i) t)
  | [], vs, as, r => by cases r; exact ⟨rfl, fun i hi => absurd hi (Nat.not_lt_zero _)⟩
  | n :: ns, vs, as, r => by
    cases r with | cons a b =>
    cases a with | int _ t =>
    obtain ⟨h1, h2⟩ := reads_ints b
    refine ⟨by rw [List.length_cons, List.length_cons, h1], fun i hi => ?_⟩
    cases i with
    | zero => exact ⟨t, rfl⟩
    | succ i => exact h2 i (Nat.lt_of_succ_lt_succ hi)
theorem post_true (args : List WData) : (WShape.has [] (.bool true) .bool && WTm.holds [] (.eq .res (.lit (.bool true))) { args := args, res := some (.bool true), after := args }) = true := by kernel_rfl
/-- the end: the law gives True -/
theorem call_good {l : OpenLaw} {w : World} {B : Bs} {args : List WData} {s s₁ : Shared} {fw : Value} {n : Nat} {G : Pg} (ok : Ok B G) (hB : B.hb = s₁.heap) (hos : B.os = s₁.os) (hg : s₁.gens = #[]) (hn : n ≤ 250)
    (hf : B.mg l.name = some fw) (k : (inN G n).ca (.fn l.name) [.given] [] [] fun v _ => v = .bool true) :
    wpAny (model l.prog w) callerA (PySem.call fw [.ref B.scr]) (fun v s' => GoodWG l.row.toRowW.claim (classAt s.heap) (ExcName.means s.heap) args s₁ (.ok (.ret v)) s') (fun _ _ => False) s₁ := by
  have S : St B [] [] s₁ := ⟨fun b o e => hB ▸ e, rfl, fun n p o hp => (by simp at hp), fun i j p q _ hp => (by simp at hp), (fun _ q => nomatch q), (fun _ q => nomatch q), hg, hos.symm⟩
  have ao : AOk n callerA := ⟨by show 1 + claimMargin + 2 * n ≤ 900; rw [claimMargin]; omega, by show 4 + 8 * n ≤ 9000; omega, rfl⟩
  refine wpAny_mono ((sound (prog := l.prog) (w := w) ok n).ca k ao S (.fn _ _ hf) (.cons .given .nil) ⟨rfl, .nil⟩).2 (fun v s' ⟨av, σ', ρ', r, S', E', ka⟩ => ?_) fun _ _ z => z
  subst ka
  rw [r.bool_inv]
  refine GoodW.toG ⟨.inl ⟨.bool true, .bool true, [], rfl, fun _ => rfl, .bool true, ?_, fun _ => ⟨List.nodup_nil, (fun _ q => nomatch q)⟩⟩, fun b o e => S'.keep b o (by rw [hB]; exact e), S'.os.trans hos, S'.gens⟩
  exact post_true args
end Mine
end
section
set_option maxRecDepth 100000
set_option linter.unusedVariables false
open PySem PySem.W PyProof.Rows PySem.Claim2Try PySem.Pin Builtin Builtin.ObjectAttr
namespace Mine
noncomputable def memN (x : Nat) : List Nat → Bool
  | [] => false
  | y :: r => cond (Nat.beq x y) true (memN x r)
theorem memN_ne {x : Str} : ∀ {l : List Str}, memN (codeS x) (l.map codeS) = false → x ∉ l
  | [], _ => fun q => nomatch q
  | y :: r, h => by
    rw [List.map_cons] at h
    unfold memN at h
    cases hq : Nat.beq (codeS x) (codeS y) with
    | true => rw [hq] at h; cases h
    | false =>
      rw [hq] at h
      intro q
      rcases List.mem_cons.mp q with rfl | q
      · rw [Nat.beq_refl] at hq; cases hq
      · exact memN_ne h q
/-- each name once; a list's names stand before it -/
noncomputable def bodyUniq : List Stmt → Bool
  | [] => true
  | st :: r => !memN (codeS (nameOf st)) ((r.map nameOf).map codeS) && ((namesRead st).all fun y => !memN (codeS y) (((st :: r).map nameOf).map codeS)) && bodyUniq r
noncomputable def isDefS (st : Stmt) : Bool := (defOf (some st)).isSome || isClsO (some st)
noncomputable def topUniq : List Stmt → Bool
  | [] => true
  | st :: r => cond (isDefS st) (!memN (codeS (topName st)) ((r.map topName).map codeS)) true && topUniq r
noncomputable def specials : List Str := ["__doc__", "__weakref__", "__dict__", "__qualname__", "__static_attributes__", "__module__", "__firstlineno__"]
/-- no name of the class is one of these -/
noncomputable def noneOf (b : List Stmt) (xs : List Str) : Bool := xs.all fun x => !memN (codeS x) ((b.map nameOf).map codeS)
noncomputable def bodyOkB (b : List Stmt) : Bool :=
  bodyUniq b && noneOf b specials && noneOf b ivars && noneOf b ["__getattribute__", "__getattr__", "__setattr__", "__name__", "__annotations__"] && (b.all fun st => (namesRead st).all fun y => !memN (codeS y) (specials.map codeS))
theorem all_ne {b : List Stmt} {x : Str} (h : x ∉ b.map nameOf) : (b.all fun st => nameOf st != x) = true := by
  rw [List.all_eq_true]
  intro st hst
  rw [bne_iff_ne]
  intro e
  exact h (e ▸ List.mem_map_of_mem hst)
theorem noneOf_at {b : List Stmt} {xs : List Str} {x : Str} (h : noneOf b xs = true) (hx : x ∈ xs) : x ∉ b.map nameOf := by
  have := List.all_eq_true.mp h x hx
  simp only [Bool.not_eq_true'] at this
  exact memN_ne this
theorem Items.mono {l l' : List (Str × Value)} {es : List Expr} {vs : List Value} (hi : Items l es vs) : (∀ y ∈ eltNames es, l'.lookup y = l.lookup y) → Items l' es vs := by
  induction hi with
  | nil => intro _; exact .nil
  | name h _ ih => intro q; exact .name ((q _ (List.mem_cons_self ..)).trans h) (ih fun y hy => q y (List.mem_cons_of_mem _ hy))
  | const h _ ih => intro q; exact .const h (ih q)
/-- what the class body leaves under a name -/
noncomputable abbrev MadeF (h : Heap) (lf : List (Str × Value)) : Stmt → Value → Prop := Made h 0 "MPU" lf
theorem BodyMade.find {h : Heap} {lo : Nat} {lf : List (Str × Value)} {x : Str} {st : Stmt} : ∀ {b : List Stmt} {l l' : List (Str × Value)}, BodyMade h lo "MPU" l b l' → bodyUniq b = true → clsFind x b = some st → (∀ y, y ∉ specials → lf.lookup y = l'.lookup y) → (∀ st' ∈ b, ∀ y ∈ namesRead st', y ∉ specials) →
    nameOf st = x ∧ ∃ v, l'.lookup x = some v ∧ MadeF h lf st v
  | [], _, _, _, _, e, _, _ => by cases e
  | s0 :: r, l, l', ⟨v, m, bm⟩, hu, e, hf, hsp => by
    unfold bodyUniq at hu
    simp only [Bool.and_eq_true, Bool.not_eq_true', List.all_eq_true] at hu
    obtain ⟨⟨h1, h2⟩, h3⟩ := hu
    unfold clsFind at e
    cases hq : eqS (nameOf s0) x with
    | false =>
      rw [hq] at e
      exact BodyMade.find bm h3 e hf fun st' hs => hsp st' (List.mem_cons_of_mem _ hs)
    | true =>
      rw [hq] at e
      cases e
      have hx := eqS_iff.mp hq
      subst hx
      refine ⟨rfl, v, ?_, ?_⟩
      · rw [BodyMade.ne bm (all_ne (memN_ne h1)), putP_lookup]
      · cases m with
        | asg x => exact .asg x
        | lst _ g it =>
          refine .lst (Nat.zero_le _) g (it.mono fun y hy => ?_)
          have hn := memN_ne (h2 y hy)
          rw [List.map_cons] at hn
          rw [hf y (hsp _ (List.mem_cons_self ..) y hy), BodyMade.ne bm (all_ne fun z => hn (List.mem_cons_of_mem _ z)), putP_lookup_ne fun z => hn (by rw [z]; exact List.mem_cons_self ..)]
        | fn x => exact .fn (x.lower (Nat.zero_le _))
theorem BodyMade.nameFind {x : Str} {st : Stmt} : ∀ {b : List Stmt}, clsFind x b = some st → x ∈ b.map nameOf
  | [], e => by cases e
  | s0 :: r, e => by
    unfold clsFind at e
    cases hq : eqS (nameOf s0) x with
    | true => rw [← eqS_iff.mp hq]; exact List.mem_cons_self ..
    | false => rw [hq] at e; exact List.mem_cons_of_mem _ (BodyMade.nameFind e)
theorem TopMade.find {h : Heap} {lo : Nat} {x : Str} {st : Stmt} : ∀ {b : List Stmt} {l l' : Str → Option Value}, TopMade h lo l b l' → topUniq b = true → topFind x b = some st → isDefS st = true → topName st = x ∧ ∃ v, l' x = some v ∧ TopOne h lo st v
  | [], _, _, _, _, e, _ => by cases e
  | s0 :: r, l, l', ⟨v, o, tm⟩, hu, e, hd => by
    unfold topUniq at hu
    rw [Bool.and_eq_true] at hu
    unfold topFind at e
    cases hq : eqS (topName s0) x with
    | false => rw [hq] at e; exact TopMade.find tm hu.2 e hd
    | true =>
      rw [hq] at e
      cases e
      have hx := eqS_iff.mp hq
      subst hx
      refine ⟨rfl, v, ?_, o⟩
      have hn : topName st ∉ r.map topName := by
        have h1 := hu.1
        rw [hd] at h1
        exact memN_ne ((Bool.not_eq_true' _).mp h1)
      rw [TopMade.ne tm]
      · exact if_pos rfl
      · rw [List.all_eq_true]
        intro st' hs
        rw [bne_iff_ne]
        intro z
        exact hn (z ▸ List.mem_map_of_mem hs)
theorem topFind_none {x : Str} : ∀ {b : List Stmt}, topFind x b = none → (b.all fun st => topName st != x) = true
  | [], _ => rfl
  | s0 :: r, e => by
    unfold topFind at e
    cases hq : eqS (topName s0) x with
    | true => rw [hq] at e; cases e
    | false =>
      rw [hq] at e
      rw [List.all_cons, topFind_none e, Bool.and_true, bne_iff_ne]
      exact eqS_ne hq
end Mine
end
section
set_option maxRecDepth 100000
set_option linter.unusedVariables false
open PySem PySem.W PyProof.Rows PySem.Claim2Try PySem.Pin Builtin Builtin.ObjectAttr
namespace Mine
theorem bb_len : bootBuiltins (Str.ofString "len") = some (.builtin "len") := by kernel_rfl
theorem bb_range : bootBuiltins (Str.ofString "range") = some (.type "range") := by kernel_rfl
theorem bb_enum : bootBuiltins (Str.ofString "enumerate") = some (.type "enumerate") := by kernel_rfl
theorem boot3 : ∀ x ∈ ([Str.ofString "len", Str.ofString "range", Str.ofString "enumerate"] : List Str), x ∉ bootMainNames ∧ x ≠ "__name__" := by decide +kernel
theorem ivar_own : (ivars.all fun a => (fastBuiltinOwn "object" a).isNone && !copiedNames.contains a && !memN (codeS a) (specials.map codeS)) = true := by decide +kernel
noncomputable def copied2 : List Str := ["__module__", "__name__", "__qualname__", "__doc__", "__annotations__"]
theorem cd_eta {cd : ClassData} {C N : Addr} (h1 : cd.mro = [.ref C, .type "object"]) (h2 : cd.ns = N) (h3 : cd.abstract = false) (h4 : cd.hasDel = false) (h5 : cd.hasDict = true) (h6 : cd.slotNames = []) (h7 : cd.bases = [.type "object"]) :
    cd = { name := cd.name, bases := [.type "object"], mro := .ref C :: [.type "object"], ns := N, qualname := cd.qualname, hasDict := true, slotNames := [], subclasses := cd.subclasses, abstract := false, collection := cd.collection, hasDel := false } := by
  obtain ⟨a, b, c, d, e, f, g, h, i, j, k⟩ := cd
  dsimp only at h1 h2 h3 h4 h5 h6 h7
  subst h1 h2 h3 h4 h5 h6 h7
  rfl
theorem topFind_mem {x : Str} {st : Stmt} : ∀ {b : List Stmt}, topFind x b = some st → st ∈ b
  | [], e => by cases e
  | s0 :: r, e => by
    unfold topFind at e
    cases hq : eqS (topName s0) x with
    | true => rw [hq] at e; cases e; exact List.mem_cons_self ..
    | false => rw [hq] at e; exact List.mem_cons_of_mem _ (topFind_mem e)
noncomputable def bodyOf (b : List Stmt) : List Stmt := match topFind "MPU" b with
  | some (.ClassDef _ _ _ b _ _ _ _ _ _ _) => b
  | _ => []
noncomputable def hasCls (b : List Stmt) : Bool := isClsO (topFind "MPU" b)
/-- the whole look at the text -/
noncomputable def textOkB (p : Program) : Bool := topUniq (behindTheImports p) && hasCls (behindTheImports p) && bodyOkB (bodyOf (behindTheImports p))
noncomputable def pgOf (p : Program) (ns : List Int) : Pg := ⟨behindTheImports p, bodyOf (behindTheImports p), ns.length, getI ns⟩
theorem okOf {p : Program} {s s₁ : Shared} {ns : List Int} {a : Addr} {its : Array Value} (tok : TopOk p) (tx : textOkB p = true) (T : TopState p s.heap) (kp : ∀ b o, s.heap.get? b = some o → s₁.heap.get? b = some o) (hl : s₁.heap.IsList a its) (hsz : its.size = ns.length) (hns : ns.length ≤ 63) (hit : ∀ i, i < ns.length → ∃ t, its[i]? = some (.int (getI ns i) t)) :
    ∃ B : Bs, Ok B (pgOf p ns) ∧ B.hb = s₁.heap ∧ B.os = s₁.os ∧ B.scr = a ∧ s₁.heap.Ns mainGlobals B.mg := by
  unfold textOkB at tx
  simp only [Bool.and_eq_true] at tx
  obtain ⟨⟨tu, tc⟩, tb⟩ := tx
  obtain ⟨hb, mb, mg, c, Pl, mg', lo, BL, h1, h2, h3, g, made⟩ := T.st
  have tc : isClsO (topFind "MPU" (behindTheImports p)) = true := tc
  cases hfind : topFind "MPU" (behindTheImports p) with
  | none => rw [hfind] at tc; cases tc
  | some st =>
    rw [hfind] at tc
    obtain ⟨hname, v, hv, cm⟩ := made.find tu hfind (by unfold isDefS; rw [tc, Bool.or_true])
    cases cm with
    | asg => cases tc
    | fn _ => cases tc
    | @cls n b1 b2 body b4 b5 b6 b7 b8 b9 b10 C cm =>
    have hbody : bodyOf (behindTheImports p) = body := by unfold bodyOf; rw [hfind]
    rw [hbody] at tb
    obtain ⟨nsA, Da, Wa, ft, cd, sl, nm, tm, tq, tf, fl, l', X, c1, c2, c3, c4, c5, c6, ⟨k0, k1, k2, k3, k5, c7⟩, c8, c9, bm⟩ := cm.made
    unfold bodyOkB at tb
    simp only [Bool.and_eq_true] at tb
    obtain ⟨⟨⟨⟨t1, t2⟩, t3⟩, t4⟩, t5⟩ := tb
    generalize hlf : putP "__doc__" .none (putP "__weakref__" (.ref Wa) (putP "__dict__" (.ref Da) (dropP "__qualname__" (putP "__static_attributes__" (.ref ft) l')))) = lf at X
    have hlook : ∀ y, y ∉ specials → lf.lookup y = l'.lookup y := fun y hy => by
      have ne : ∀ z ∈ specials, y ≠ z := fun z hz q => hy (q ▸ hz)
      rw [← hlf, putP_lookup_ne (ne _ (by decide +kernel)), putP_lookup_ne (ne _ (by decide +kernel)), putP_lookup_ne (ne _ (by decide +kernel)), dropP_lookup_ne (ne _ (by decide +kernel)), putP_lookup_ne (ne _ (by decide +kernel))]
    have hbase : ∀ y, y ∉ specials → y ∉ body.map nameOf → lf.lookup y = none := fun y hy hn => by
      rw [hlook y hy, BodyMade.ne bm (all_ne hn)]
      have ne : ∀ z ∈ specials, (y == z) = false := fun z hz => beq_eq_false_iff_ne.mpr fun q => hy (q ▸ hz)
      rw [List.lookup_cons, ne _ (by decide +kernel), List.lookup_cons, ne _ (by decide +kernel), List.lookup_cons, ne _ (by decide +kernel)]
      rfl
    have hsp : ∀ st' ∈ body, ∀ y ∈ namesRead st', y ∉ specials := fun st' hs y hy => by
      have := List.all_eq_true.mp (List.all_eq_true.mp t5 st' hs) y hy
      simp only [Bool.not_eq_true'] at this
      exact memN_ne this
    refine ⟨⟨s₁.heap, s₁.os, mg', mb, C, nsA, lf, a⟩, ?_, rfl, rfl, rfl, g.keeps kp⟩
    have bltNe : builtinsNs ≠ mainGlobals := by decide
    have stNe : cStatics ≠ mainGlobals := by decide
    have three : ∀ x, x ∈ ([Str.ofString "len", Str.ofString "range", Str.ofString "enumerate"] : List Str) → topFind x (behindTheImports p) = none → mg' x = none ∧ mb x = bootBuiltins x := fun x hx hn => by
      obtain ⟨q1, q2⟩ := boot3 x hx
      exact ⟨(made.ne (topFind_none hn)).trans (BL.others x q1), BL.builtins x q2⟩
    refine ⟨g.keeps kp, (BL.b.at fun o e => h3 _ _ bltNe e).keeps kp, ⟨fun _ => none, (BL.statics.at fun o e => h3 _ _ stNe e).keeps kp, rfl⟩, ?_, ?_, ?_, ?_, ?_, ?_, ?_, ?_, ?_, ?_, ?_, ?_⟩
    · intro x pa bo sc hd
      cases ht : topFind x (pgOf p ns).top with
      | none => rw [ht] at hd; cases hd
      | some st =>
        rw [ht] at hd
        obtain ⟨_, v', hv', fn⟩ := made.find tu ht (by unfold isDefS; rw [hd]; rfl)
        cases fn with
        | asg => cases hd
        | cls _ => cases hd
        | fn fn => cases hd; exact ⟨v', _, hv', (fn.lower (Nat.zero_le _)).keeps fun b o _ e => kp b o e⟩
    · intro x hc
      cases ht : topFind x (pgOf p ns).top with
      | none => rw [ht] at hc; cases hc
      | some st =>
        rw [ht] at hc
        obtain ⟨hx, v', hv', cm'⟩ := made.find tu ht (by unfold isDefS; rw [hc, Bool.or_true])
        cases topStmt_cases (List.all_eq_true.mp tok.stmts _ (topFind_mem ht)) with
        | asg _ _ _ _ _ => cases hc
        | fn _ _ _ _ _ _ _ => cases hc
        | cls _ _ _ _ _ =>
          have hx : ("MPU" : Str) = x := hx
          rw [← hx]
          exact hv
    · intro ht
      obtain ⟨q1, q2⟩ := three _ (by simp) ht
      exact ⟨q1, q2.trans bb_len⟩
    · intro ht
      obtain ⟨q1, q2⟩ := three _ (by simp) ht
      exact ⟨q1, q2.trans bb_range⟩
    · intro ht
      obtain ⟨q1, q2⟩ := three _ (by simp) ht
      exact ⟨q1, q2.trans bb_enum⟩
    · refine ⟨cd.name, cd.qualname, cd.subclasses, cd.collection, k0, k1, k2, k3, k5, ?_⟩
      have := kp _ _ X.obj
      rw [cd_eta X.mro X.at_ c2 c3 c4 c5 c6, c7] at this
      exact this
    · exact X.names.keeps kp
    · intro x st hst
      rw [show (pgOf p ns).body = body from hbody] at hst
      obtain ⟨_, v', hv', mf⟩ := BodyMade.find (lf := lf) bm t1 hst hlook hsp
      have hxs : x ∉ specials := fun q => noneOf_at t2 q (BodyMade.nameFind hst)
      refine ⟨v', (hlook x hxs).trans hv', ?_⟩
      exact mf.keeps fun b o _ e => kp b o e
    · intro x st hst
      rw [show (pgOf p ns).body = body from hbody] at hst
      have hm := BodyMade.nameFind hst
      cases hc : copiedNames.contains x with
      | false => rfl
      | true =>
        exfalso
        have hx : x ∈ copiedNames := by simpa using hc
        have : x ∈ specials ∨ x ∈ ([Str.ofString "__getattribute__", Str.ofString "__getattr__", Str.ofString "__setattr__", Str.ofString "__name__", Str.ofString "__annotations__"] : List Str) := by
          have all : ∀ z ∈ copiedNames, z ∈ specials ∨ z ∈ ([Str.ofString "__getattribute__", Str.ofString "__getattr__", Str.ofString "__setattr__", Str.ofString "__name__", Str.ofString "__annotations__"] : List Str) := by decide +kernel
          exact all x hx
        rcases this with q | q
        · exact noneOf_at t2 q hm
        · exact noneOf_at t4 q hm
    · intro y hy
      have hm : y ∈ ivars := memS_iff.mp hy
      have q := List.all_eq_true.mp ivar_own y hm
      simp only [Bool.and_eq_true, Bool.not_eq_true', Option.isNone_iff_eq_none] at q
      exact ⟨hbase y (memN_ne q.2) (noneOf_at t3 hm), q.1.1, by rw [lk_obj, q.1.1], q.1.2⟩
    · have hh : ∀ z ∈ ([Str.ofString "__getattribute__", Str.ofString "__getattr__", Str.ofString "__setattr__"] : List Str), z ∉ specials := by decide +kernel
      exact ⟨hbase _ (hh _ (by simp)) (noneOf_at t4 (by simp)), hbase _ (hh _ (by simp)) (noneOf_at t4 (by simp)), hbase _ (hh _ (by simp)) (noneOf_at t4 (by simp))⟩
    · exact ⟨its, hl, hsz, by show ns.length ≤ 1000000; omega, hit⟩
end Mine
end
section
set_option maxRecDepth 100000
set_option linter.unusedVariables false
open PySem PySem.W PyProof.Rows PySem.Claim2Try PySem.Pin Builtin Builtin.ObjectAttr
namespace Mine
/-- what is left of the claim: the pure run -/
theorem call_of {l : OpenLaw} {n : Nat} (hm : l.most = some 63) (hb : l.bound = none) (tok : TopOk l.prog) (tx : textOkB l.prog = true) (hn : n ≤ 250)
    (k : ∀ ns : List Int, ns.length ≤ 63 → (inN (pgOf l.prog ns) n).ca (.fn l.name) [.given] [] [] fun v _ => v = .bool true) :
    ∀ w s s₁ args vs as, TopState l.prog s.heap → l.row.toRowW.claim.pre args = true → WData.layableAll args = true → Laid [] w s s₁ args vs as →
      ∃ f mg, s₁.heap.Ns mainGlobals mg ∧ mg l.name = some f ∧ wpAny (model l.prog w) callerA (PySem.call f vs) (fun v s' => GoodWG l.row.toRowW.claim (classAt s.heap) (ExcName.means s.heap) args s₁ (.ok (.ret v)) s') (fun _ _ => False) s₁ := by
  intro w s s₁ args vs as T hpre hlay La
  obtain ⟨ns, rfl, hlen⟩ := args_of hm hb hpre
  have hr := La.reads
  cases hr with | cons ha hb' =>
  cases hb'
  cases ha with | list ho hc hdat hall =>
  rename_i a o its e as'
  obtain ⟨hl1, hl2⟩ := reads_ints hall
  have hl : s₁.heap.IsList a its := ⟨o, ho, hc, e, hdat⟩
  have T' := T
  obtain ⟨B, ok, q1, q2, q3, q4⟩ := okOf (ns := ns) tok tx T La.keeps hl (by rw [← Array.length_toList]; exact hl1) hlen (fun i hi => by
    obtain ⟨t, ht⟩ := hl2 i hi
    exact ⟨t, by rw [← Array.getElem?_toList]; exact ht⟩)
  have hf : ∃ f, B.mg l.name = some f := by
    have kk := k ns hlen
    cases n with
    | zero => exact kk.elim
    | succ n =>
      obtain ⟨_, _, _, _, hd, _⟩ := fnI_inv (B := B) (h := s₁.heap) (ρ := []) (kws := []) (I := inN (pgOf l.prog ns) n) (o := topFind l.name (pgOf l.prog ns).top) (vs := [.given]) (ks := []) (σ := []) (K := fun v _ => v = .bool true) kk ⟨rfl, .nil⟩
      obtain ⟨v, _, hv, _⟩ := ok.fn _ _ _ _ hd
      exact ⟨v, hv⟩
  obtain ⟨f, hf⟩ := hf
  refine ⟨f, B.mg, q4, hf, ?_⟩
  rw [← q3]
  exact call_good ok q1 q2 La.gens hn hf (k ns hlen)
end Mine
end
section
set_option Elab.async false
set_option maxRecDepth 100000
open PySem PySem.W PyProof.Rows PySem.Claim2Try PySem.Pin Builtin Builtin.ObjectAttr
namespace Mine
open PySem.Challenge
theorem text12 : textOkB pw_lq0009_12 = true := by decide +kernel
theorem all12 (said : rw_lq0009_12.row.wellSaid = true) (k : ∀ ns : List Int, ns.length ≤ 63 → (inN (pgOf pw_lq0009_12 ns) 100).ca (.fn "law") [.given] [] [] fun v _ => v = .bool true) : rw_lq0009_12.row.Holds :=
  head12 said (call_of (l := rw_lq0009_12) rfl rfl (topOk_of ok12) text12 (by omega) k)
end Mine
end
section
set_option Elab.async false
set_option maxRecDepth 100000
set_option linter.unusedVariables false
open PySem PySem.W PyProof.Rows PySem.Claim2Try PySem.Pin
namespace Mine
open PySem.Challenge
noncomputable def top12 : List Stmt := behindTheImports pw_lq0009_12
noncomputable def body12b : List Stmt := bodyOf top12
noncomputable abbrev g12 (n : Nat) (sc : Nat → Int) : Pg := ⟨top12, body12b, n, sc⟩
/-- the machine's names -/
noncomputable def regs (mi : Nat) (st : Int) (a x y sp p pc cyc exc : Int) (ac : AV) : List (Str × AV) :=
  [("name", .str "6502"), ("byteMask", .int 255), ("addrMask", .int 65535), ("addrHighMask", .int 65280), ("spBase", .int 256), ("excycles", .int exc), ("addcycles", ac), ("processorCycles", .int cyc), ("memory", .loc mi), ("start_pc", .int st), ("pc", .int pc), ("sp", .int sp), ("a", .int a), ("x", .int x), ("y", .int y), ("p", .int p)]
noncomputable def hp (o : Nat → AObj) (N : Nat) (f : Nat → Int) (r : List (Str × AV)) : Hp := [o 0, o 1, o 2, .nums N f, o 4, o 5, o 6, o 7, o 8, o 9, o 10, o 11, o 12, o 13, o 14, o 15, o 16, o 17, o 18, .inst r]
noncomputable def nStep : Str := "step"
noncomputable def nCode : Str := "instructCode"
noncomputable def fnBody : Option Stmt → List Stmt
  | some (.FunctionDef _ _ bo _ _ _ _ _ _ _) => bo
  | _ => []
noncomputable def emptySc : Scope := default
noncomputable def fnSc : Option Stmt → Scope
  | some (.FunctionDef _ _ _ _ _ _ sc _ _ _) => sc
  | _ => emptySc
noncomputable def hd1 : List Stmt → Stmt
  | st :: _ => st
  | [] => .Pass ⟨0,0,0,0⟩
noncomputable def tl1 : List Stmt → List Stmt
  | _ :: r => r
  | [] => []
noncomputable def stepBo : List Stmt := fnBody (clsFind nStep body12b)
noncomputable def stepSc : Scope := fnSc (clsFind nStep body12b)
noncomputable def stepOf (G : Pg) (n i : Nat) (op : Int) (σ : Hp) (K : KV) : Prop := stmtsI ((inN G n).ex stepSc) (tl1 stepBo) [(nSelf, .loc i), (nCode, .int op)] σ (retK K)
noncomputable def gd (i : Int) (N : Nat) (P : Prop) : Prop := cond (decide (0 ≤ i) && decide (i < N)) P False
noncomputable def nz (v p : Int) (K : Int → Prop) : Prop := cond (decide (v = 0)) (K (Builtin.bitOr (Builtin.bitAnd p (Builtin.bitNot (Builtin.bitOr 2 128))) 2)) (K (Builtin.bitOr (Builtin.bitAnd p (Builtin.bitNot (Builtin.bitOr 2 128))) (Builtin.bitAnd v 128)))
noncomputable def nx (pc : Int) : Int := Builtin.bitAnd (pc + 1) 65535
section
variable (n : Nat) (scr : Nat → Int) (o : Nat → AObj) (N : Nat) (f : Nat → Int) (a x y sp p pc cyc exc : Int) (ac : AV) (K : KV) (σ : Hp) (L : Loc) (Q : KF)
theorem step_a : (inN (g12 n scr) 96).ca (.mth nStep) [.loc 19] [] σ K = stmtsI ((inN (g12 n scr) 95).ex stepSc) stepBo [(nSelf, .loc 19)] σ (retK K) := by kernel_rfl
theorem step_b : stepBo = hd1 stepBo :: tl1 stepBo := by kernel_rfl
theorem step_c : (inN (g12 n scr) 95).ex stepSc (hd1 stepBo) [(nSelf, .loc 19)] (hp o N f (regs 3 512 a x y sp p pc cyc exc ac)) Q = gd pc N (Q .next [(nSelf, .loc 19), (nCode, .int (f pc.toNat))] (hp o N f (regs 3 512 a x y sp p pc cyc exc ac))) := by kernel_rfl
theorem fetch12 : (inN (g12 n scr) 96).ca (.mth nStep) [.loc 19] [] (hp o N f (regs 3 512 a x y sp p pc cyc exc ac)) K = gd pc N (stepOf (g12 n scr) 95 19 (f pc.toNat) (hp o N f (regs 3 512 a x y sp p pc cyc exc ac)) K) :=
  (step_a n scr K _).trans ((congrArg (fun b => stmtsI ((inN (g12 n scr) 95).ex stepSc) b [(nSelf, .loc 19)] (hp o N f (regs 3 512 a x y sp p pc cyc exc ac)) (retK K)) step_b).trans (step_c n scr o N f a x y sp p pc cyc exc ac _))
end
end Mine
end
section
set_option Elab.async false
set_option maxRecDepth 100000
set_option linter.unusedVariables false
open PySem PySem.W PyProof.Rows PySem.Claim2Try PySem.Pin
namespace Mine
open PySem.Challenge
noncomputable abbrev bA := Builtin.bitAnd
noncomputable abbrev bO := Builtin.bitOr
noncomputable abbrev bN := Builtin.bitNot
noncomputable abbrev bX := Builtin.bitXor
/-- an instruction has been run: the registers behind it -/
noncomputable def fi (K : KV) (o : Nat → AObj) (N : Nat) (cyc : Int) (f : Nat → Int) (a x y sp p pc exc : Int) (ac : AV) : Prop := K (.loc 19) (hp o N f (regs 3 512 a x y sp p (bA pc 65535) cyc exc ac))
noncomputable def brn2 (q t : Int) (K : Int → Int → Prop) : Prop := cond (!decide (bA q 65280 = bA t 65280)) (K (bA t 65535) (0 + 1 + 1)) (K (bA t 65535) (0 + 1))
noncomputable def brn (f : Nat → Int) (N : Nat) (q : Int) (K : Int → Int → Prop) : Prop := gd q N (cond (!decide (bA (f q.toNat) 128 = 0)) (brn2 (q + 1) (q + 1 - bX (f q.toNat) 255 - 1) K) (brn2 (q + 1) (q + 1 + f q.toNat) K))
noncomputable def nzt (t p : Int) (K : Int → Prop) : Prop := cond (!decide (t = 0)) (K (bO p (bA t 128))) (K (bO p 2))
noncomputable def asl2 (t p : Int) (K : Int → Int → Prop) : Prop := cond (small t) (nzt (bA (t * 2 ^ (1 : Int).toNat) 255) p (K (bA (t * 2 ^ (1 : Int).toNat) 255))) False
noncomputable def aslC (t p : Int) (K : Int → Int → Prop) : Prop := cond (!decide (bA t 128 = 0)) (asl2 t (bO (bA p (bN (bO (bO 1 128) 2))) 1) K) (asl2 t (bA p (bN (bO (bO 1 128) 2))) K)
noncomputable def rol2 (t p : Int) (K : Int → Int → Prop) : Prop := nz (bA t 255) p (K (bA t 255))
noncomputable def rolC (t p : Int) (K : Int → Int → Prop) : Prop := cond (!decide (bA p 1 = 0))
  (cond (!decide (bA t 128 = 0)) (cond (small t) (rol2 (bO (t * 2 ^ (1 : Int).toNat) 1) p K) False) (cond (small t) (rol2 (bO (t * 2 ^ (1 : Int).toNat) 1) (bA p (bN 1)) K) False))
  (cond (!decide (bA t 128 = 0)) (cond (small t) (rol2 (t * 2 ^ (1 : Int).toNat) (bO p 1) K) False) (cond (small t) (rol2 (t * 2 ^ (1 : Int).toNat) p K) False))
noncomputable def lsrC (t p : Int) (K : Int → Int → Prop) : Prop := cond (!decide (t.fdiv (2 ^ (1 : Int).toNat) = 0)) (K (t.fdiv (2 ^ (1 : Int).toNat)) (bO (bA p (bN (bO (bO 1 128) 2))) (bA t 1))) (K (t.fdiv (2 ^ (1 : Int).toNat)) (bO (bO (bA p (bN (bO (bO 1 128) 2))) (bA t 1)) 2))
noncomputable def cmpC (r t p : Int) (K : Int → Prop) : Prop := cond (decide (r = t)) (K (bO (bO (bA p (bN (bO (bO 1 2) 128))) (bO 1 2)) (bA (r - t) 128)))
  (cond (decide (t < r)) (K (bO (bO (bA p (bN (bO (bO 1 2) 128))) 1) (bA (r - t) 128))) (K (bO (bA p (bN (bO (bO 1 2) 128))) (bA (r - t) 128))))
noncomputable def adcV (d a p alu n0 n1 : Int) (K : Int → Int → Prop) : Prop := cond (!decide (bA (bA (bN (bX a d)) (bX a alu)) 128 = 0)) (cond (small n1) (K (n1 * 2 ^ (4 : Int).toNat + n0) (bO p 64)) False) (cond (small n1) (K (n1 * 2 ^ (4 : Int).toNat + n0) p) False)
noncomputable def adcF (d a p alu n0 n1 dc : Int) (K : Int → Int → Prop) : Prop := cond (decide (dc = 1)) (adcV d a (bO p 1) alu n0 n1 K) (adcV d a p alu n0 n1 K)
noncomputable def adcZ (d a p alu n0 n1 dc : Int) (K : Int → Int → Prop) : Prop := cond (decide (alu = 0)) (adcF d a (bO p 2) alu n0 n1 dc K) (adcF d a (bO p (bA alu 128)) alu n0 n1 dc K)
noncomputable def adcN (d a p n0 n1 j0 j1 dc : Int) (K : Int → Int → Prop) : Prop := cond (small (bA n1 15)) (adcZ d a (bA p (bN (bO (bO (bO 1 64) 128) 2))) (bA n1 15 * 2 ^ (4 : Int).toNat + bA n0 15) (bA (bA n0 15 + j0) 15) (bA (bA n1 15 + j1) 15) dc K) False
noncomputable def adcH (d a p n0 n1 j0 : Int) (K : Int → Int → Prop) : Prop := cond (decide (9 < n1)) (adcN d a p n0 n1 j0 6 1 K) (adcN d a p n0 n1 j0 0 0 K)
noncomputable def adcD (d a p n0 : Int) (K : Int → Int → Prop) : Prop := cond (decide (9 < n0)) (adcH d a p n0 (bA (d.fdiv (2 ^ (4 : Int).toNat)) 15 + bA (a.fdiv (2 ^ (4 : Int).toNat)) 15 + 1) 6 K) (adcH d a p n0 (bA (d.fdiv (2 ^ (4 : Int).toNat)) 15 + bA (a.fdiv (2 ^ (4 : Int).toNat)) 15 + 0) 0 K)
noncomputable def adcT (r p : Int) (K : Int → Int → Prop) : Prop := cond (decide (r = 0)) (K r (bO p 2)) (K r (bO p (bA r 128)))
noncomputable def adcS (r p : Int) (K : Int → Int → Prop) : Prop := cond (decide (255 < r)) (adcT (bA r 255) (bO p 1) K) (adcT r p K)
noncomputable def adcR (d a p r : Int) (K : Int → Int → Prop) : Prop := cond (!decide (bA (bA (bN (bX a d)) (bX a r)) 128 = 0)) (adcS r (bO (bA p (bN (bO (bO (bO 1 64) 128) 2))) 64) K) (adcS r (bA p (bN (bO (bO (bO 1 64) 128) 2))) K)
noncomputable def adcC (d a p : Int) (K : Int → Int → Prop) : Prop := cond (!decide (bA p 8 = 0)) (adcD d a p (bA d 15 + bA a 15 + bA p 1) K) (cond (!decide (bA p 1 = 0)) (adcR d a p (d + a + 1) K) (adcR d a p (d + a + 0) K))
noncomputable def jsrC (f : Nat → Int) (N : Nat) (q : Int) (K : Int → Prop) : Prop := gd q N (gd (q + 1) N (cond (small (f (q + 1).toNat)) (K (f q.toNat + f (q + 1).toNat * 2 ^ (8 : Int).toNat)) False))
section
variable (n : Nat) (scr : Nat → Int) (o : Nat → AObj) (N : Nat) (f : Nat → Int) (a x y sp p pc cyc exc : Int) (ac : AV) (K : KV)
theorem op248 : stepOf (g12 n scr) 95 19 248 (hp o N f (regs 3 512 a x y sp p pc cyc exc ac)) K = (fi K o N (cyc + (2 + 0)) f a x y sp (bO p 8) (nx pc) 0 (.int 0)) := by kernel_rfl
theorem op24 : stepOf (g12 n scr) 95 19 24 (hp o N f (regs 3 512 a x y sp p pc cyc exc ac)) K = (fi K o N (cyc + (2 + 0)) f a x y sp (bA p (bN 1)) (nx pc) 0 (.int 0)) := by kernel_rfl
theorem op169 : stepOf (g12 n scr) 95 19 169 (hp o N f (regs 3 512 a x y sp p pc cyc exc ac)) K = (gd (nx pc) N (nz (f (nx pc).toNat) p fun p' => fi K o N (cyc + (2 + 0)) f (f (nx pc).toNat) x y sp p' (nx pc + 1) 0 (.int 0))) := by kernel_rfl
theorem op165 : stepOf (g12 n scr) 95 19 165 (hp o N f (regs 3 512 a x y sp p pc cyc exc ac)) K = (gd (nx pc) N (gd (f (nx pc).toNat) N (nz (f (f (nx pc).toNat).toNat) p fun p' => fi K o N (cyc + (3 + 0)) f (f (f (nx pc).toNat).toNat) x y sp p' (nx pc + 1) 0 (.int 0)))) := by kernel_rfl
theorem op160 : stepOf (g12 n scr) 95 19 160 (hp o N f (regs 3 512 a x y sp p pc cyc exc ac)) K = (gd (nx pc) N (nz (f (nx pc).toNat) p fun p' => fi K o N (cyc + (2 + 0)) f a x (f (nx pc).toNat) sp p' (nx pc + 1) 0 (.int 0))) := by kernel_rfl
theorem op133 : stepOf (g12 n scr) 95 19 133 (hp o N f (regs 3 512 a x y sp p pc cyc exc ac)) K = (gd (nx pc) N (gd (f (nx pc).toNat) N (fi K o N (cyc + (3 + 0)) (setF f (f (nx pc).toNat).toNat (a)) a x y sp p (nx pc + 1) 0 (.int 0)))) := by kernel_rfl
theorem op74 : stepOf (g12 n scr) 95 19 74 (hp o N f (regs 3 512 a x y sp p pc cyc exc ac)) K = (lsrC a p fun t p' => fi K o N (cyc + (2 + 0)) f t x y sp p' (nx pc) 0 (.int 0)) := by kernel_rfl
theorem op170 : stepOf (g12 n scr) 95 19 170 (hp o N f (regs 3 512 a x y sp p pc cyc exc ac)) K = (nz a p fun p' => fi K o N (cyc + (2 + 0)) f a a y sp p' (nx pc) 0 (.int 0)) := by kernel_rfl
theorem op136 : stepOf (g12 n scr) 95 19 136 (hp o N f (regs 3 512 a x y sp p pc cyc exc ac)) K = (nz (bA (y - 1) 255) p fun p' => fi K o N (cyc + (2 + 0)) f a x (bA (y - 1) 255) sp p' (nx pc) 0 (.int 0)) := by kernel_rfl
theorem op202 : stepOf (g12 n scr) 95 19 202 (hp o N f (regs 3 512 a x y sp p pc cyc exc ac)) K = (nz (bA (x - 1) 255) p fun p' => fi K o N (cyc + (2 + 0)) f a (bA (x - 1) 255) y sp p' (nx pc) 0 (.int 0)) := by kernel_rfl
theorem op41 : stepOf (g12 n scr) 95 19 41 (hp o N f (regs 3 512 a x y sp p pc cyc exc ac)) K = (gd (nx pc) N (nz (bA a (f (nx pc).toNat)) p fun p' => fi K o N (cyc + (2 + 0)) f (bA a (f (nx pc).toNat)) x y sp p' (nx pc + 1) 0 (.int 0))) := by kernel_rfl
theorem op224 : stepOf (g12 n scr) 95 19 224 (hp o N f (regs 3 512 a x y sp p pc cyc exc ac)) K = (gd (nx pc) N (cmpC x (f (nx pc).toNat) p fun p' => fi K o N (cyc + (2 + 0)) f a x y sp p' (nx pc + 1) 0 (.int 0))) := by kernel_rfl
theorem op6 : stepOf (g12 n scr) 95 19 6 (hp o N f (regs 3 512 a x y sp p pc cyc exc ac)) K = (gd (nx pc) N (gd (f (nx pc).toNat) N (aslC (f (f (nx pc).toNat).toNat) p fun t p' => gd (f (nx pc).toNat) N (fi K o N (cyc + (5 + 0)) (setF f (f (nx pc).toNat).toNat (t)) a x y sp p' (nx pc + 1) 0 (.int 0))))) := by kernel_rfl
theorem op38 : stepOf (g12 n scr) 95 19 38 (hp o N f (regs 3 512 a x y sp p pc cyc exc ac)) K = (gd (nx pc) N (gd (f (nx pc).toNat) N (rolC (f (f (nx pc).toNat).toNat) p fun t p' => gd (f (nx pc).toNat) N (fi K o N (cyc + (5 + 0)) (setF f (f (nx pc).toNat).toNat (t)) a x y sp p' (nx pc + 1) 0 (.int 0))))) := by kernel_rfl
theorem op101 : stepOf (g12 n scr) 95 19 101 (hp o N f (regs 3 512 a x y sp p pc cyc exc ac)) K = (gd (nx pc) N (gd (f (nx pc).toNat) N (adcC (f (f (nx pc).toNat).toNat) a p fun t p' => fi K o N (cyc + (3 + 0)) f t x y sp p' (nx pc + 1) 0 (.int 0)))) := by kernel_rfl
theorem op105 : stepOf (g12 n scr) 95 19 105 (hp o N f (regs 3 512 a x y sp p pc cyc exc ac)) K = (gd (nx pc) N (adcC (f (nx pc).toNat) a p fun t p' => fi K o N (cyc + (2 + 0)) f t x y sp p' (nx pc + 1) 0 (.int 0))) := by kernel_rfl
theorem op208 : stepOf (g12 n scr) 95 19 208 (hp o N f (regs 3 512 a x y sp p pc cyc exc ac)) K = (cond (!decide (bA p 2 = 0)) (fi K o N (cyc + (2 + 0)) f a x y sp p (nx pc + 1) 0 (.int 2)) (brn f N (nx pc) fun t e => fi K o N (cyc + (2 + e)) f a x y sp p t e (.int 2))) := by kernel_rfl
theorem op240 : stepOf (g12 n scr) 95 19 240 (hp o N f (regs 3 512 a x y sp p pc cyc exc ac)) K = (cond (!decide (bA p 2 = 0)) (brn f N (nx pc) fun t e => fi K o N (cyc + (2 + e)) f a x y sp p t e (.int 2)) (fi K o N (cyc + (2 + 0)) f a x y sp p (nx pc + 1) 0 (.int 2))) := by kernel_rfl
theorem op32 : stepOf (g12 n scr) 95 19 32 (hp o N f (regs 3 512 a x y sp p pc cyc exc ac)) K = (gd (sp + 256) N (gd (bA (sp - 1) 255 + 256) N (jsrC (setF (setF f (sp + 256).toNat (bA (bA ((bA (nx pc + 1) 65535).fdiv (2 ^ (8 : Int).toNat)) 255) 255)) (bA (sp - 1) 255 + 256).toNat (bA (bA (bA (nx pc + 1) 65535) 255) 255)) N (nx pc) fun t => fi K o N (cyc + (6 + 0)) (setF (setF f (sp + 256).toNat (bA (bA ((bA (nx pc + 1) 65535).fdiv (2 ^ (8 : Int).toNat)) 255) 255)) (bA (sp - 1) 255 + 256).toNat (bA (bA (bA (nx pc + 1) 65535) 255) 255)) a x y (bA (bA (sp - 1) 255 - 1) 255) p t 0 (.int 0)))) := by kernel_rfl
theorem op96 : stepOf (g12 n scr) 95 19 96 (hp o N f (regs 3 512 a x y sp p pc cyc exc ac)) K = (gd (bA (sp + 1) 255 + 256) N (gd (bA (bA (sp + 1) 255 + 1) 255 + 256) N (cond (small (f (bA (bA (sp + 1) 255 + 1) 255 + 256).toNat)) (fi K o N (cyc + (6 + 0)) f a x y (bA (bA (sp + 1) 255 + 1) 255) p (f (bA (sp + 1) 255 + 256).toNat + f (bA (bA (sp + 1) 255 + 1) 255 + 256).toNat * 2 ^ (8 : Int).toNat + 1) 0 (.int 0)) False))) := by kernel_rfl
end
end Mine
end
section
set_option Elab.async false
set_option maxRecDepth 100000
set_option linter.unusedVariables false
open PySem PySem.W PyProof.Rows PySem.Claim2Try PySem.Pin
namespace Mine
open PySem.Challenge
noncomputable def nLaw : Str := "law"
noncomputable def lawBo : List Stmt := fnBody (topFind nLaw top12)
noncomputable def lawSc : Scope := fnSc (topFind nLaw top12)
noncomputable def sg (i j : Nat) : List Stmt := (lawBo.drop i).take (j - i)
noncomputable def forBo : Stmt → List Stmt
  | .For _ _ bo _ _ => bo
  | _ => []
noncomputable def forTg : Stmt → Expr
  | .For t _ _ _ _ => t
  | _ => .Constant .none 0 ⟨0,0,0,0⟩
noncomputable def st1 : Stmt := hd1 (sg 1 2)
noncomputable def st19 : Stmt := hd1 (sg 19 20)
noncomputable def bc (k : Int) : Int := 16 * k.fdiv 10 + k.fmod 10
noncomputable def pin3 (m : Int) : Nat → Int := getI [m.fmod 100, (m.fdiv 100).fmod 100, m.fdiv 10000]
noncomputable def pr3 (m : Int) : Nat → Int := setF (setF (setF (fun _ => 0) 0 (bc (m.fmod 100))) 1 (bc ((m.fdiv 100).fmod 100))) 2 (bc (m.fdiv 10000))
noncomputable def g1 (k : Int) (P : Prop) : Prop := cond (small 16 && small (k.fdiv 10)) P False
noncomputable def g3 (m : Int) (P : Prop) : Prop := g1 (m.fmod 100) (g1 ((m.fdiv 100).fmod 100) (g1 (m.fdiv 10000) P))
noncomputable def wr (g : Nat → Int) : Nat → Nat → (Nat → Int) → Nat → Int
  | 0, _, f => f
  | k + 1, b, f => setF (wr g k b f) (b + k) (g k)
noncomputable def mn0 : Nat → Int := getI [248, 169, 0, 133, 19, 133, 20, 133, 21]
noncomputable def mn1 : Nat → Int := getI [165, 18, 74, 74, 74, 74, 170, 32, 40, 2]
noncomputable def mn2 : Nat → Int := getI [160, 4, 6, 19, 38, 20, 38, 21, 136, 208, 247]
noncomputable def mn3 : Nat → Int := getI [165, 18, 41, 15, 170, 32, 40, 2]
noncomputable def ad0 : Nat → Int := getI [224, 0, 240, 22, 24, 165, 19, 101, 16, 133, 19, 165, 20, 101, 17, 133, 20]
noncomputable def ad1 : Nat → Int := getI [165, 21, 105, 0, 133, 21, 202, 208, 234, 96]
noncomputable def mainF : Nat → Int := appF 30 (appF 19 (appF 9 mn0 mn1) mn2) mn3
noncomputable def addF : Nat → Int := appF 17 ad0 ad1
noncomputable def stK (L : Loc) (Q : KF) : KV := fun _ σ => Q .next L σ
noncomputable def ob (g h : AObj) (o : Nat → AObj) (i : Nat) : AObj := cond (Nat.beq i 16) g (cond (Nat.beq i 18) h (o i))
noncomputable def fin1 (a b h2 : Int) (K : Bool → Prop) : Prop := cond (decide (0 < b.fmod 10)) (K (!decide (a = h2))) (K (!decide (a = 0)))
noncomputable def fin2 (b p : Int) (K : Bool → Prop) : Prop := cond (decide (0 < b.fmod 10)) (K (!decide (bA p 191 = 58))) (K (!decide (bA p 191 = 59)))
noncomputable def nk (Q : KF) : KF := fun fl L1 σ1 => match fl with
    | .next => Q .next L1 σ1
    | fl => Q fl L1 σ1
section
variable (n : Nat) (scr : Nat → Int) (N : Nat) (f : Nat → Int) (K : KV) (σ : Hp) (L : Loc) (Q : KF) (t w v m b : Int) (j0 j1 j2 j4 j5 j6 j7 j8 j9 j10 j11 j12 j13 j14 j15 j16 j17 j18 : AObj) (C : Loc → Hp → Prop) (v1 : AV) (g h : Nat → Int) (o : Nat → AObj) (a x y sp p pc cyc exc : Int) (ac : AV)
theorem law_a : (inN (g12 n scr) 100).ca (.fn nLaw) [.given] [] [] K = stmtsI ((inN (g12 n scr) 99).ex lawSc) lawBo [("script", .given)] [] (retK K) := by kernel_rfl
theorem s0 : stmtsI ((inN (g12 n scr) 99).ex lawSc) (sg 0 1) [("script", .given)] [] Q = (Q .next [("script", .given), ("total", .int 0)] []) := by kernel_rfl
theorem s1 : stmtsI ((inN (g12 n scr) 99).ex lawSc) (sg 1 2) [("script", .given), ("total", .int 0)] [] Q = (listLoop (stmtsI ((inN (g12 n scr) 98).ex lawSc) (forBo st1)) (asgI (inN (g12 n scr) 98) lawSc (forTg st1)) 0 false (min (30 : Int).toNat n - 0) 0 [("script", .given), ("total", .int 0)] [.nums (min (30 : Int).toNat n - 0) (cutF 0 scr)] (nk Q)) := by kernel_rfl
theorem b1e : asgI (inN (g12 n scr) 98) lawSc (forTg st1) (.int v) [("script", .given), ("total", .int t)] σ C = (C [("script", .given), ("total", .int t), ("number", .int v)] σ) := by kernel_rfl
theorem s2e : stmtsI ((inN (g12 n scr) 99).ex lawSc) (sg 2 4) [("script", .given), ("total", .int t)] [j0] Q = (cond (small 37 && small (((min (30 : Int).toNat n - 0) : Nat) : Int)) (Q .next [("script", .given), ("total", .int t), ("many", .int (t.fmod 10000)), ("few", .int ((t.fdiv 10000 + t.fmod 10000 + 37 * (((min (30 : Int).toNat n - 0) : Nat) : Int)).fmod 100))] [j0, .nums (min (30 : Int).toNat n - 0) (cutF 0 scr)]) False) := by kernel_rfl
theorem s3e : stmtsI ((inN (g12 n scr) 99).ex lawSc) (sg 4 5) [("script", .given), ("total", .int t), ("many", .int m), ("few", .int b)] [j0, j1] Q = (Q .next [("script", .given), ("total", .int t), ("many", .int m), ("few", .int b), ("memory", .loc 3)] [j0, j1, .nums 4 (getI [165, 90, 60, 195]), .nums 768 (repF 4 (getI [165, 90, 60, 195]))]) := by kernel_rfl
theorem s4e : stmtsI ((inN (g12 n scr) 99).ex lawSc) (sg 5 6) [("script", .given), ("total", .int t), ("many", .int m), ("few", .int b), ("memory", .loc 3)] [j0, j1, j2, .nums 768 f] Q = (g3 m (Q .next [("script", .given), ("total", .int t), ("many", .int m), ("few", .int b), ("memory", .loc 3)] [j0, j1, j2, .nums 768 (setF (setF f 16 (bc (m.fmod 100))) 17 (bc ((m.fdiv 100).fmod 100))), .nums 3 (pin3 m), .nums 3 (pr3 m), .nums 2 (cutF 0 (pr3 m))])) := by kernel_rfl
theorem s5e : stmtsI ((inN (g12 n scr) 99).ex lawSc) (sg 6 7) [("script", .given), ("total", .int t), ("many", .int m), ("few", .int b), ("memory", .loc 3)] [j0, j1, j2, .nums 768 f, j4, j5, j6] Q = (g3 b (Q .next [("script", .given), ("total", .int t), ("many", .int m), ("few", .int b), ("memory", .loc 3)] [j0, j1, j2, .nums 768 (setF f 18 (bc (b.fmod 100))), j4, j5, j6, .nums 3 (pin3 b), .nums 3 (pr3 b)])) := by kernel_rfl
theorem s6e : stmtsI ((inN (g12 n scr) 99).ex lawSc) (sg 7 13) [("script", .given), ("total", .int t), ("many", .int m), ("few", .int b), ("memory", .loc 3)] [j0, j1, j2, .nums 768 f, j4, j5, j6, j7, j8] Q = (Q .next [("script", .given), ("total", .int t), ("many", .int m), ("few", .int b), ("memory", .loc 3), ("main", .loc 9), ("add", .loc 13)] [j0, j1, j2, .nums 768 f, j4, j5, j6, j7, j8, .nums 38 mainF, .nums 10 mn1, .nums 11 mn2, .nums 8 mn3, .nums 27 addF, .nums 10 ad1]) := by kernel_rfl
theorem s7e : stmtsI ((inN (g12 n scr) 99).ex lawSc) (sg 13 14) [("script", .given), ("total", .int t), ("many", .int m), ("few", .int b), ("memory", .loc 3), ("main", .loc 9), ("add", .loc 13)] [j0, j1, j2, .nums 768 f, j4, j5, j6, j7, j8, .nums 38 mainF, j10, j11, j12, .nums 27 addF, j14] Q = (Q .next [("script", .given), ("total", .int t), ("many", .int m), ("few", .int b), ("memory", .loc 3), ("main", .loc 9), ("add", .loc 13), ("start", .int 552), ("code", .loc 13), ("turn", .int 26), ("octet", .int 96)] [j0, j1, j2, .nums 768 (wr addF 27 552 (wr mainF 38 512 f)), j4, j5, j6, j7, j8, .nums 38 mainF, j10, j11, j12, .nums 27 addF, j14, .list [.tup [.int 512, .loc 9], .tup [.int 552, .loc 13]]]) := by kernel_rfl
theorem s8e : stmtsI ((inN (g12 n scr) 99).ex lawSc) (sg 14 16) [("script", .given), ("total", .int t), ("many", .int m), ("few", .int b), ("memory", .loc 3), ("main", .loc 9), ("add", .loc 13), ("start", .int 552), ("code", .loc 13), ("turn", .int 26), ("octet", .int 96)] [j0, j1, j2, .nums 768 f, j4, j5, j6, j7, j8, j9, j10, j11, j12, j13, j14, j15] Q = (Q .next [("script", .given), ("total", .int t), ("many", .int m), ("few", .int b), ("memory", .loc 3), ("main", .loc 9), ("add", .loc 13), ("start", .int 552), ("code", .loc 13), ("turn", .int 26), ("octet", .int 96), ("plain", .loc 16)] [j0, j1, j2, .nums 768 f, j4, j5, j6, j7, j8, j9, j10, j11, j12, j13, j14, j15, .nums 768 (setF (setF (cutF 0 f) 510 37) 511 2)]) := by kernel_rfl
theorem s9e : stmtsI ((inN (g12 n scr) 99).ex lawSc) (sg 16 17) [("script", .given), ("total", .int t), ("many", .int m), ("few", .int b), ("memory", .loc 3), ("main", .loc 9), ("add", .loc 13), ("start", .int 552), ("code", .loc 13), ("turn", .int 26), ("octet", .int 96), ("plain", .loc 16)] [j0, j1, j2, .nums 768 f, j4, j5, j6, j7, j8, j9, j10, j11, j12, j13, j14, j15, j16] Q = (cond (small m && small b) (g3 (m * b) (Q .next [("script", .given), ("total", .int t), ("many", .int m), ("few", .int b), ("memory", .loc 3), ("main", .loc 9), ("add", .loc 13), ("start", .int 552), ("code", .loc 13), ("turn", .int 26), ("octet", .int 96), ("plain", .loc 16), ("answer", .loc 18)] [j0, j1, j2, .nums 768 f, j4, j5, j6, j7, j8, j9, j10, j11, j12, j13, j14, j15, j16, .nums 3 (pin3 (m * b)), .nums 3 (pr3 (m * b))])) False) := by kernel_rfl
theorem s10e : stmtsI ((inN (g12 n scr) 99).ex lawSc) (sg 17 18) [("script", .given), ("total", .int t), ("many", .int m), ("few", .int b), ("memory", .loc 3), ("main", .loc 9), ("add", .loc 13), ("start", .int 552), ("code", .loc 13), ("turn", .int 26), ("octet", .int 96), ("plain", .loc 16), ("answer", .loc 18)] [j0, j1, j2, .nums 768 f, j4, j5, j6, j7, j8, j9, j10, j11, j12, j13, j14, j15, .nums 768 g, j17, .nums 3 h] Q = (Q .next [("script", .given), ("total", .int t), ("many", .int m), ("few", .int b), ("memory", .loc 3), ("main", .loc 9), ("add", .loc 13), ("start", .int 552), ("code", .loc 13), ("turn", .int 26), ("octet", .int 96), ("plain", .loc 16), ("answer", .loc 18), ("spot", .int 2)] [j0, j1, j2, .nums 768 f, j4, j5, j6, j7, j8, j9, j10, j11, j12, j13, j14, j15, .nums 768 (setF (setF (setF g 19 (h 0)) 20 (h 1)) 21 (h 2)), j17, .nums 3 h]) := by kernel_rfl
theorem s11e : stmtsI ((inN (g12 n scr) 99).ex lawSc) (sg 18 19) [("script", .given), ("total", .int t), ("many", .int m), ("few", .int b), ("memory", .loc 3), ("main", .loc 9), ("add", .loc 13), ("start", .int 552), ("code", .loc 13), ("turn", .int 26), ("octet", .int 96), ("plain", .loc 16), ("answer", .loc 18), ("spot", .int 2)] [j0, j1, j2, .nums 768 f, j4, j5, j6, j7, j8, j9, j10, j11, j12, j13, j14, j15, j16, j17, j18] Q = (Q .next [("script", .given), ("total", .int t), ("many", .int m), ("few", .int b), ("memory", .loc 3), ("main", .loc 9), ("add", .loc 13), ("start", .int 552), ("code", .loc 13), ("turn", .int 26), ("octet", .int 96), ("plain", .loc 16), ("answer", .loc 18), ("spot", .int 2), ("mpu", .loc 19)] [j0, j1, j2, .nums 768 f, j4, j5, j6, j7, j8, j9, j10, j11, j12, j13, j14, j15, j16, j17, j18, .inst (regs 3 512 0 0 0 255 48 512 0 0 (.bool false))]) := by kernel_rfl
theorem s12e : stmtsI ((inN (g12 n scr) 99).ex lawSc) (sg 19 20) [("script", .given), ("total", .int t), ("many", .int m), ("few", .int b), ("memory", .loc 3), ("main", .loc 9), ("add", .loc 13), ("start", .int 552), ("code", .loc 13), ("turn", .int 26), ("octet", .int 96), ("plain", .loc 16), ("answer", .loc 18), ("spot", .int 2), ("mpu", .loc 19)] σ Q = (genLoop (rangeSrc 300 0) (stmtsI ((inN (g12 n scr) 98).ex lawSc) (forBo st19)) (asgI (inN (g12 n scr) 98) lawSc (forTg st19)) 300 0 [("script", .given), ("total", .int t), ("many", .int m), ("few", .int b), ("memory", .loc 3), ("main", .loc 9), ("add", .loc 13), ("start", .int 552), ("code", .loc 13), ("turn", .int 26), ("octet", .int 96), ("plain", .loc 16), ("answer", .loc 18), ("spot", .int 2), ("mpu", .loc 19)] σ (nk Q)) := by kernel_rfl
theorem c1e : asgI (inN (g12 n scr) 98) lawSc (forTg st19) (.int v) [("script", .given), ("total", .int t), ("many", .int m), ("few", .int b), ("memory", .loc 3), ("main", .loc 9), ("add", .loc 13), ("start", .int 552), ("code", .loc 13), ("turn", v1), ("octet", .int 96), ("plain", .loc 16), ("answer", .loc 18), ("spot", .int 2), ("mpu", .loc 19)] σ C = (C [("script", .given), ("total", .int t), ("many", .int m), ("few", .int b), ("memory", .loc 3), ("main", .loc 9), ("add", .loc 13), ("start", .int 552), ("code", .loc 13), ("turn", .int v), ("octet", .int 96), ("plain", .loc 16), ("answer", .loc 18), ("spot", .int 2), ("mpu", .loc 19)] σ) := by kernel_rfl
theorem c2e : stmtsI ((inN (g12 n scr) 98).ex lawSc) (forBo st19) [("script", .given), ("total", .int t), ("many", .int m), ("few", .int b), ("memory", .loc 3), ("main", .loc 9), ("add", .loc 13), ("start", .int 552), ("code", .loc 13), ("turn", v1), ("octet", .int 96), ("plain", .loc 16), ("answer", .loc 18), ("spot", .int 2), ("mpu", .loc 19)] (hp o N f (regs 3 512 a x y sp p pc cyc exc ac)) Q = (cond (decide (pc = 550)) (Q .brk [("script", .given), ("total", .int t), ("many", .int m), ("few", .int b), ("memory", .loc 3), ("main", .loc 9), ("add", .loc 13), ("start", .int 552), ("code", .loc 13), ("turn", v1), ("octet", .int 96), ("plain", .loc 16), ("answer", .loc 18), ("spot", .int 2), ("mpu", .loc 19)] (hp o N f (regs 3 512 a x y sp p pc cyc exc ac))) ((inN (g12 n scr) 96).ca (.mth nStep) [.loc 19] [] (hp o N f (regs 3 512 a x y sp p pc cyc exc ac)) (stK [("script", .given), ("total", .int t), ("many", .int m), ("few", .int b), ("memory", .loc 3), ("main", .loc 9), ("add", .loc 13), ("start", .int 552), ("code", .loc 13), ("turn", v1), ("octet", .int 96), ("plain", .loc 16), ("answer", .loc 18), ("spot", .int 2), ("mpu", .loc 19)] Q))) := by kernel_rfl
theorem s13e : stmtsI ((inN (g12 n scr) 99).ex lawSc) (sg 20 23) [("script", .given), ("total", .int t), ("many", .int m), ("few", .int b), ("memory", .loc 3), ("main", .loc 9), ("add", .loc 13), ("start", .int 552), ("code", .loc 13), ("turn", v1), ("octet", .int 96), ("plain", .loc 16), ("answer", .loc 18), ("spot", .int 2), ("mpu", .loc 19)] (hp (ob (.nums 768 g) (.nums 3 h) o) 768 f (regs 3 512 a x y sp p pc cyc exc ac)) Q = (cond (!(cond (decide (pc = 550)) (cond (decide (sp = 255)) (cond (decide (x = 0)) (cond (decide (y = 0)) true false) false) false) false)) (Q (.ret (.bool false)) [("script", .given), ("total", .int t), ("many", .int m), ("few", .int b), ("memory", .loc 3), ("main", .loc 9), ("add", .loc 13), ("start", .int 552), ("code", .loc 13), ("turn", v1), ("octet", .int 96), ("plain", .loc 16), ("answer", .loc 18), ("spot", .int 2), ("mpu", .loc 19)] (hp (ob (.nums 768 g) (.nums 3 h) o) 768 f (regs 3 512 a x y sp p pc cyc exc ac))) (fin1 a b (h 2) fun c1 => cond c1 (Q (.ret (.bool false)) [("script", .given), ("total", .int t), ("many", .int m), ("few", .int b), ("memory", .loc 3), ("main", .loc 9), ("add", .loc 13), ("start", .int 552), ("code", .loc 13), ("turn", v1), ("octet", .int 96), ("plain", .loc 16), ("answer", .loc 18), ("spot", .int 2), ("mpu", .loc 19)] (hp (ob (.nums 768 g) (.nums 3 h) o) 768 f (regs 3 512 a x y sp p pc cyc exc ac))) (fin2 b p fun c2 => cond c2 (Q (.ret (.bool false)) [("script", .given), ("total", .int t), ("many", .int m), ("few", .int b), ("memory", .loc 3), ("main", .loc 9), ("add", .loc 13), ("start", .int 552), ("code", .loc 13), ("turn", v1), ("octet", .int 96), ("plain", .loc 16), ("answer", .loc 18), ("spot", .int 2), ("mpu", .loc 19)] (hp (ob (.nums 768 g) (.nums 3 h) o) 768 f (regs 3 512 a x y sp p pc cyc exc ac))) (Q (.ret (.bool (eqTo f g 768))) [("script", .given), ("total", .int t), ("many", .int m), ("few", .int b), ("memory", .loc 3), ("main", .loc 9), ("add", .loc 13), ("start", .int 552), ("code", .loc 13), ("turn", v1), ("octet", .int 96), ("plain", .loc 16), ("answer", .loc 18), ("spot", .int 2), ("mpu", .loc 19)] (hp (ob (.nums 768 g) (.nums 3 h) o) 768 f (regs 3 512 a x y sp p pc cyc exc ac)))))) := by kernel_rfl
theorem b1w : asgI (inN (g12 n scr) 98) lawSc (forTg st1) (.int v) [("script", .given), ("total", .int t), ("number", .int w)] σ C = (C [("script", .given), ("total", .int t), ("number", .int v)] σ) := by kernel_rfl
theorem b2 : stmtsI ((inN (g12 n scr) 98).ex lawSc) (forBo st1) [("script", .given), ("total", .int t), ("number", .int w)] σ Q = (cond (small 101 && small t) (Q .next [("script", .given), ("total", .int ((101 * t + w).fmod 1000000)), ("number", .int w)] σ) False) := by kernel_rfl
theorem s2w : stmtsI ((inN (g12 n scr) 99).ex lawSc) (sg 2 4) [("script", .given), ("total", .int t), ("number", .int w)] [j0] Q = (cond (small 37 && small (((min (30 : Int).toNat n - 0) : Nat) : Int)) (Q .next [("script", .given), ("total", .int t), ("number", .int w), ("many", .int (t.fmod 10000)), ("few", .int ((t.fdiv 10000 + t.fmod 10000 + 37 * (((min (30 : Int).toNat n - 0) : Nat) : Int)).fmod 100))] [j0, .nums (min (30 : Int).toNat n - 0) (cutF 0 scr)]) False) := by kernel_rfl
theorem s3w : stmtsI ((inN (g12 n scr) 99).ex lawSc) (sg 4 5) [("script", .given), ("total", .int t), ("number", .int w), ("many", .int m), ("few", .int b)] [j0, j1] Q = (Q .next [("script", .given), ("total", .int t), ("number", .int w), ("many", .int m), ("few", .int b), ("memory", .loc 3)] [j0, j1, .nums 4 (getI [165, 90, 60, 195]), .nums 768 (repF 4 (getI [165, 90, 60, 195]))]) := by kernel_rfl
theorem s4w : stmtsI ((inN (g12 n scr) 99).ex lawSc) (sg 5 6) [("script", .given), ("total", .int t), ("number", .int w), ("many", .int m), ("few", .int b), ("memory", .loc 3)] [j0, j1, j2, .nums 768 f] Q = (g3 m (Q .next [("script", .given), ("total", .int t), ("number", .int w), ("many", .int m), ("few", .int b), ("memory", .loc 3)] [j0, j1, j2, .nums 768 (setF (setF f 16 (bc (m.fmod 100))) 17 (bc ((m.fdiv 100).fmod 100))), .nums 3 (pin3 m), .nums 3 (pr3 m), .nums 2 (cutF 0 (pr3 m))])) := by kernel_rfl
theorem s5w : stmtsI ((inN (g12 n scr) 99).ex lawSc) (sg 6 7) [("script", .given), ("total", .int t), ("number", .int w), ("many", .int m), ("few", .int b), ("memory", .loc 3)] [j0, j1, j2, .nums 768 f, j4, j5, j6] Q = (g3 b (Q .next [("script", .given), ("total", .int t), ("number", .int w), ("many", .int m), ("few", .int b), ("memory", .loc 3)] [j0, j1, j2, .nums 768 (setF f 18 (bc (b.fmod 100))), j4, j5, j6, .nums 3 (pin3 b), .nums 3 (pr3 b)])) := by kernel_rfl
theorem s6w : stmtsI ((inN (g12 n scr) 99).ex lawSc) (sg 7 13) [("script", .given), ("total", .int t), ("number", .int w), ("many", .int m), ("few", .int b), ("memory", .loc 3)] [j0, j1, j2, .nums 768 f, j4, j5, j6, j7, j8] Q = (Q .next [("script", .given), ("total", .int t), ("number", .int w), ("many", .int m), ("few", .int b), ("memory", .loc 3), ("main", .loc 9), ("add", .loc 13)] [j0, j1, j2, .nums 768 f, j4, j5, j6, j7, j8, .nums 38 mainF, .nums 10 mn1, .nums 11 mn2, .nums 8 mn3, .nums 27 addF, .nums 10 ad1]) := by kernel_rfl
theorem s7w : stmtsI ((inN (g12 n scr) 99).ex lawSc) (sg 13 14) [("script", .given), ("total", .int t), ("number", .int w), ("many", .int m), ("few", .int b), ("memory", .loc 3), ("main", .loc 9), ("add", .loc 13)] [j0, j1, j2, .nums 768 f, j4, j5, j6, j7, j8, .nums 38 mainF, j10, j11, j12, .nums 27 addF, j14] Q = (Q .next [("script", .given), ("total", .int t), ("number", .int w), ("many", .int m), ("few", .int b), ("memory", .loc 3), ("main", .loc 9), ("add", .loc 13), ("start", .int 552), ("code", .loc 13), ("turn", .int 26), ("octet", .int 96)] [j0, j1, j2, .nums 768 (wr addF 27 552 (wr mainF 38 512 f)), j4, j5, j6, j7, j8, .nums 38 mainF, j10, j11, j12, .nums 27 addF, j14, .list [.tup [.int 512, .loc 9], .tup [.int 552, .loc 13]]]) := by kernel_rfl
theorem s8w : stmtsI ((inN (g12 n scr) 99).ex lawSc) (sg 14 16) [("script", .given), ("total", .int t), ("number", .int w), ("many", .int m), ("few", .int b), ("memory", .loc 3), ("main", .loc 9), ("add", .loc 13), ("start", .int 552), ("code", .loc 13), ("turn", .int 26), ("octet", .int 96)] [j0, j1, j2, .nums 768 f, j4, j5, j6, j7, j8, j9, j10, j11, j12, j13, j14, j15] Q = (Q .next [("script", .given), ("total", .int t), ("number", .int w), ("many", .int m), ("few", .int b), ("memory", .loc 3), ("main", .loc 9), ("add", .loc 13), ("start", .int 552), ("code", .loc 13), ("turn", .int 26), ("octet", .int 96), ("plain", .loc 16)] [j0, j1, j2, .nums 768 f, j4, j5, j6, j7, j8, j9, j10, j11, j12, j13, j14, j15, .nums 768 (setF (setF (cutF 0 f) 510 37) 511 2)]) := by kernel_rfl
theorem s9w : stmtsI ((inN (g12 n scr) 99).ex lawSc) (sg 16 17) [("script", .given), ("total", .int t), ("number", .int w), ("many", .int m), ("few", .int b), ("memory", .loc 3), ("main", .loc 9), ("add", .loc 13), ("start", .int 552), ("code", .loc 13), ("turn", .int 26), ("octet", .int 96), ("plain", .loc 16)] [j0, j1, j2, .nums 768 f, j4, j5, j6, j7, j8, j9, j10, j11, j12, j13, j14, j15, j16] Q = (cond (small m && small b) (g3 (m * b) (Q .next [("script", .given), ("total", .int t), ("number", .int w), ("many", .int m), ("few", .int b), ("memory", .loc 3), ("main", .loc 9), ("add", .loc 13), ("start", .int 552), ("code", .loc 13), ("turn", .int 26), ("octet", .int 96), ("plain", .loc 16), ("answer", .loc 18)] [j0, j1, j2, .nums 768 f, j4, j5, j6, j7, j8, j9, j10, j11, j12, j13, j14, j15, j16, .nums 3 (pin3 (m * b)), .nums 3 (pr3 (m * b))])) False) := by kernel_rfl
theorem s10w : stmtsI ((inN (g12 n scr) 99).ex lawSc) (sg 17 18) [("script", .given), ("total", .int t), ("number", .int w), ("many", .int m), ("few", .int b), ("memory", .loc 3), ("main", .loc 9), ("add", .loc 13), ("start", .int 552), ("code", .loc 13), ("turn", .int 26), ("octet", .int 96), ("plain", .loc 16), ("answer", .loc 18)] [j0, j1, j2, .nums 768 f, j4, j5, j6, j7, j8, j9, j10, j11, j12, j13, j14, j15, .nums 768 g, j17, .nums 3 h] Q = (Q .next [("script", .given), ("total", .int t), ("number", .int w), ("many", .int m), ("few", .int b), ("memory", .loc 3), ("main", .loc 9), ("add", .loc 13), ("start", .int 552), ("code", .loc 13), ("turn", .int 26), ("octet", .int 96), ("plain", .loc 16), ("answer", .loc 18), ("spot", .int 2)] [j0, j1, j2, .nums 768 f, j4, j5, j6, j7, j8, j9, j10, j11, j12, j13, j14, j15, .nums 768 (setF (setF (setF g 19 (h 0)) 20 (h 1)) 21 (h 2)), j17, .nums 3 h]) := by kernel_rfl
theorem s11w : stmtsI ((inN (g12 n scr) 99).ex lawSc) (sg 18 19) [("script", .given), ("total", .int t), ("number", .int w), ("many", .int m), ("few", .int b), ("memory", .loc 3), ("main", .loc 9), ("add", .loc 13), ("start", .int 552), ("code", .loc 13), ("turn", .int 26), ("octet", .int 96), ("plain", .loc 16), ("answer", .loc 18), ("spot", .int 2)] [j0, j1, j2, .nums 768 f, j4, j5, j6, j7, j8, j9, j10, j11, j12, j13, j14, j15, j16, j17, j18] Q = (Q .next [("script", .given), ("total", .int t), ("number", .int w), ("many", .int m), ("few", .int b), ("memory", .loc 3), ("main", .loc 9), ("add", .loc 13), ("start", .int 552), ("code", .loc 13), ("turn", .int 26), ("octet", .int 96), ("plain", .loc 16), ("answer", .loc 18), ("spot", .int 2), ("mpu", .loc 19)] [j0, j1, j2, .nums 768 f, j4, j5, j6, j7, j8, j9, j10, j11, j12, j13, j14, j15, j16, j17, j18, .inst (regs 3 512 0 0 0 255 48 512 0 0 (.bool false))]) := by kernel_rfl
theorem s12w : stmtsI ((inN (g12 n scr) 99).ex lawSc) (sg 19 20) [("script", .given), ("total", .int t), ("number", .int w), ("many", .int m), ("few", .int b), ("memory", .loc 3), ("main", .loc 9), ("add", .loc 13), ("start", .int 552), ("code", .loc 13), ("turn", .int 26), ("octet", .int 96), ("plain", .loc 16), ("answer", .loc 18), ("spot", .int 2), ("mpu", .loc 19)] σ Q = (genLoop (rangeSrc 300 0) (stmtsI ((inN (g12 n scr) 98).ex lawSc) (forBo st19)) (asgI (inN (g12 n scr) 98) lawSc (forTg st19)) 300 0 [("script", .given), ("total", .int t), ("number", .int w), ("many", .int m), ("few", .int b), ("memory", .loc 3), ("main", .loc 9), ("add", .loc 13), ("start", .int 552), ("code", .loc 13), ("turn", .int 26), ("octet", .int 96), ("plain", .loc 16), ("answer", .loc 18), ("spot", .int 2), ("mpu", .loc 19)] σ (nk Q)) := by kernel_rfl
theorem c1w : asgI (inN (g12 n scr) 98) lawSc (forTg st19) (.int v) [("script", .given), ("total", .int t), ("number", .int w), ("many", .int m), ("few", .int b), ("memory", .loc 3), ("main", .loc 9), ("add", .loc 13), ("start", .int 552), ("code", .loc 13), ("turn", v1), ("octet", .int 96), ("plain", .loc 16), ("answer", .loc 18), ("spot", .int 2), ("mpu", .loc 19)] σ C = (C [("script", .given), ("total", .int t), ("number", .int w), ("many", .int m), ("few", .int b), ("memory", .loc 3), ("main", .loc 9), ("add", .loc 13), ("start", .int 552), ("code", .loc 13), ("turn", .int v), ("octet", .int 96), ("plain", .loc 16), ("answer", .loc 18), ("spot", .int 2), ("mpu", .loc 19)] σ) := by kernel_rfl
theorem c2w : stmtsI ((inN (g12 n scr) 98).ex lawSc) (forBo st19) [("script", .given), ("total", .int t), ("number", .int w), ("many", .int m), ("few", .int b), ("memory", .loc 3), ("main", .loc 9), ("add", .loc 13), ("start", .int 552), ("code", .loc 13), ("turn", v1), ("octet", .int 96), ("plain", .loc 16), ("answer", .loc 18), ("spot", .int 2), ("mpu", .loc 19)] (hp o N f (regs 3 512 a x y sp p pc cyc exc ac)) Q = (cond (decide (pc = 550)) (Q .brk [("script", .given), ("total", .int t), ("number", .int w), ("many", .int m), ("few", .int b), ("memory", .loc 3), ("main", .loc 9), ("add", .loc 13), ("start", .int 552), ("code", .loc 13), ("turn", v1), ("octet", .int 96), ("plain", .loc 16), ("answer", .loc 18), ("spot", .int 2), ("mpu", .loc 19)] (hp o N f (regs 3 512 a x y sp p pc cyc exc ac))) ((inN (g12 n scr) 96).ca (.mth nStep) [.loc 19] [] (hp o N f (regs 3 512 a x y sp p pc cyc exc ac)) (stK [("script", .given), ("total", .int t), ("number", .int w), ("many", .int m), ("few", .int b), ("memory", .loc 3), ("main", .loc 9), ("add", .loc 13), ("start", .int 552), ("code", .loc 13), ("turn", v1), ("octet", .int 96), ("plain", .loc 16), ("answer", .loc 18), ("spot", .int 2), ("mpu", .loc 19)] Q))) := by kernel_rfl
theorem s13w : stmtsI ((inN (g12 n scr) 99).ex lawSc) (sg 20 23) [("script", .given), ("total", .int t), ("number", .int w), ("many", .int m), ("few", .int b), ("memory", .loc 3), ("main", .loc 9), ("add", .loc 13), ("start", .int 552), ("code", .loc 13), ("turn", v1), ("octet", .int 96), ("plain", .loc 16), ("answer", .loc 18), ("spot", .int 2), ("mpu", .loc 19)] (hp (ob (.nums 768 g) (.nums 3 h) o) 768 f (regs 3 512 a x y sp p pc cyc exc ac)) Q = (cond (!(cond (decide (pc = 550)) (cond (decide (sp = 255)) (cond (decide (x = 0)) (cond (decide (y = 0)) true false) false) false) false)) (Q (.ret (.bool false)) [("script", .given), ("total", .int t), ("number", .int w), ("many", .int m), ("few", .int b), ("memory", .loc 3), ("main", .loc 9), ("add", .loc 13), ("start", .int 552), ("code", .loc 13), ("turn", v1), ("octet", .int 96), ("plain", .loc 16), ("answer", .loc 18), ("spot", .int 2), ("mpu", .loc 19)] (hp (ob (.nums 768 g) (.nums 3 h) o) 768 f (regs 3 512 a x y sp p pc cyc exc ac))) (fin1 a b (h 2) fun c1 => cond c1 (Q (.ret (.bool false)) [("script", .given), ("total", .int t), ("number", .int w), ("many", .int m), ("few", .int b), ("memory", .loc 3), ("main", .loc 9), ("add", .loc 13), ("start", .int 552), ("code", .loc 13), ("turn", v1), ("octet", .int 96), ("plain", .loc 16), ("answer", .loc 18), ("spot", .int 2), ("mpu", .loc 19)] (hp (ob (.nums 768 g) (.nums 3 h) o) 768 f (regs 3 512 a x y sp p pc cyc exc ac))) (fin2 b p fun c2 => cond c2 (Q (.ret (.bool false)) [("script", .given), ("total", .int t), ("number", .int w), ("many", .int m), ("few", .int b), ("memory", .loc 3), ("main", .loc 9), ("add", .loc 13), ("start", .int 552), ("code", .loc 13), ("turn", v1), ("octet", .int 96), ("plain", .loc 16), ("answer", .loc 18), ("spot", .int 2), ("mpu", .loc 19)] (hp (ob (.nums 768 g) (.nums 3 h) o) 768 f (regs 3 512 a x y sp p pc cyc exc ac))) (Q (.ret (.bool (eqTo f g 768))) [("script", .given), ("total", .int t), ("number", .int w), ("many", .int m), ("few", .int b), ("memory", .loc 3), ("main", .loc 9), ("add", .loc 13), ("start", .int 552), ("code", .loc 13), ("turn", v1), ("octet", .int 96), ("plain", .loc 16), ("answer", .loc 18), ("spot", .int 2), ("mpu", .loc 19)] (hp (ob (.nums 768 g) (.nums 3 h) o) 768 f (regs 3 512 a x y sp p pc cyc exc ac)))))) := by kernel_rfl
end
end Mine
end
section
set_option Elab.async false
set_option maxRecDepth 100000
set_option linter.unusedVariables false
open PySem PySem.W PyProof.Rows PySem.Claim2Try PySem.Pin
namespace Mine
open PySem.Challenge
/-- the flags -/
noncomputable def ci (c : Bool) : Int := cond c 1 0
noncomputable def P (c z o g : Bool) : Int := 56 + ci c + cond z 2 0 + cond o 64 0 + cond g 128 0
theorem bA8 {t : Int} : bA t 255 = t % 256 := bitAnd_m8 t
theorem small_i {t : Int} (h0 : 0 ≤ t) (h1 : t < 1000000000) : small t = true := by
  unfold small; exact decide_eq_true (by omega)
theorem bA128 {t : Int} (h0 : 0 ≤ t) (h1 : t < 256) : bA t 128 = cond (decide (128 ≤ t)) 128 0 := by
  obtain ⟨k, rfl⟩ := Int.eq_ofNat_of_zero_le h0
  have hk : k < 256 := by omega
  have : ∀ k : Fin 256, bA (k.val : Int) 128 = cond (decide ((128 : Int) ≤ k.val)) 128 0 := by decide +kernel
  exact this ⟨k, hk⟩
theorem bO1 {t : Int} (h0 : 0 ≤ t) (h1 : t < 256) : bO (t * 2 ^ (1 : Int).toNat) 1 = t * 2 + 1 := by
  obtain ⟨k, rfl⟩ := Int.eq_ofNat_of_zero_le h0
  have hk : k < 256 := by omega
  have : ∀ k : Fin 256, bO ((k.val : Int) * 2 ^ (1 : Int).toNat) 1 = (k.val : Int) * 2 + 1 := by decide +kernel
  exact this ⟨k, hk⟩
theorem gd_i {i : Int} {P : Prop} (h0 : 0 ≤ i) (h1 : i < 768) (h : P) : gd i 768 P := by
  unfold gd; rw [decide_eq_true h0, decide_eq_true (show i < ((768 : Nat) : Int) by omega)]; exact h
theorem nx_eq {pc : Int} (h0 : 0 ≤ pc) (h1 : pc < 65535) : nx pc = pc + 1 := by
  unfold nx; rw [bitAnd_m16]; omega
theorem fi_i {K : KV} {o cyc f a x y sp p pc exc ac} (h0 : 0 ≤ pc) (h1 : pc < 65536) (h : K (.loc 19) (hp o 768 f (regs 3 512 a x y sp p pc cyc exc ac))) : fi K o 768 cyc f a x y sp p pc exc ac := by
  unfold fi; rw [show bA pc 65535 = pc by rw [show bA pc 65535 = _ from bitAnd_m16 pc]; omega]; exact h
theorem cond_t {b : Bool} {A B : Prop} (hb : b = true) (h : A) : cond b A B := by rw [hb]; exact h
theorem cond_f {b : Bool} {A B : Prop} (hb : b = false) (h : B) : cond b A B := by rw [hb]; exact h
theorem cond_b {b : Bool} {A B : Prop} (h : b = true → A) (h' : b = false → B) : cond b A B := by
  cases b
  · exact h' rfl
  · exact h rfl
theorem nz_i {v : Int} {c z o g : Bool} {K : Int → Prop} (h0 : 0 ≤ v) (h1 : v < 256) (h : K (P c (decide (v = 0)) o (decide (128 ≤ v)))) : nz v (P c z o g) K := by
  unfold nz
  refine cond_b (fun e => ?_) (fun e => ?_)
  · have e' := of_decide_eq_true e
    subst e'
    have : Builtin.bitOr (Builtin.bitAnd (P c z o g) (Builtin.bitNot (Builtin.bitOr 2 128))) 2 = P c true o false := by
      clear h; revert c z o g; decide +kernel
    rw [this]; exact h
  · rw [e] at h
    rw [show Builtin.bitAnd v 128 = _ from bA128 h0 h1]
    generalize decide (128 ≤ v) = b at h
    have : Builtin.bitOr (Builtin.bitAnd (P c z o g) (Builtin.bitNot (Builtin.bitOr 2 128))) (cond b 128 0) = P c false o b := by
      clear h
      revert c z o g b; decide +kernel
    rw [this]; exact h
theorem asl_i {t : Int} {c z o g : Bool} {K : Int → Int → Prop} (h0 : 0 ≤ t) (h1 : t < 256) (h : ∀ z g, K (2 * t % 256) (P (decide (128 ≤ t)) z o g)) : aslC t (P c z o g) K := by
  have e2 : bA (t * 2 ^ (1 : Int).toNat) 255 = 2 * t % 256 := by
    rw [bA8]; show t * 2 % 256 = _; rw [Int.mul_comm]
  have key : ∀ b, (∀ z g, K (2 * t % 256) (P b z o g)) → asl2 t (P b false o false) K := fun b hb => by
    unfold asl2
    refine cond_t (small_i h0 (by omega)) ?_
    rw [e2]
    unfold nzt
    refine cond_b (fun _ => ?_) (fun _ => ?_)
    · rw [bA128 (by omega) (by omega)]
      generalize decide (128 ≤ 2 * t % 256) = d
      have : bO (P b false o false) (cond d 128 0) = P b false o d := by clear hb h; revert b o d; decide +kernel
      rw [this]; exact hb _ _
    · have : bO (P b false o false) 2 = P b true o false := by clear hb h; revert b o; decide +kernel
      rw [this]; exact hb _ _
  unfold aslC
  rw [bA128 h0 h1]
  cases hd : decide (128 ≤ t) with
  | true =>
    rw [hd] at h
    have : bO (bA (P c z o g) (bN (bO (bO 1 128) 2))) 1 = P true false o false := by clear key h; revert c z o g; decide +kernel
    rw [this]
    exact key true h
  | false =>
    rw [hd] at h
    have : bA (P c z o g) (bN (bO (bO 1 128) 2)) = P false false o false := by clear key h; revert c z o g; decide +kernel
    rw [this]
    exact key false h
theorem rol_i {t : Int} {c z o g : Bool} {K : Int → Int → Prop} (h0 : 0 ≤ t) (h1 : t < 256) (h : ∀ z g, K ((2 * t + ci c) % 256) (P (decide (128 ≤ t)) z o g)) : rolC t (P c z o g) K := by
  have hs : small t = true := small_i h0 (by omega)
  have key : ∀ b u, bA u 255 = (2 * t + ci c) % 256 → (∀ z g, K ((2 * t + ci c) % 256) (P b z o g)) → rol2 u (P b z o g) K := fun b u hu hb => by
    unfold rol2
    rw [hu]
    exact nz_i (by omega) (by omega) (hb _ _)
  unfold rolC
  rw [bA128 h0 h1]
  have p1 : bA (P c z o g) 1 = ci c := by clear key h; revert c z o g; decide +kernel
  rw [p1]
  cases c with
  | true =>
    refine cond_t rfl ?_
    have hu : bA (bO (t * 2 ^ (1 : Int).toNat) 1) 255 = (2 * t + ci true) % 256 := by
      rw [bO1 h0 h1, bA8]; show (t * 2 + 1) % 256 = (2 * t + 1) % 256; rw [Int.mul_comm]
    cases hd : decide (128 ≤ t) with
    | true => rw [hd] at h; exact cond_t rfl (cond_t hs (key true _ hu h))
    | false =>
      rw [hd] at h
      refine cond_f rfl (cond_t hs ?_)
      have : bA (P true z o g) (bN 1) = P false z o g := by clear key h; revert z o g; decide +kernel
      rw [this]; exact key false _ hu h
  | false =>
    refine cond_f rfl ?_
    have hu : bA (t * 2 ^ (1 : Int).toNat) 255 = (2 * t + ci false) % 256 := by
      rw [bA8]; show (t * 2) % 256 = (2 * t + 0) % 256; rw [Int.mul_comm, Int.add_zero]
    cases hd : decide (128 ≤ t) with
    | true =>
      rw [hd] at h
      refine cond_t rfl (cond_t hs ?_)
      have : bO (P false z o g) 1 = P true z o g := by clear key h; revert z o g; decide +kernel
      rw [this]; exact key true _ hu h
    | false => rw [hd] at h; exact cond_f rfl (cond_t hs (key false _ hu h))
theorem fdiv2 {t : Int} (h0 : 0 ≤ t) : t.fdiv (2 ^ (1 : Int).toNat) = t / 2 := Int.fdiv_eq_ediv_of_nonneg _ (by decide)
theorem lsr_i {t : Int} {c z o g : Bool} {K : Int → Int → Prop} (h0 : 0 ≤ t) (h : ∀ c z g, K (t / 2) (P c z o g)) : lsrC t (P c z o g) K := by
  unfold lsrC
  rw [fdiv2 h0, show bA t 1 = _ from bitAnd_m1 t]
  have hb : ∃ b, t % 2 = ci b := by
    rcases Int.emod_two_eq t with e | e
    · exact ⟨false, e⟩
    · exact ⟨true, e⟩
  obtain ⟨b, hb⟩ := hb
  rw [hb]
  have e1 : bO (bA (P c z o g) (bN (bO (bO 1 128) 2))) (ci b) = P b false o false := by clear h hb; revert c z o g b; decide +kernel
  rw [e1]
  refine cond_b (fun _ => h _ _ _) (fun _ => ?_)
  have e2 : bO (P b false o false) 2 = P b true o false := by clear h hb e1; revert o b; decide +kernel
  rw [e2]
  exact h _ _ _
theorem cpx_i {x : Int} {c z o g : Bool} {K : Int → Prop} (h0 : 0 ≤ x) (h1 : x < 128) (h : K (P true (decide (x = 0)) o false)) : cmpC x 0 (P c z o g) K := by
  unfold cmpC
  rw [Int.sub_zero, bA128 h0 (by omega), decide_eq_false (show ¬ 128 ≤ x by omega)]
  refine cond_b (fun e => ?_) (fun e => ?_)
  · rw [e] at h
    have : bO (bO (bA (P c z o g) (bN (bO (bO 1 2) 128))) (bO 1 2)) (cond false 128 0) = P true true o false := by clear h; revert c z o g; decide +kernel
    rw [this]; exact h
  · rw [e] at h
    refine cond_t (decide_eq_true (by have := of_decide_eq_false e; omega)) ?_
    have : bO (bO (bA (P c z o g) (bN (bO (bO 1 2) 128))) 1) (cond false 128 0) = P true false o false := by clear h; revert c z o g; decide +kernel
    rw [this]; exact h
/-- two digits in an octet -/
noncomputable def bcd (k : Int) : Int := 16 * (k / 10) + k % 10
theorem fdiv16 {t : Int} : t.fdiv (2 ^ (4 : Int).toNat) = t / 16 := Int.fdiv_eq_ediv_of_nonneg _ (by decide)
theorem adcV_i {d a alu n0 n1 : Int} {b z g : Bool} {K : Int → Int → Prop} (h0 : 0 ≤ n1) (h1 : n1 < 16) (h : ∀ z o g, K (n1 * 16 + n0) (P b z o g)) : adcV d a (P b z false g) alu n0 n1 K := by
  unfold adcV
  refine cond_b (fun _ => cond_t (small_i h0 (by omega)) ?_) (fun _ => cond_t (small_i h0 (by omega)) (h _ _ _))
  have : bO (P b z false g) 64 = P b z true g := by clear h; revert b z g; decide +kernel
  rw [this]; exact h _ _ _
theorem adcZ_i {d a alu n0 n1 : Int} {b : Bool} {K : Int → Int → Prop} (g0 : 0 ≤ alu) (g1 : alu < 256) (h0 : 0 ≤ n1) (h1 : n1 < 16) (h : ∀ z o g, K (n1 * 16 + n0) (P b z o g)) : adcZ d a 56 alu n0 n1 (ci b) K := by
  have key : ∀ z g, adcF d a (P false z false g) alu n0 n1 (ci b) K := fun z g => by
    unfold adcF
    cases b with
    | true =>
      refine cond_t rfl ?_
      have : bO (P false z false g) 1 = P true z false g := by clear h; revert z g; decide +kernel
      rw [this]; exact adcV_i h0 h1 h
    | false => exact cond_f rfl (adcV_i h0 h1 h)
  unfold adcZ
  refine cond_b (fun _ => key true false) (fun _ => ?_)
  rw [bA128 g0 g1]
  cases decide (128 ≤ alu) with
  | true => exact key false true
  | false => exact key false false
theorem adc_i {A D : Int} {c z o g : Bool} {K : Int → Int → Prop} (a0 : 0 ≤ A) (a1 : A < 100) (d0 : 0 ≤ D) (d1 : D < 100) (h : ∀ z o g, K (bcd ((A + D + ci c) % 100)) (P (decide (100 ≤ A + D + ci c)) z o g)) : adcC (bcd D) (bcd A) (P c z o g) K := by
  have p8 : bA (P c z o g) 8 = 8 := by clear h; revert c z o g; decide +kernel
  have p1 : bA (P c z o g) 1 = ci c := by clear h; revert c z o g; decide +kernel
  have pm : bA (P c z o g) (bN (bO (bO (bO 1 64) 128) 2)) = 56 := by clear h; revert c z o g; decide +kernel
  have hc : 0 ≤ ci c ∧ ci c ≤ 1 := by cases c <;> decide
  unfold adcC
  rw [p8, p1]
  refine cond_t rfl ?_
  have e : ∀ X : Int, 0 ≤ X → X < 100 → bA (bcd X) 15 = X % 10 ∧ bA ((bcd X).fdiv (2 ^ (4 : Int).toNat)) 15 = X / 10 := fun X x0 x1 => by
    rw [fdiv16, show bA (bcd X) 15 = _ from bitAnd_m4 _, show bA (bcd X / 16) 15 = _ from bitAnd_m4 _]
    unfold bcd
    omega
  rw [(e D d0 d1).1, (e A a0 a1).1]
  have e15 : ∀ X : Int, bA X 15 = X % 16 := bitAnd_m4
  have last : ∀ (n0 n1 j0 j1 r0 r1 : Int) (b : Bool), (n0 % 16 + j0) % 16 = r0 → (n1 % 16 + j1) % 16 = r1 → (A + D + ci c) % 100 = 10 * r1 + r0 → 0 ≤ r0 → r0 ≤ 9 → 0 ≤ r1 → decide (100 ≤ A + D + ci c) = b → adcN (bcd D) (bcd A) (P c z o g) n0 n1 j0 j1 (ci b) K := fun n0 n1 j0 j1 r0 r1 b e0 e1 e3 l0 l1 l2 e2 => by
    unfold adcN
    rw [pm, e15, e15, e15, e15, e0, e1]
    refine cond_t (small_i (by omega) (by omega)) (adcZ_i ?_ ?_ (by omega) (by omega) fun z o g => ?_)
    · show 0 ≤ n1 % 16 * 16 + n0 % 16; omega
    · show n1 % 16 * 16 + n0 % 16 < 256; omega
    · have := h z o g
      rw [e2, e3, show bcd (10 * r1 + r0) = r1 * 16 + r0 by unfold bcd; omega] at this
      exact this
  unfold adcD
  refine cond_b (fun c1 => ?_) (fun c1 => ?_)
  · have c1 := of_decide_eq_true c1
    rw [(e D d0 d1).2, (e A a0 a1).2]
    unfold adcH
    refine cond_b (fun c2 => ?_) (fun c2 => ?_)
    · have c2 := of_decide_eq_true c2
      exact last _ _ _ _ (D % 10 + A % 10 + ci c - 10) (D / 10 + A / 10 + 1 - 10) true (by omega) (by omega) (by omega) (by omega) (by omega) (by omega) (decide_eq_true (by omega))
    · have c2 := of_decide_eq_false c2
      exact last _ _ _ _ (D % 10 + A % 10 + ci c - 10) (D / 10 + A / 10 + 1) false (by omega) (by omega) (by omega) (by omega) (by omega) (by omega) (decide_eq_false (by omega))
  · have c1 := of_decide_eq_false c1
    rw [(e D d0 d1).2, (e A a0 a1).2]
    unfold adcH
    refine cond_b (fun c2 => ?_) (fun c2 => ?_)
    · have c2 := of_decide_eq_true c2
      exact last _ _ _ _ (D % 10 + A % 10 + ci c) (D / 10 + A / 10 - 10) true (by omega) (by omega) (by omega) (by omega) (by omega) (by omega) (decide_eq_true (by omega))
    · have c2 := of_decide_eq_false c2
      exact last _ _ _ _ (D % 10 + A % 10 + ci c) (D / 10 + A / 10) false (by omega) (by omega) (by omega) (by omega) (by omega) (by omega) (decide_eq_false (by omega))
end Mine
end
section
set_option Elab.async false
set_option maxRecDepth 100000
set_option linter.unusedVariables false
open PySem PySem.W PyProof.Rows PySem.Claim2Try PySem.Pin
namespace Mine
open PySem.Challenge
noncomputable abbrev Rt := Nat → (Nat → Int) → Int → Int → Int → Int → Int → Int → Prop
/-- what a turn of the loop gives -/
noncomputable def Steps (n : Nat) (scr : Nat → Int) (o : Nat → AObj) (R : Rt) : Prop := ∀ k f a x y sp p pc, pc ≠ 550 →
  (∀ cyc exc ac (K : KV), (∀ f a x y sp p pc cyc exc ac, R k f a x y sp p pc → K (.loc 19) (hp o 768 f (regs 3 512 a x y sp p pc cyc exc ac))) → gd pc 768 (stepOf (g12 n scr) 95 19 (f pc.toNat) (hp o 768 f (regs 3 512 a x y sp p pc cyc exc ac)) K)) → R (k + 1) f a x y sp p pc
theorem beq_ne {i j : Nat} (h : i ≠ j) : Nat.beq i j = false := by
  cases e : Nat.beq i j with
  | false => rfl
  | true => exact absurd (Nat.eq_of_beq_eq_true e) h
section
variable {n : Nat} {scr : Nat → Int} {ob : Nat → AObj} {R : Rt} {k : Nat} {f : Nat → Int} {a x y sp p pc v j : Int} {c z o g : Bool}
theorem i248 (S : Steps n scr ob R) (pc : Int) (h0 : 0 ≤ pc) (h1 : pc < 700) (hne : pc ≠ 550) (ho : f pc.toNat = 248) (h : R k f a x y sp (bO p 8) (pc + 1)) : R (k + 1) f a x y sp p pc := by
  refine S _ _ _ _ _ _ _ _ hne fun cyc exc ac K hK => gd_i h0 (by omega) ?_
  rw [ho, op248, nx_eq h0 (by omega)]
  exact fi_i (by omega) (by omega) (hK _ _ _ _ _ _ _ _ _ _ h)
theorem i24 (S : Steps n scr ob R) (pc : Int) (h0 : 0 ≤ pc) (h1 : pc < 700) (hne : pc ≠ 550) (ho : f pc.toNat = 24) (h : R k f a x y sp (P false z o g) (pc + 1)) : R (k + 1) f a x y sp (P c z o g) pc := by
  refine S _ _ _ _ _ _ _ _ hne fun cyc exc ac K hK => gd_i h0 (by omega) ?_
  rw [ho, op24, nx_eq h0 (by omega)]
  have e : bA (P c z o g) (bN 1) = P false z o g := by clear h; revert c z o g; decide +kernel
  rw [e]
  exact fi_i (by omega) (by omega) (hK _ _ _ _ _ _ _ _ _ _ h)
theorem i169 (S : Steps n scr ob R) (pc : Int) (h0 : 0 ≤ pc) (h1 : pc < 700) (hne : pc ≠ 550) (ho : f pc.toNat = 169) (hv : f (pc + 1).toNat = v) (b0 : 0 ≤ v) (b1 : v < 256) (h : R k f v x y sp (P c (decide (v = 0)) o (decide (128 ≤ v))) (pc + 1 + 1)) : R (k + 1) f a x y sp (P c z o g) pc := by
  refine S _ _ _ _ _ _ _ _ hne fun cyc exc ac K hK => gd_i h0 (by omega) ?_
  rw [ho, op169, nx_eq h0 (by omega), hv]
  exact gd_i (by omega) (by omega) (nz_i b0 b1 (fi_i (by omega) (by omega) (hK _ _ _ _ _ _ _ _ _ _ h)))
theorem i160 (S : Steps n scr ob R) (pc : Int) (h0 : 0 ≤ pc) (h1 : pc < 700) (hne : pc ≠ 550) (ho : f pc.toNat = 160) (hv : f (pc + 1).toNat = v) (b0 : 0 ≤ v) (b1 : v < 256) (h : R k f a x v sp (P c (decide (v = 0)) o (decide (128 ≤ v))) (pc + 1 + 1)) : R (k + 1) f a x y sp (P c z o g) pc := by
  refine S _ _ _ _ _ _ _ _ hne fun cyc exc ac K hK => gd_i h0 (by omega) ?_
  rw [ho, op160, nx_eq h0 (by omega), hv]
  exact gd_i (by omega) (by omega) (nz_i b0 b1 (fi_i (by omega) (by omega) (hK _ _ _ _ _ _ _ _ _ _ h)))
theorem i165 (S : Steps n scr ob R) (pc : Int) (h0 : 0 ≤ pc) (h1 : pc < 700) (hne : pc ≠ 550) (ho : f pc.toNat = 165) (hj : f (pc + 1).toNat = j) (j0 : 0 ≤ j) (j1 : j < 256) (hv : f j.toNat = v) (b0 : 0 ≤ v) (b1 : v < 256) (h : R k f v x y sp (P c (decide (v = 0)) o (decide (128 ≤ v))) (pc + 1 + 1)) : R (k + 1) f a x y sp (P c z o g) pc := by
  refine S _ _ _ _ _ _ _ _ hne fun cyc exc ac K hK => gd_i h0 (by omega) ?_
  rw [ho, op165, nx_eq h0 (by omega), hj, hv]
  exact gd_i (by omega) (by omega) (gd_i (by omega) (by omega) (nz_i b0 b1 (fi_i (by omega) (by omega) (hK _ _ _ _ _ _ _ _ _ _ h))))
theorem i133 (S : Steps n scr ob R) (pc : Int) (h0 : 0 ≤ pc) (h1 : pc < 700) (hne : pc ≠ 550) (ho : f pc.toNat = 133) (hj : f (pc + 1).toNat = j) (j0 : 0 ≤ j) (j1 : j < 256) (h : R k (setF f j.toNat a) a x y sp p (pc + 1 + 1)) : R (k + 1) f a x y sp p pc := by
  refine S _ _ _ _ _ _ _ _ hne fun cyc exc ac K hK => gd_i h0 (by omega) ?_
  rw [ho, op133, nx_eq h0 (by omega), hj]
  exact gd_i (by omega) (by omega) (gd_i (by omega) (by omega) (fi_i (by omega) (by omega) (hK _ _ _ _ _ _ _ _ _ _ h)))
theorem i74 (S : Steps n scr ob R) (pc : Int) (h0 : 0 ≤ pc) (h1 : pc < 700) (hne : pc ≠ 550) (ho : f pc.toNat = 74) (a0 : 0 ≤ a) (h : ∀ c z g, R k f (a / 2) x y sp (P c z o g) (pc + 1)) : R (k + 1) f a x y sp (P c z o g) pc := by
  refine S _ _ _ _ _ _ _ _ hne fun cyc exc ac K hK => gd_i h0 (by omega) ?_
  rw [ho, op74, nx_eq h0 (by omega)]
  exact lsr_i a0 fun _ _ _ => fi_i (by omega) (by omega) (hK _ _ _ _ _ _ _ _ _ _ (h _ _ _))
theorem i170 (S : Steps n scr ob R) (pc : Int) (h0 : 0 ≤ pc) (h1 : pc < 700) (hne : pc ≠ 550) (ho : f pc.toNat = 170) (a0 : 0 ≤ a) (a1 : a < 256) (h : R k f a a y sp (P c (decide (a = 0)) o (decide (128 ≤ a))) (pc + 1)) : R (k + 1) f a x y sp (P c z o g) pc := by
  refine S _ _ _ _ _ _ _ _ hne fun cyc exc ac K hK => gd_i h0 (by omega) ?_
  rw [ho, op170, nx_eq h0 (by omega)]
  exact nz_i a0 a1 (fi_i (by omega) (by omega) (hK _ _ _ _ _ _ _ _ _ _ h))
theorem i136 (S : Steps n scr ob R) (pc : Int) (h0 : 0 ≤ pc) (h1 : pc < 700) (hne : pc ≠ 550) (ho : f pc.toNat = 136) (y0 : 0 ≤ y) (y1 : y < 100) (h : R k f a x y sp (P c (decide (y = 0)) o false) (pc + 1)) : R (k + 1) f a x (y + 1) sp (P c z o g) pc := by
  refine S _ _ _ _ _ _ _ _ hne fun cyc exc ac K hK => gd_i h0 (by omega) ?_
  rw [ho, op136, nx_eq h0 (by omega), bA8, show (y + 1 - 1) % 256 = y by omega]
  refine nz_i y0 (by omega) (fi_i (by omega) (by omega) (hK _ _ _ _ _ _ _ _ _ _ ?_))
  rw [decide_eq_false (show ¬ 128 ≤ y by omega)]; exact h
theorem i202 (S : Steps n scr ob R) (pc : Int) (h0 : 0 ≤ pc) (h1 : pc < 700) (hne : pc ≠ 550) (ho : f pc.toNat = 202) (x0 : 0 ≤ x) (x1 : x < 100) (h : R k f a x y sp (P c (decide (x = 0)) o false) (pc + 1)) : R (k + 1) f a (x + 1) y sp (P c z o g) pc := by
  refine S _ _ _ _ _ _ _ _ hne fun cyc exc ac K hK => gd_i h0 (by omega) ?_
  rw [ho, op202, nx_eq h0 (by omega), bA8, show (x + 1 - 1) % 256 = x by omega]
  refine nz_i x0 (by omega) (fi_i (by omega) (by omega) (hK _ _ _ _ _ _ _ _ _ _ ?_))
  rw [decide_eq_false (show ¬ 128 ≤ x by omega)]; exact h
theorem i41 (S : Steps n scr ob R) (pc : Int) (h0 : 0 ≤ pc) (h1 : pc < 700) (hne : pc ≠ 550) (ho : f pc.toNat = 41) (hv : f (pc + 1).toNat = 15) (h : ∀ z g, R k f (a % 16) x y sp (P c z o g) (pc + 1 + 1)) : R (k + 1) f a x y sp (P c z o g) pc := by
  refine S _ _ _ _ _ _ _ _ hne fun cyc exc ac K hK => gd_i h0 (by omega) ?_
  rw [ho, op41, nx_eq h0 (by omega), hv, show bA a 15 = _ from bitAnd_m4 a]
  exact gd_i (by omega) (by omega) (nz_i (by omega) (by omega) (fi_i (by omega) (by omega) (hK _ _ _ _ _ _ _ _ _ _ (h _ _))))
theorem i224 (S : Steps n scr ob R) (pc : Int) (h0 : 0 ≤ pc) (h1 : pc < 700) (hne : pc ≠ 550) (ho : f pc.toNat = 224) (hv : f (pc + 1).toNat = 0) (x0 : 0 ≤ x) (x1 : x < 128) (h : R k f a x y sp (P true (decide (x = 0)) o false) (pc + 1 + 1)) : R (k + 1) f a x y sp (P c z o g) pc := by
  refine S _ _ _ _ _ _ _ _ hne fun cyc exc ac K hK => gd_i h0 (by omega) ?_
  rw [ho, op224, nx_eq h0 (by omega), hv]
  exact gd_i (by omega) (by omega) (cpx_i x0 x1 (fi_i (by omega) (by omega) (hK _ _ _ _ _ _ _ _ _ _ h)))
theorem i6 (S : Steps n scr ob R) (pc : Int) (h0 : 0 ≤ pc) (h1 : pc < 700) (hne : pc ≠ 550) (ho : f pc.toNat = 6) (hj : f (pc + 1).toNat = j) (j0 : 0 ≤ j) (j1 : j < 256) (hv : f j.toNat = v) (b0 : 0 ≤ v) (b1 : v < 256) (h : ∀ z g, R k (setF f j.toNat (2 * v % 256)) a x y sp (P (decide (128 ≤ v)) z o g) (pc + 1 + 1)) : R (k + 1) f a x y sp (P c z o g) pc := by
  refine S _ _ _ _ _ _ _ _ hne fun cyc exc ac K hK => gd_i h0 (by omega) ?_
  rw [ho, op6, nx_eq h0 (by omega), hj, hv]
  exact gd_i (by omega) (by omega) (gd_i (by omega) (by omega) (asl_i b0 b1 fun _ _ => gd_i (by omega) (by omega) (fi_i (by omega) (by omega) (hK _ _ _ _ _ _ _ _ _ _ (h _ _)))))
theorem i38 (S : Steps n scr ob R) (pc : Int) (h0 : 0 ≤ pc) (h1 : pc < 700) (hne : pc ≠ 550) (ho : f pc.toNat = 38) (hj : f (pc + 1).toNat = j) (j0 : 0 ≤ j) (j1 : j < 256) (hv : f j.toNat = v) (b0 : 0 ≤ v) (b1 : v < 256) (h : ∀ z g, R k (setF f j.toNat ((2 * v + ci c) % 256)) a x y sp (P (decide (128 ≤ v)) z o g) (pc + 1 + 1)) : R (k + 1) f a x y sp (P c z o g) pc := by
  refine S _ _ _ _ _ _ _ _ hne fun cyc exc ac K hK => gd_i h0 (by omega) ?_
  rw [ho, op38, nx_eq h0 (by omega), hj, hv]
  exact gd_i (by omega) (by omega) (gd_i (by omega) (by omega) (rol_i b0 b1 fun _ _ => gd_i (by omega) (by omega) (fi_i (by omega) (by omega) (hK _ _ _ _ _ _ _ _ _ _ (h _ _)))))
theorem i101 {A D : Int} (S : Steps n scr ob R) (pc : Int) (h0 : 0 ≤ pc) (h1 : pc < 700) (hne : pc ≠ 550) (ho : f pc.toNat = 101) (hj : f (pc + 1).toNat = j) (j0 : 0 ≤ j) (j1 : j < 256) (hv : f j.toNat = bcd D) (a0 : 0 ≤ A) (a1 : A < 100) (d0 : 0 ≤ D) (d1 : D < 100) (h : ∀ z o g, R k f (bcd ((A + D + ci c) % 100)) x y sp (P (decide (100 ≤ A + D + ci c)) z o g) (pc + 1 + 1)) : R (k + 1) f (bcd A) x y sp (P c z o g) pc := by
  refine S _ _ _ _ _ _ _ _ hne fun cyc exc ac K hK => gd_i h0 (by omega) ?_
  rw [ho, op101, nx_eq h0 (by omega), hj, hv]
  exact gd_i (by omega) (by omega) (gd_i (by omega) (by omega) (adc_i a0 a1 d0 d1 fun _ _ _ => fi_i (by omega) (by omega) (hK _ _ _ _ _ _ _ _ _ _ (h _ _ _))))
theorem i105 {A D : Int} (S : Steps n scr ob R) (pc : Int) (h0 : 0 ≤ pc) (h1 : pc < 700) (hne : pc ≠ 550) (ho : f pc.toNat = 105) (hv : f (pc + 1).toNat = bcd D) (a0 : 0 ≤ A) (a1 : A < 100) (d0 : 0 ≤ D) (d1 : D < 100) (h : ∀ z o g, R k f (bcd ((A + D + ci c) % 100)) x y sp (P (decide (100 ≤ A + D + ci c)) z o g) (pc + 1 + 1)) : R (k + 1) f (bcd A) x y sp (P c z o g) pc := by
  refine S _ _ _ _ _ _ _ _ hne fun cyc exc ac K hK => gd_i h0 (by omega) ?_
  rw [ho, op105, nx_eq h0 (by omega), hv]
  exact gd_i (by omega) (by omega) (adc_i a0 a1 d0 d1 fun _ _ _ => fi_i (by omega) (by omega) (hK _ _ _ _ _ _ _ _ _ _ (h _ _ _)))
theorem pZ : bA (P c z o g) 2 = cond z 2 0 := by revert c z o g; decide +kernel
theorem brn_i {q t : Int} {K : Int → Int → Prop} (q0 : 0 ≤ q) (q1 : q < 700) (hv : f q.toNat = v) (b0 : 0 ≤ v) (b1 : v < 256) (ht : t = cond (decide (128 ≤ v)) (q + 1 + v - 256) (q + 1 + v)) (t0 : 0 ≤ t) (t1 : t < 65536) (hX : bX v 255 = 255 - v) (h : ∀ e, K t e) : brn f 768 q K := by
  unfold brn
  refine gd_i q0 (by omega) ?_
  rw [hv, bA128 b0 b1]
  have e : ∀ q u, u = t → brn2 q u K := fun q u hu => by
    subst hu
    unfold brn2
    rw [show bA u 65535 = u by rw [show bA u 65535 = _ from bitAnd_m16 u]; omega]
    exact cond_b (fun _ => h _) (fun _ => h _)
  cases hd : decide (128 ≤ v) with
  | true =>
    refine cond_t rfl (e _ _ ?_)
    rw [ht, hd, hX]
    show q + 1 - (255 - v) - 1 = q + 1 + v - 256
    omega
  | false =>
    refine cond_f rfl (e _ _ ?_)
    rw [ht, hd]
    rfl
theorem i208t (S : Steps n scr ob R) (pc t : Int) (h0 : 0 ≤ pc) (h1 : pc < 600) (hne : pc ≠ 550) (ho : f pc.toNat = 208) (hv : f (pc + 1).toNat = v) (b0 : 0 ≤ v) (b1 : v < 256) (ht : t = cond (decide (128 ≤ v)) (pc + 1 + 1 + v - 256) (pc + 1 + 1 + v)) (t0 : 0 ≤ t) (t1 : t < 65536) (hX : bX v 255 = 255 - v) (h : R k f a x y sp (P c false o g) t) : R (k + 1) f a x y sp (P c false o g) pc := by
  refine S _ _ _ _ _ _ _ _ hne fun cyc exc ac K hK => gd_i h0 (by omega) ?_
  rw [ho, op208, nx_eq h0 (by omega), pZ]
  exact cond_f rfl (brn_i (by omega) (by omega) hv b0 b1 ht t0 t1 hX fun e => fi_i t0 t1 (hK _ _ _ _ _ _ _ _ _ _ h))
theorem i208f (S : Steps n scr ob R) (pc : Int) (h0 : 0 ≤ pc) (h1 : pc < 600) (hne : pc ≠ 550) (ho : f pc.toNat = 208) (h : R k f a x y sp (P c true o g) (pc + 1 + 1)) : R (k + 1) f a x y sp (P c true o g) pc := by
  refine S _ _ _ _ _ _ _ _ hne fun cyc exc ac K hK => gd_i h0 (by omega) ?_
  rw [ho, op208, nx_eq h0 (by omega), pZ]
  exact cond_t rfl (fi_i (by omega) (by omega) (hK _ _ _ _ _ _ _ _ _ _ h))
theorem i240t (S : Steps n scr ob R) (pc t : Int) (h0 : 0 ≤ pc) (h1 : pc < 600) (hne : pc ≠ 550) (ho : f pc.toNat = 240) (hv : f (pc + 1).toNat = v) (b0 : 0 ≤ v) (b1 : v < 256) (ht : t = cond (decide (128 ≤ v)) (pc + 1 + 1 + v - 256) (pc + 1 + 1 + v)) (t0 : 0 ≤ t) (t1 : t < 65536) (hX : bX v 255 = 255 - v) (h : R k f a x y sp (P c true o g) t) : R (k + 1) f a x y sp (P c true o g) pc := by
  refine S _ _ _ _ _ _ _ _ hne fun cyc exc ac K hK => gd_i h0 (by omega) ?_
  rw [ho, op240, nx_eq h0 (by omega), pZ]
  exact cond_t rfl (brn_i (by omega) (by omega) hv b0 b1 ht t0 t1 hX fun e => fi_i t0 t1 (hK _ _ _ _ _ _ _ _ _ _ h))
theorem i240f (S : Steps n scr ob R) (pc : Int) (h0 : 0 ≤ pc) (h1 : pc < 600) (hne : pc ≠ 550) (ho : f pc.toNat = 240) (h : R k f a x y sp (P c false o g) (pc + 1 + 1)) : R (k + 1) f a x y sp (P c false o g) pc := by
  refine S _ _ _ _ _ _ _ _ hne fun cyc exc ac K hK => gd_i h0 (by omega) ?_
  rw [ho, op240, nx_eq h0 (by omega), pZ]
  exact cond_f rfl (fi_i (by omega) (by omega) (hK _ _ _ _ _ _ _ _ _ _ h))
theorem i32 {h2 l2 : Int} (S : Steps n scr ob R) (pc : Int) (h0 : 512 ≤ pc) (h1 : pc < 600) (hne : pc ≠ 550) (ho : f pc.toNat = 32) (e1 : f (pc + 1).toNat = 40) (e2 : f (pc + 1 + 1).toNat = 2) (hh : (pc + 2) / 256 = h2) (hl : (pc + 2) % 256 = l2) (h : R k (setF (setF f 511 h2) 510 l2) a x y 253 p 552) : R (k + 1) f a x y 255 p pc := by
  refine S _ _ _ _ _ _ _ _ hne fun cyc exc ac K hK => gd_i (by omega) (by omega) ?_
  rw [ho, op32, nx_eq (by omega) (by omega)]
  have z1 : bA (pc + 1 + 1) 65535 = pc + 2 := by rw [show bA (pc + 1 + 1) 65535 = _ from bitAnd_m16 _]; omega
  have z2 : (pc + 2).fdiv (2 ^ (8 : Int).toNat) = (pc + 2) / 256 := Int.fdiv_eq_ediv_of_nonneg _ (by decide)
  have z3 : bA (bA ((pc + 2) / 256) 255) 255 = h2 := by rw [bA8, bA8]; omega
  have z4 : bA (bA (pc + 2) 255) 255 = l2 := by rw [bA8, bA8]; omega
  rw [z1, z2, z3, z4]
  refine gd_i (by decide) (by decide) (gd_i (by decide +kernel) (by decide +kernel) ?_)
  unfold jsrC
  have q1 : setF (setF f (255 + 256 : Int).toNat h2) (bA (255 - 1) 255 + 256).toNat l2 = setF (setF f 511 h2) 510 l2 := rfl
  rw [q1]
  have r1 : ∀ i : Int, 512 ≤ i → setF (setF f 511 h2) 510 l2 i.toNat = f i.toNat := fun i hi => by
    unfold setF
    have b1 : Nat.beq i.toNat 510 = false := beq_ne (by omega)
    have b2 : Nat.beq i.toNat 511 = false := beq_ne (by omega)
    rw [b1, b2]; rfl
  rw [r1 _ (by omega), r1 _ (by omega), e1, e2]
  refine gd_i (by omega) (by omega) (gd_i (by omega) (by omega) (cond_t (by decide +kernel) ?_))
  exact fi_i (by decide) (by decide) (hK _ _ _ _ _ _ _ _ _ _ h)
theorem i96 {h2 l2 t : Int} (S : Steps n scr ob R) (pc : Int) (h0 : 0 ≤ pc) (h1 : pc < 700) (hne : pc ≠ 550) (ho : f pc.toNat = 96) (e1 : f 510 = l2) (e2 : f 511 = h2) (b0 : 0 ≤ h2) (b1 : h2 < 4) (b2 : 0 ≤ l2) (b3 : l2 < 256) (ht : t = l2 + h2 * 256 + 1) (h : R k f a x y 255 p t) : R (k + 1) f a x y 253 p pc := by
  refine S _ _ _ _ _ _ _ _ hne fun cyc exc ac K hK => gd_i (by omega) (by omega) ?_
  rw [ho, op96]
  have q1 : f (bA (253 + 1) 255 + 256).toNat = l2 := e1
  have q2 : f (bA (bA (253 + 1) 255 + 1) 255 + 256).toNat = h2 := e2
  have q3 : bA (bA (253 + 1) 255 + 1) 255 = 255 := by decide +kernel
  have q4 : bA (253 + 1) 255 = 254 := by decide +kernel
  rw [q2, q1, q3, q4]
  refine gd_i (by decide) (by decide) (gd_i (by decide) (by decide) (cond_t (small_i b0 (by omega)) ?_))
  have q5 : l2 + h2 * 2 ^ (8 : Int).toNat + 1 = t := ht.symm
  rw [q5]
  exact fi_i (by omega) (by omega) (hK _ _ _ _ _ _ _ _ _ _ h)
end
end Mine
end
section
set_option Elab.async false
set_option maxRecDepth 100000
set_option linter.unusedVariables false
open PySem PySem.W PyProof.Rows PySem.Claim2Try PySem.Pin
namespace Mine
open PySem.Challenge
/-- the memory: five cells change -/
noncomputable def mm (g : Nat → Int) (u v w s t : Int) (i : Nat) : Int := cond (Nat.beq i 19) u (cond (Nat.beq i 20) v (cond (Nat.beq i 21) w (cond (Nat.beq i 510) s (cond (Nat.beq i 511) t (g i)))))
structure Code (g : Nat → Int) : Prop where
  c512 : g 512 = 248
  c513 : g 513 = 169
  c514 : g 514 = 0
  c515 : g 515 = 133
  c516 : g 516 = 19
  c517 : g 517 = 133
  c518 : g 518 = 20
  c519 : g 519 = 133
  c520 : g 520 = 21
  c521 : g 521 = 165
  c522 : g 522 = 18
  c523 : g 523 = 74
  c524 : g 524 = 74
  c525 : g 525 = 74
  c526 : g 526 = 74
  c527 : g 527 = 170
  c528 : g 528 = 32
  c529 : g 529 = 40
  c530 : g 530 = 2
  c531 : g 531 = 160
  c532 : g 532 = 4
  c533 : g 533 = 6
  c534 : g 534 = 19
  c535 : g 535 = 38
  c536 : g 536 = 20
  c537 : g 537 = 38
  c538 : g 538 = 21
  c539 : g 539 = 136
  c540 : g 540 = 208
  c541 : g 541 = 247
  c542 : g 542 = 165
  c543 : g 543 = 18
  c544 : g 544 = 41
  c545 : g 545 = 15
  c546 : g 546 = 170
  c547 : g 547 = 32
  c548 : g 548 = 40
  c549 : g 549 = 2
  c552 : g 552 = 224
  c553 : g 553 = 0
  c554 : g 554 = 240
  c555 : g 555 = 22
  c556 : g 556 = 24
  c557 : g 557 = 165
  c558 : g 558 = 19
  c559 : g 559 = 101
  c560 : g 560 = 16
  c561 : g 561 = 133
  c562 : g 562 = 19
  c563 : g 563 = 165
  c564 : g 564 = 20
  c565 : g 565 = 101
  c566 : g 566 = 17
  c567 : g 567 = 133
  c568 : g 568 = 20
  c569 : g 569 = 165
  c570 : g 570 = 21
  c571 : g 571 = 105
  c572 : g 572 = 0
  c573 : g 573 = 133
  c574 : g 574 = 21
  c575 : g 575 = 202
  c576 : g 576 = 208
  c577 : g 577 = 234
  c578 : g 578 = 96
section
variable {g : Nat → Int} {u v w s t q : Int}
theorem mm_self : mm g (g 19) (g 20) (g 21) (g 510) (g 511) = g := by
  funext i
  unfold mm
  by_cases e : i = 19
  · subst e; rfl
  rw [beq_ne e]
  by_cases e : i = 20
  · subst e; rfl
  rw [beq_ne e]
  by_cases e : i = 21
  · subst e; rfl
  rw [beq_ne e]
  by_cases e : i = 510
  · subst e; rfl
  rw [beq_ne e]
  by_cases e : i = 511
  · subst e; rfl
  rw [beq_ne e]
  rfl
theorem mm_19 : setF (mm g u v w s t) 19 q = mm g q v w s t := by
  funext i
  unfold setF
  by_cases e : i = 19
  · subst e; rfl
  rw [beq_ne e]
  unfold mm
  rw [beq_ne e]
  rfl
theorem mm_20 : setF (mm g u v w s t) 20 q = mm g u q w s t := by
  funext i
  unfold setF
  by_cases e : i = 20
  · subst e; rfl
  rw [beq_ne e]
  unfold mm
  rw [beq_ne e]
  rfl
theorem mm_21 : setF (mm g u v w s t) 21 q = mm g u v q s t := by
  funext i
  unfold setF
  by_cases e : i = 21
  · subst e; rfl
  rw [beq_ne e]
  unfold mm
  rw [beq_ne e]
  rfl
theorem mm_510 : setF (mm g u v w s t) 510 q = mm g u v w q t := by
  funext i
  unfold setF
  by_cases e : i = 510
  · subst e; rfl
  rw [beq_ne e]
  unfold mm
  rw [beq_ne e]
  rfl
theorem mm_511 : setF (mm g u v w s t) 511 q = mm g u v w s q := by
  funext i
  unfold setF
  by_cases e : i = 511
  · subst e; rfl
  rw [beq_ne e]
  unfold mm
  rw [beq_ne e]
  rfl
end
theorem bcd_lo {k : Int} (h0 : 0 ≤ k) : 0 ≤ bcd k := by unfold bcd; omega
theorem bcd_hi {k : Int} (h0 : 0 ≤ k) (h1 : k < 100) : bcd k < 256 := by unfold bcd; omega
theorem ci_dec {e : Int} (h0 : 0 ≤ e) (h1 : e < 200) : ci (decide (100 ≤ e)) = e / 100 := by
  by_cases h : 100 ≤ e
  · rw [decide_eq_true h]; show 1 = e / 100; omega
  · rw [decide_eq_false h]; show 0 = e / 100; omega
theorem ci_128 {e : Int} (h0 : 0 ≤ e) (h1 : e < 256) : ci (decide (128 ≤ e)) = e / 128 := by
  by_cases h : 128 ≤ e
  · rw [decide_eq_true h]; show 1 = e / 128; omega
  · rw [decide_eq_false h]; show 0 = e / 128; omega
/-- the memory with the sum t in its three octets -/
noncomputable def mt (g : Nat → Int) (t s r : Int) : Nat → Int := mm g (bcd (t % 100)) (bcd (t / 100 % 100)) (bcd (t / 10000)) s r
section
variable {n : Nat} {scr : Nat → Int} {ob : Nat → AObj} {R : Rt} {k : Nat} {g : Nat → Int} {a x y sp p u v w s r t m : Int} {c z o n' : Bool}
theorem add1 (S : Steps n scr ob R) (C : Code g) (m0 : 0 ≤ m) (m1 : m < 10000) (t0 : 0 ≤ t) (t1 : t + m < 1000000) (h16 : g 16 = bcd (m % 100)) (h17 : g 17 = bcd (m / 100)) (x0 : 0 ≤ x) (x1 : x < 100)
    (h : ∀ o, R k (mt g (t + m) s r) (bcd ((t + m) / 10000)) x y sp (P false (decide (x = 0)) o false) 576) : R (k + 11) (mt g t s r) a (x + 1) y sp (P c z o n') 556 := by
  unfold mt
  refine i24 S 556 (by decide) (by decide) (by decide) C.c556 ?_
  refine i165 S 557 (by decide) (by decide) (by decide) C.c557 C.c558 (by decide) (by decide) rfl (bcd_lo (by omega)) (bcd_hi (by omega) (by omega)) ?_
  refine i101 S 559 (by decide) (by decide) (by decide) C.c559 C.c560 (by decide) (by decide) h16 (by omega) (by omega) (by omega) (by omega) fun z1 o1 g1 => ?_
  refine i133 S 561 (by decide) (by decide) (by decide) C.c561 C.c562 (by decide) (by decide) ?_
  refine i165 S 563 (by decide) (by decide) (by decide) C.c563 C.c564 (by decide) (by decide) rfl (bcd_lo (by omega)) (bcd_hi (by omega) (by omega)) ?_
  refine i101 S 565 (by decide) (by decide) (by decide) C.c565 C.c566 (by decide) (by decide) h17 (by omega) (by omega) (by omega) (by omega) fun z2 o2 g2 => ?_
  refine i133 S 567 (by decide) (by decide) (by decide) C.c567 C.c568 (by decide) (by decide) ?_
  refine i165 S 569 (by decide) (by decide) (by decide) C.c569 C.c570 (by decide) (by decide) rfl (bcd_lo (by omega)) (bcd_hi (by omega) (by omega)) ?_
  refine i105 (D := 0) S 571 (by decide) (by decide) (by decide) C.c571 C.c572 (by omega) (by omega) (by decide) (by decide) fun z3 o3 g3 => ?_
  refine i133 S 573 (by decide) (by decide) (by decide) C.c573 C.c574 (by decide) (by decide) ?_
  refine i202 S 575 (by decide) (by decide) (by decide) C.c575 x0 x1 ?_
  have e1 : ci false = 0 := rfl
  have b1 : 0 ≤ t % 100 + m % 100 + 0 ∧ t % 100 + m % 100 + 0 < 200 := by omega
  have d1 : ci (decide (100 ≤ t % 100 + m % 100 + ci false)) = (t % 100 + m % 100 + 0) / 100 := ci_dec b1.1 b1.2
  rw [d1, e1]
  have b2 : 0 ≤ t / 100 % 100 + m / 100 + (t % 100 + m % 100 + 0) / 100 ∧ t / 100 % 100 + m / 100 + (t % 100 + m % 100 + 0) / 100 < 200 := by omega
  rw [ci_dec b2.1 b2.2]
  have r1 : (t % 100 + m % 100 + 0) % 100 = (t + m) % 100 := by omega
  have r2 : (t / 100 % 100 + m / 100 + (t % 100 + m % 100 + 0) / 100) % 100 = (t + m) / 100 % 100 := by omega
  have r3 : t / 10000 + 0 + (t / 100 % 100 + m / 100 + (t % 100 + m % 100 + 0) / 100) / 100 = (t + m) / 10000 := by omega
  have r4 : (t + m) / 10000 % 100 = (t + m) / 10000 := by omega
  rw [r1, r2, r3, r4, decide_eq_false (show ¬ 100 ≤ (t + m) / 10000 by omega)]
  have hh := h o3
  unfold mt at hh
  rw [show setF (setF (setF (mm g (bcd (t % 100)) (bcd (t / 100 % 100)) (bcd (t / 10000)) s r) (Int.toNat 19) (bcd ((t + m) % 100))) (Int.toNat 20) (bcd ((t + m) / 100 % 100))) (Int.toNat 21) (bcd ((t + m) / 10000)) = _ from by
    show setF (setF (setF (mm g (bcd (t % 100)) (bcd (t / 100 % 100)) (bcd (t / 10000)) s r) 19 (bcd ((t + m) % 100))) 20 (bcd ((t + m) / 100 % 100))) 21 (bcd ((t + m) / 10000)) = _
    rw [mm_19, mm_20, mm_21]]
  exact hh
end
end Mine
end
section
set_option Elab.async false
set_option maxRecDepth 100000
set_option linter.unusedVariables false
open PySem PySem.W PyProof.Rows PySem.Claim2Try PySem.Pin
namespace Mine
open PySem.Challenge
/-- three octets as one number -/
noncomputable def NB (t : Int) : Int := bcd (t % 100) + 256 * bcd (t / 100 % 100) + 65536 * bcd (t / 10000)
noncomputable def NC (t : Int) : Int := t + 6 * (t / 10) + 96 * (t / 10 / 10) + 1536 * (t / 10 / 10 / 10) + 24576 * (t / 10 / 10 / 10 / 10) + 393216 * (t / 10 / 10 / 10 / 10 / 10)
theorem bcd6 (k : Int) : bcd k = k + 6 * (k / 10) := by unfold bcd; omega
theorem NB_eq (t : Int) : NB t = NC t := by
  unfold NB NC
  rw [bcd6, bcd6, bcd6]
  omega
theorem NB10 {t : Int} (t0 : 0 ≤ t) (t1 : t < 100000) : NB (10 * t) = 2 * (2 * (2 * (2 * NB t))) := by
  rw [NB_eq, NB_eq]
  unfold NC
  rw [Int.mul_ediv_cancel_left t (by decide : (10 : Int) ≠ 0)]
  omega
theorem dig {u v w : Int} (u0 : 0 ≤ u) (u1 : u < 256) (v0 : 0 ≤ v) (v1 : v < 256) (w0 : 0 ≤ w) (w1 : w < 256) : (u + 256 * v + 65536 * w) % 256 = u ∧ (u + 256 * v + 65536 * w) / 256 % 256 = v ∧ (u + 256 * v + 65536 * w) / 256 / 256 % 256 = w := by omega
theorem sh_dig (N : Int) : 2 * (N % 256) % 256 = 2 * N % 256 ∧ (2 * (N / 256 % 256) + N % 256 / 128) % 256 = 2 * N / 256 % 256 ∧ (2 * (N / 256 / 256 % 256) + N / 256 % 256 / 128) % 256 = 2 * N / 256 / 256 % 256 := by omega
theorem m8 (x : Int) : 0 ≤ x % 256 ∧ x % 256 < 256 := by omega
section
variable {n : Nat} {scr : Nat → Int} {ob : Nat → AObj} {R : Rt} {k : Nat} {g : Nat → Int} {a x y sp p u v w s r t m T : Int} {c z o n' : Bool}
theorem addLoop (S : Steps n scr ob R) (C : Code g) (m0 : 0 ≤ m) (m1 : m < 10000) (h16 : g 16 = bcd (m % 100)) (h17 : g 17 = bcd (m / 100)) (T1 : T < 1000000)
    (h : ∀ o, R k (mt g T s r) (bcd (T / 10000)) 0 y sp (P false true o false) 578) : ∀ (j : Nat) (t a : Int) (c z o n' : Bool), j < 50 → 0 ≤ t → T = t + ((j : Int) + 1) * m → R (k + 12 * (j + 1)) (mt g t s r) a ((j : Int) + 1) y sp (P c z o n') 556
  | 0, t, a, c, z, o, n', _, t0, e => by
    have e' : T = t + m := by rw [e]; show t + (0 + 1) * m = t + m; omega
    subst e'
    refine add1 (k := k + 1) (x := 0) S C m0 m1 t0 T1 h16 h17 (by decide) (by decide) fun o' => ?_
    exact i208f S 576 (by decide) (by decide) (by decide) C.c576 (h o')
  | j + 1, t, a, c, z, o, n', hj, t0, e => by
    have e' : ((j + 1 : Nat) : Int) + 1 = ((j : Int) + 1) + 1 := rfl
    rw [e', Int.add_mul (↑j + 1) 1 m, Int.one_mul] at e
    have hp0 : 0 ≤ ((j : Int) + 1) * m := Int.mul_nonneg (by omega) m0
    have ih := addLoop S C m0 m1 h16 h17 T1 h j (t + m) (bcd ((t + m) / 10000)) false false
    rw [e', show k + 12 * (j + 1 + 1) = k + 12 * (j + 1) + 1 + 11 by omega]
    refine add1 (x := (j : Int) + 1) S C m0 m1 t0 (by omega) h16 h17 (by omega) (by omega) fun o' => ?_
    rw [decide_eq_false (show ¬ (j : Int) + 1 = 0 by omega)]
    refine i208t S 576 556 (by decide) (by decide) (by decide) C.c576 C.c577 (by decide) (by decide) (by decide) (by decide) (by decide) (by decide +kernel) ?_
    exact ih o' false (by omega) (by omega) (by omega)
theorem addSub (S : Steps n scr ob R) (C : Code g) (m0 : 0 ≤ m) (m1 : m < 10000) (h16 : g 16 = bcd (m % 100)) (h17 : g 17 = bcd (m / 100)) (T1 : T < 1000000) (t0 : 0 ≤ t) (j : Nat) (hj : j < 50) (hT : T = t + (j : Int) * m)
    {ret : Int} (s0 : 0 ≤ s) (s1 : s < 256) (r0 : 0 ≤ r) (r1 : r < 4) (hret : ret = s + r * 256 + 1)
    (h : ∀ o, R k (mt g T s r) (cond (Nat.beq j 0) a (bcd (T / 10000))) 0 y 255 (P (Nat.beq j 0) true o false) ret) : R (k + 12 * j + 3) (mt g t s r) a (j : Int) y 253 (P c z o n') 552 := by
  have fin : ∀ a b o, R k (mt g T s r) a 0 y 255 (P b true o false) ret → R (k + 1) (mt g T s r) a 0 y 253 (P b true o false) 578 := fun a b o h => i96 S 578 (by decide) (by decide) (by decide) C.c578 rfl rfl r0 r1 s0 s1 hret h
  refine i224 S 552 (by decide) (by decide) (by decide) C.c552 C.c553 (by omega) (by omega) ?_
  cases j with
  | zero =>
    have e : T = t := by rw [hT]; show t + 0 * m = t; omega
    subst e
    exact i240t S 554 578 (by decide) (by decide) (by decide) C.c554 C.c555 (by decide) (by decide) (by decide) (by decide) (by decide) (by decide +kernel) (fin _ _ _ (h o))
  | succ j =>
    rw [decide_eq_false (show ¬ ((j + 1 : Nat) : Int) = 0 by omega)]
    refine i240f S 554 (by decide) (by decide) (by decide) C.c554 ?_
    have := addLoop (k := k + 1) (T := T) S C m0 m1 h16 h17 T1 (fun o => fin _ _ _ (h o)) j t a true false o false (by omega) t0 hT
    rw [show k + 12 * (j + 1) + 1 = k + 1 + 12 * (j + 1) by omega]
    exact this
/-- the memory with the three octets of a number -/
noncomputable def mn (g : Nat → Int) (N s r : Int) : Nat → Int := mm g (N % 256) (N / 256 % 256) (N / 256 / 256 % 256) s r
theorem mt_mn (t0 : 0 ≤ t) (t1 : t < 1000000) : mt g t s r = mn g (NB t) s r := by
  have A : ∀ X : Int, 0 ≤ X → X < 100 → 0 ≤ bcd X ∧ bcd X < 256 := fun X h0 h1 => ⟨bcd_lo h0, bcd_hi h0 h1⟩
  have hu := A (t % 100) (by omega) (by omega)
  have hv := A (t / 100 % 100) (by omega) (by omega)
  have hw := A (t / 10000) (by omega) (by omega)
  obtain ⟨e1, e2, e3⟩ := dig hu.1 hu.2 hv.1 hv.2 hw.1 hw.2
  unfold mt mn NB
  rw [e1, e2, e3]
theorem sh0 {N : Int} (S : Steps n scr ob R) (C : Code g) (y0 : 0 ≤ y) (y1 : y < 100)
    (h : ∀ c o, R k (mn g (2 * N) s r) a x y sp (P c (decide (y = 0)) o false) 540) : R (k + 4) (mn g N s r) a x (y + 1) sp (P c z o n') 533 := by
  obtain ⟨e1, e2, e3⟩ := sh_dig N
  unfold mn at h ⊢
  refine i6 (v := N % 256) S 533 (by decide) (by decide) (by decide) C.c533 C.c534 (by decide) (by decide) rfl (m8 _).1 (m8 _).2 fun z1 g1 => ?_
  show R (k + 3) (setF (mm g _ _ _ s r) 19 _) _ _ _ _ _ _
  rw [mm_19, e1]
  refine i38 (v := N / 256 % 256) S 535 (by decide) (by decide) (by decide) C.c535 C.c536 (by decide) (by decide) rfl (m8 _).1 (m8 _).2 fun z2 g2 => ?_
  show R (k + 2) (setF (mm g _ _ _ s r) 20 _) _ _ _ _ _ _
  rw [mm_20, ci_128 (m8 _).1 (m8 _).2, e2]
  refine i38 (v := N / 256 / 256 % 256) S 537 (by decide) (by decide) (by decide) C.c537 C.c538 (by decide) (by decide) rfl (m8 _).1 (m8 _).2 fun z3 g3 => ?_
  show R (k + 1) (setF (mm g _ _ _ s r) 21 _) _ _ _ _ _ _
  rw [mm_21, ci_128 (m8 _).1 (m8 _).2, e3]
  exact i136 S 539 (by decide) (by decide) (by decide) C.c539 y0 y1 (h _ _)
theorem sh1 {N : Int} (S : Steps n scr ob R) (C : Code g) (y0 : 0 < y) (y1 : y < 100)
    (h : ∀ c z o n', R k (mn g (2 * N) s r) a x y sp (P c z o n') 533) : R (k + 5) (mn g N s r) a x (y + 1) sp (P c z o n') 533 := by
  refine sh0 (k := k + 1) S C (Int.le_of_lt y0) y1 fun c o => ?_
  rw [decide_eq_false (Int.ne_of_gt y0)]
  exact i208t S 540 533 (by decide) (by decide) (by decide) C.c540 C.c541 (by decide) (by decide) (by decide) (by decide) (by decide) (by decide +kernel) (h _ _ _ _)
theorem shLast {N : Int} (S : Steps n scr ob R) (C : Code g)
    (h : ∀ c z o n', R k (mn g (2 * N) s r) a x 0 sp (P c z o n') 542) : R (k + 5) (mn g N s r) a x 1 sp (P c z o n') 533 := by
  refine sh0 (k := k + 1) (y := 0) S C (by decide) (by decide) fun c o => ?_
  exact i208f S 540 (by decide) (by decide) (by decide) C.c540 (h _ _ _ _)
theorem shift4 (S : Steps n scr ob R) (C : Code g) (t0 : 0 ≤ t) (t1 : t < 100000)
    (h : ∀ c z o n', R k (mt g (10 * t) s r) a x 0 sp (P c z o n') 542) : R (k + 21) (mt g t s r) a x y sp (P c z o n') 531 := by
  rw [mt_mn (t := 10 * t) (by omega) (by omega), NB10 t0 t1] at h
  rw [mt_mn t0 (by omega)]
  refine i160 S 531 (by decide) (by decide) (by decide) C.c531 C.c532 (by decide) (by decide) ?_
  refine sh1 (k := k + 15) (y := 3) S C (by decide) (by decide) fun c z o n' => ?_
  refine sh1 (k := k + 10) (y := 2) S C (by decide) (by decide) fun c z o n' => ?_
  refine sh1 (k := k + 5) (y := 1) S C (by decide) (by decide) fun c z o n' => ?_
  exact shLast S C h
end
end Mine
end
section
set_option Elab.async false
set_option maxRecDepth 100000
set_option linter.unusedVariables false
open PySem PySem.W PyProof.Rows PySem.Claim2Try PySem.Pin
namespace Mine
open PySem.Challenge
section
variable {n : Nat} {scr : Nat → Int} {ob : Nat → AObj} {R : Rt} {k : Nat} {g : Nat → Int} {m b : Int}
theorem mt0 {s r : Int} : mm g 0 0 0 s r = mt g 0 s r := rfl
theorem prog (S : Steps n scr ob R) (C : Code g) (m0 : 0 ≤ m) (m1 : m < 10000) (h16 : g 16 = bcd (m % 100)) (h17 : g 17 = bcd (m / 100)) (b0 : 0 ≤ b) (b1 : b < 100) (h18 : g 18 = bcd b)
    (h : ∀ k o, R (k + 1) (mt g (m * b) 37 2) (cond (decide (0 < b % 10)) (bcd (m * b / 10000)) 0) 0 0 255 (P (!decide (0 < b % 10)) true o false) 550) : R 300 g 0 0 0 255 48 512 := by
  obtain ⟨i, hi⟩ := Int.eq_ofNat_of_zero_le (show 0 ≤ b / 10 by omega)
  obtain ⟨j, hj⟩ := Int.eq_ofNat_of_zero_le (show 0 ≤ b % 10 by omega)
  have hb : b = 10 * (i : Int) + (j : Int) := by omega
  have hk : ∃ k, 300 = k + 1 + 12 * j + 3 + 4 + 21 + 12 * i + 3 + 12 := ⟨256 - 12 * j - 12 * i, by omega⟩
  obtain ⟨k, hk⟩ := hk
  rw [hk]
  have hg : R (k + 1 + 12 * j + 3 + 4 + 21 + 12 * i + 3 + 12) (mm g (g 19) (g 20) (g 21) (g 510) (g 511)) 0 0 0 255 48 512 → R (k + 1 + 12 * j + 3 + 4 + 21 + 12 * i + 3 + 12) g 0 0 0 255 48 512 := fun hh => by rw [mm_self] at hh; exact hh
  refine hg ?_
  refine i248 S 512 (by decide) (by decide) (by decide) C.c512 ?_
  have e8 : bO 48 8 = P false false false false := by decide +kernel
  rw [e8]
  refine i169 (v := 0) S 513 (by decide) (by decide) (by decide) C.c513 C.c514 (by decide) (by decide) ?_
  refine i133 (j := 19) S 515 (by decide) (by decide) (by decide) C.c515 C.c516 (by decide) (by decide) ?_
  show R _ (setF (mm g (g 19) (g 20) (g 21) (g 510) (g 511)) 19 0) _ _ _ _ _ _
  rw [mm_19]
  refine i133 (j := 20) S 517 (by decide) (by decide) (by decide) C.c517 C.c518 (by decide) (by decide) ?_
  show R _ (setF (mm g 0 (g 20) (g 21) (g 510) (g 511)) 20 0) _ _ _ _ _ _
  rw [mm_20]
  refine i133 (j := 21) S 519 (by decide) (by decide) (by decide) C.c519 C.c520 (by decide) (by decide) ?_
  show R _ (setF (mm g 0 0 (g 21) (g 510) (g 511)) 21 0) _ _ _ _ _ _
  rw [mm_21]
  refine i165 (j := 18) (v := bcd b) S 521 (by decide) (by decide) (by decide) C.c521 C.c522 (by decide) (by decide) h18 (bcd_lo b0) (bcd_hi b0 b1) ?_
  have q0 := bcd_lo b0
  have q1 := bcd_hi b0 b1
  refine i74 S 523 (by decide) (by decide) (by decide) C.c523 (by omega) fun c1 z1 g1 => ?_
  refine i74 S 524 (by decide) (by decide) (by decide) C.c524 (by omega) fun c2 z2 g2 => ?_
  refine i74 S 525 (by decide) (by decide) (by decide) C.c525 (by omega) fun c3 z3 g3 => ?_
  refine i74 S 526 (by decide) (by decide) (by decide) C.c526 (by omega) fun c4 z4 g4 => ?_
  have q2 : bcd b / 2 / 2 / 2 / 2 = (i : Int) := by rw [← hi]; unfold bcd; omega
  rw [q2]
  refine i170 S 527 (by decide) (by decide) (by decide) C.c527 (by omega) (by omega) ?_
  refine i32 (h2 := 2) (l2 := 18) S 528 (by decide) (by decide) (by decide) C.c528 C.c529 C.c530 (by decide) (by decide) ?_
  rw [mm_511, mm_510, mt0]
  have p0 : 0 ≤ (i : Int) * m := Int.mul_nonneg (by omega) m0
  have p1 : (i : Int) * m ≤ 9 * m := Int.mul_le_mul_of_nonneg_right (by omega) m0
  have p2 : 0 ≤ (j : Int) * m := Int.mul_nonneg (by omega) m0
  have p3 : (j : Int) * m ≤ 9 * m := Int.mul_le_mul_of_nonneg_right (by omega) m0
  have pT : m * b = 10 * ((i : Int) * m) + (j : Int) * m := by rw [hb, Int.mul_add, Int.mul_left_comm, Int.mul_comm m, Int.mul_comm m]
  refine addSub (T := (i : Int) * m) S C m0 m1 h16 h17 (by omega) (by decide) i (by omega) (by omega) (by decide) (by decide) (by decide) (by decide) (ret := 531) (by decide) fun o1 => ?_
  refine shift4 S C p0 (by omega) fun c5 z5 o5 g5 => ?_
  refine i165 (j := 18) (v := bcd b) S 542 (by decide) (by decide) (by decide) C.c542 C.c543 (by decide) (by decide) h18 (bcd_lo b0) (bcd_hi b0 b1) ?_
  refine i41 S 544 (by decide) (by decide) (by decide) C.c544 C.c545 fun z6 g6 => ?_
  have q3 : bcd b % 16 = (j : Int) := by rw [← hj]; unfold bcd; omega
  rw [q3]
  refine i170 S 546 (by decide) (by decide) (by decide) C.c546 (by omega) (by omega) ?_
  refine i32 (h2 := 2) (l2 := 37) S 547 (by decide) (by decide) (by decide) C.c547 C.c548 C.c549 (by decide) (by decide) ?_
  unfold mt
  rw [mm_511, mm_510]
  refine addSub (t := 10 * ((i : Int) * m)) (T := m * b) S C m0 m1 h16 h17 (by omega) (by omega) j (by omega) pT (by decide) (by decide) (by decide) (by decide) (ret := 550) (by decide) fun o2 => ?_
  have hh := h k o2
  cases j with
  | zero =>
    rw [decide_eq_false (show ¬ 0 < b % 10 by omega)] at hh
    exact hh
  | succ j =>
    rw [decide_eq_true (show 0 < b % 10 by omega)] at hh
    exact hh
end
end Mine
end
section
set_option Elab.async false
set_option maxRecDepth 100000
set_option linter.unusedVariables false
open PySem PySem.W PyProof.Rows PySem.Claim2Try PySem.Pin
namespace Mine
open PySem.Challenge
noncomputable def nextK (F : Loc → Hp → KF → Prop) (K : KF) : KF := fun fl L σ => match fl with
  | .next => F L σ K
  | fl => K fl L σ
theorem nk_next {Q : KF} {L : Loc} {σ : Hp} : nk Q .next L σ = Q .next L σ := rfl
theorem nextK_next {F : Loc → Hp → KF → Prop} {K : KF} {L : Loc} {σ : Hp} : nextK F K .next L σ = F L σ K := rfl
theorem retK_ret {K : KV} {v : AV} {L : Loc} {σ : Hp} : retK K (.ret v) L σ = K v σ := rfl
theorem stmtsI_app (ex : Stmt → Loc → Hp → KF → Prop) (b : List Stmt) (K : KF) : ∀ (a : List Stmt) (L : Loc) (σ : Hp), stmtsI ex (a ++ b) L σ K = stmtsI ex a L σ (nextK (stmtsI ex b) K)
  | [], L, σ => rfl
  | st :: r, L, σ => by
    show ex st L σ _ = ex st L σ _
    refine congrArg (ex st L σ) ?_
    funext fl L1 σ1
    cases fl with
    | next => exact stmtsI_app ex b K r L1 σ1
    | _ => rfl
theorem lawBo_eq : lawBo = sg 0 1 ++ (sg 1 2 ++ (sg 2 4 ++ (sg 4 5 ++ (sg 5 6 ++ (sg 6 7 ++ (sg 7 13 ++ (sg 13 14 ++ (sg 14 16 ++ (sg 16 17 ++ (sg 17 18 ++ (sg 18 19 ++ (sg 19 20 ++ sg 20 23)))))))))))) := by kernel_rfl
/-- the memory as the law lays it -/
noncomputable def mem0 (p q r : Int) : Nat → Int := wr addF 27 552 (wr mainF 38 512 (setF (setF (setF (repF 4 (getI [165, 90, 60, 195])) 16 p) 17 q) 18 r))
theorem code0 (p q r : Int) : Code (mem0 p q r) where
  c512 := by kernel_rfl
  c513 := by kernel_rfl
  c514 := by kernel_rfl
  c515 := by kernel_rfl
  c516 := by kernel_rfl
  c517 := by kernel_rfl
  c518 := by kernel_rfl
  c519 := by kernel_rfl
  c520 := by kernel_rfl
  c521 := by kernel_rfl
  c522 := by kernel_rfl
  c523 := by kernel_rfl
  c524 := by kernel_rfl
  c525 := by kernel_rfl
  c526 := by kernel_rfl
  c527 := by kernel_rfl
  c528 := by kernel_rfl
  c529 := by kernel_rfl
  c530 := by kernel_rfl
  c531 := by kernel_rfl
  c532 := by kernel_rfl
  c533 := by kernel_rfl
  c534 := by kernel_rfl
  c535 := by kernel_rfl
  c536 := by kernel_rfl
  c537 := by kernel_rfl
  c538 := by kernel_rfl
  c539 := by kernel_rfl
  c540 := by kernel_rfl
  c541 := by kernel_rfl
  c542 := by kernel_rfl
  c543 := by kernel_rfl
  c544 := by kernel_rfl
  c545 := by kernel_rfl
  c546 := by kernel_rfl
  c547 := by kernel_rfl
  c548 := by kernel_rfl
  c549 := by kernel_rfl
  c552 := by kernel_rfl
  c553 := by kernel_rfl
  c554 := by kernel_rfl
  c555 := by kernel_rfl
  c556 := by kernel_rfl
  c557 := by kernel_rfl
  c558 := by kernel_rfl
  c559 := by kernel_rfl
  c560 := by kernel_rfl
  c561 := by kernel_rfl
  c562 := by kernel_rfl
  c563 := by kernel_rfl
  c564 := by kernel_rfl
  c565 := by kernel_rfl
  c566 := by kernel_rfl
  c567 := by kernel_rfl
  c568 := by kernel_rfl
  c569 := by kernel_rfl
  c570 := by kernel_rfl
  c571 := by kernel_rfl
  c572 := by kernel_rfl
  c573 := by kernel_rfl
  c574 := by kernel_rfl
  c575 := by kernel_rfl
  c576 := by kernel_rfl
  c577 := by kernel_rfl
  c578 := by kernel_rfl
theorem m16 (p q r : Int) : mem0 p q r 16 = p := by kernel_rfl
theorem m17 (p q r : Int) : mem0 p q r 17 = q := by kernel_rfl
theorem m18 (p q r : Int) : mem0 p q r 18 = r := by kernel_rfl
theorem fdiv_lit (k : Int) (n : Nat) : k.fdiv (n : Int) = k / (n : Int) := Int.fdiv_eq_ediv_of_nonneg _ (Int.natCast_nonneg n)
theorem fmod_lit (k : Int) (n : Nat) : k.fmod (n : Int) = k % (n : Int) := Int.fmod_eq_emod_of_nonneg _ (Int.natCast_nonneg n)
theorem bc_eq (k : Int) : bc k = bcd k := by unfold bc bcd; rw [show k.fdiv 10 = _ from fdiv_lit k 10, show k.fmod 10 = _ from fmod_lit k 10]; rfl
theorem g1_i {k : Int} {P : Prop} (h0 : 0 ≤ k) (h1 : k < 1000) (h : P) : g1 k P := by
  unfold g1
  rw [show k.fdiv 10 = _ from fdiv_lit k 10]
  refine cond_t ?_ h
  rw [small_i (show 0 ≤ k / ((10 : Nat) : Int) by omega) (by omega)]
  rfl
theorem g3_i {m : Int} {P : Prop} (h0 : 0 ≤ m) (h1 : m < 1000000) (h : P) : g3 m P := by
  unfold g3
  rw [show m.fmod 100 = _ from fmod_lit m 100, show m.fdiv 100 = _ from fdiv_lit m 100, show (m / ((100 : Nat) : Int)).fmod 100 = _ from fmod_lit _ 100, show m.fdiv 10000 = _ from fdiv_lit m 10000]
  exact g1_i (by omega) (by omega) (g1_i (by omega) (by omega) (g1_i (by omega) (by omega) h))
theorem eqTo_i {f g : Nat → Int} : ∀ N, (∀ i, f i = g i) → eqTo f g N = true
  | 0, _ => rfl
  | N + 1, h => by show cond (decide (f N = g N)) (eqTo f g N) false = true; rw [decide_eq_true (h N)]; exact eqTo_i N h
theorem plain_eq (M : Nat → Int) (T : Int) (T0 : 0 ≤ T) (T1 : T < 1000000) (i : Nat) : mt M T 37 2 i = setF (setF (setF (setF (setF (cutF 0 M) 510 37) 511 2) 19 (pr3 T 0)) 20 (pr3 T 1)) 21 (pr3 T 2) i := by
  have e0 : pr3 T 0 = bcd (T % 100) := by show bc (T.fmod 100) = _; rw [bc_eq, show T.fmod 100 = _ from fmod_lit T 100]; rfl
  have e1 : pr3 T 1 = bcd (T / 100 % 100) := by show bc ((T.fdiv 100).fmod 100) = _; rw [bc_eq, show T.fdiv 100 = _ from fdiv_lit T 100, show (T / ((100 : Nat) : Int)).fmod 100 = _ from fmod_lit _ 100]; rfl
  have e2 : pr3 T 2 = bcd (T / 10000) := by show bc (T.fdiv 10000) = _; rw [bc_eq, show T.fdiv 10000 = _ from fdiv_lit T 10000]; rfl
  rw [e0, e1, e2]
  unfold mt mm setF cutF
  by_cases h1 : i = 19
  · subst h1; rfl
  by_cases h2 : i = 20
  · subst h2; rfl
  by_cases h3 : i = 21
  · subst h3; rfl
  by_cases h4 : i = 510
  · subst h4; rfl
  by_cases h5 : i = 511
  · subst h5; rfl
  rw [beq_ne h1, beq_ne h2, beq_ne h3, beq_ne h4, beq_ne h5, Nat.zero_add]
  rfl
section
variable {n : Nat} {scr : Nat → Int}
noncomputable def Rr (n : Nat) (scr : Nat → Int) (o : Nat → AObj) (LL : AV → Loc) (Q : KF) : Rt := fun k f a x y sp p pc => ∀ i v1 cyc exc ac, i + k = 300 → genLoop (rangeSrc 300 0) (stmtsI ((inN (g12 n scr) 98).ex lawSc) (forBo st19)) (asgI (inN (g12 n scr) 98) lawSc (forTg st19)) k i (LL v1) (hp o 768 f (regs 3 512 a x y sp p pc cyc exc ac)) Q
noncomputable def Asg (n : Nat) (scr : Nat → Int) (LL : AV → Loc) : Prop := ∀ (v : Int) v1 σ C, asgI (inN (g12 n scr) 98) lawSc (forTg st19) (.int v) (LL v1) σ C = C (LL (.int v)) σ
noncomputable def Bod (n : Nat) (scr : Nat → Int) (LL : AV → Loc) : Prop := ∀ v1 (o : Nat → AObj) f a x y sp p pc cyc exc ac Q, stmtsI ((inN (g12 n scr) 98).ex lawSc) (forBo st19) (LL v1) (hp o 768 f (regs 3 512 a x y sp p pc cyc exc ac)) Q = cond (decide (pc = 550)) (Q .brk (LL v1) (hp o 768 f (regs 3 512 a x y sp p pc cyc exc ac))) ((inN (g12 n scr) 96).ca (.mth nStep) [.loc 19] [] (hp o 768 f (regs 3 512 a x y sp p pc cyc exc ac)) (stK (LL v1) Q))
theorem turn {LL : AV → Loc} {o : Nat → AObj} {Q : KF} (ha : Asg n scr LL) (hb : Bod n scr LL) {k i : Nat} {v1 : AV} {f a x y sp p pc cyc exc ac} (hi : i < 300) :
    genLoop (rangeSrc 300 0) (stmtsI ((inN (g12 n scr) 98).ex lawSc) (forBo st19)) (asgI (inN (g12 n scr) 98) lawSc (forTg st19)) (k + 1) i (LL v1) (hp o 768 f (regs 3 512 a x y sp p pc cyc exc ac)) Q
      = cond (decide (pc = 550)) (Q .next (LL (.int (0 + (i : Int)))) (hp o 768 f (regs 3 512 a x y sp p pc cyc exc ac))) ((inN (g12 n scr) 96).ca (.mth nStep) [.loc 19] [] (hp o 768 f (regs 3 512 a x y sp p pc cyc exc ac)) fun _ σ => genLoop (rangeSrc 300 0) (stmtsI ((inN (g12 n scr) 98).ex lawSc) (forBo st19)) (asgI (inN (g12 n scr) 98) lawSc (forTg st19)) k (i + 1) (LL (.int (0 + (i : Int)))) σ Q) := by
  have e : ∀ σ, rangeSrc 300 0 σ i = some (some (.int (0 + (i : Int)))) := fun σ => by
    unfold rangeSrc
    have : Nat.blt i 300 = true := Nat.ble_eq_true_of_le hi
    rw [this]; rfl
  conv => lhs; unfold genLoop
  rw [e]
  show asgI _ _ _ _ _ _ _ = _
  rw [ha, hb]
  rfl
theorem Rr_steps {LL : AV → Loc} {o : Nat → AObj} {Q : KF} (ha : Asg n scr LL) (hb : Bod n scr LL) : Steps n scr o (Rr n scr o LL Q) := by
  intro k f a x y sp p pc hne h i v1 cyc exc ac hi
  rw [turn ha hb (by omega)]
  refine cond_f (decide_eq_false hne) ?_
  rw [fetch12]
  exact h cyc exc ac _ fun f a x y sp p pc cyc exc ac hR => hR (i + 1) _ cyc exc ac (by omega)
theorem Rr_get {LL : AV → Loc} {o : Nat → AObj} {Q : KF} {k f a x y sp p pc} (h : Rr n scr o LL Q k f a x y sp p pc) (hk : k = 300) (v1 : AV) (cyc exc : Int) (ac : AV) : genLoop (rangeSrc 300 0) (stmtsI ((inN (g12 n scr) 98).ex lawSc) (forBo st19)) (asgI (inN (g12 n scr) 98) lawSc (forTg st19)) k 0 (LL v1) (hp o 768 f (regs 3 512 a x y sp p pc cyc exc ac)) Q := h 0 v1 cyc exc ac (by omega)
theorem Rr_fin {kk : Nat} (hkk : 300 = kk) {LL : AV → Loc} {o : Nat → AObj} {Q : KF} {f a x y sp p pc} {cyc exc : Int} {ac v1 : AV} {L : Loc} {σ : Hp} (h : Rr n scr o LL Q 300 f a x y sp p pc) (eL : LL v1 = L) (eS : hp o 768 f (regs 3 512 a x y sp p pc cyc exc ac) = σ) : genLoop (rangeSrc kk 0) (stmtsI ((inN (g12 n scr) 98).ex lawSc) (forBo st19)) (asgI (inN (g12 n scr) 98) lawSc (forTg st19)) kk 0 L σ Q := by
  subst hkk eL eS
  exact Rr_get h rfl v1 cyc exc ac
theorem Rr_end {LL : AV → Loc} {o : Nat → AObj} {Q : KF} (ha : Asg n scr LL) (hb : Bod n scr LL) {k f a x y sp p} (h : ∀ v1 cyc exc ac, Q .next (LL v1) (hp o 768 f (regs 3 512 a x y sp p 550 cyc exc ac))) : Rr n scr o LL Q (k + 1) f a x y sp p 550 := by
  intro i v1 cyc exc ac hi
  rw [turn ha hb (by omega)]
  exact cond_t rfl (h _ _ _ _)
end
section
variable (n : Nat) (scr : Nat → Int)
noncomputable def LLe (t m b : Int) (v1 : AV) : Loc := [("script", .given), ("total", .int t), ("many", .int m), ("few", .int b), ("memory", .loc 3), ("main", .loc 9), ("add", .loc 13), ("start", .int 552), ("code", .loc 13), ("turn", v1), ("octet", .int 96), ("plain", .loc 16), ("answer", .loc 18), ("spot", .int 2), ("mpu", .loc 19)]
theorem numse {m b : Int} (m0 : 0 ≤ m) (m1 : m < 10000) (b0 : 0 ≤ b) (b1 : b < 100) : 0 ≤ m * b ∧ m * b < 1000000 := by
  have h1 : 0 ≤ m * b := Int.mul_nonneg m0 b0
  have h2 : m * b ≤ m * 99 := Int.mul_le_mul_of_nonneg_left (by omega) m0
  omega
theorem finie (t m b : Int) (o : Nat → AObj) (m0 : 0 ≤ m) (m1 : m < 10000) (b0 : 0 ≤ b) (b1 : b < 100) (fo : Bool) (v1 ac : AV) (cyc exc : Int) : stmtsI ((inN (g12 n scr) 99).ex lawSc) (sg 20 23) (LLe t m b v1) (hp (ob (.nums 768 (setF (setF (setF (setF (setF (cutF 0 (mem0 (bc (m.fmod 100)) (bc ((m.fdiv 100).fmod 100)) (bc (b.fmod 100)))) 510 37) 511 2) 19 (pr3 (m * b) 0)) 20 (pr3 (m * b) 1)) 21 (pr3 (m * b) 2))) (.nums 3 (pr3 (m * b))) o) 768 (mt (mem0 (bc (m.fmod 100)) (bc ((m.fdiv 100).fmod 100)) (bc (b.fmod 100))) (m * b) 37 2) (regs 3 512 (cond (decide (0 < b % 10)) (bcd (m * b / 10000)) 0) 0 0 255 (P (!decide (0 < b % 10)) true fo false) 550 cyc exc ac)) (retK fun v _ => v = .bool true) := by
  have hm := numse m0 m1 b0 b1
  have hpr := plain_eq (mem0 (bc (m.fmod 100)) (bc ((m.fdiv 100).fmod 100)) (bc (b.fmod 100))) (m * b) hm.1 hm.2
  have e2 : pr3 (m * b) 2 = bcd (m * b / 10000) := by show bc ((m * b).fdiv 10000) = _; rw [bc_eq, show (m * b).fdiv 10000 = _ from fdiv_lit _ 10000]; rfl
  unfold LLe
  rw [s13e]
  refine cond_f rfl ?_
  have hf : b.fmod 10 = b % 10 := fmod_lit b 10
  have ht : eqTo (mt (mem0 (bc (m.fmod 100)) (bc ((m.fdiv 100).fmod 100)) (bc (b.fmod 100))) (m * b) 37 2) (setF (setF (setF (setF (setF (cutF 0 (mem0 (bc (m.fmod 100)) (bc ((m.fdiv 100).fmod 100)) (bc (b.fmod 100)))) 510 37) 511 2) 19 (pr3 (m * b) 0)) 20 (pr3 (m * b) 1)) 21 (pr3 (m * b) 2)) 768 = true := eqTo_i 768 hpr
  rw [ht, e2]
  unfold fin1 fin2
  rw [hf]
  cases hd : decide (0 < b % 10) with
  | true =>
    refine cond_t rfl (cond_f (by show (!decide (bcd (m * b / 10000) = bcd (m * b / 10000))) = false; rw [decide_eq_true rfl]; rfl) (cond_t rfl ?_))
    refine cond_f (by cases fo <;> decide +kernel) ?_
    rw [retK_ret]
  | false =>
    refine cond_f rfl (cond_f (by show (!decide ((0 : Int) = 0)) = false; rfl) (cond_f rfl ?_))
    refine cond_f (by cases fo <;> decide +kernel) ?_
    rw [retK_ret]
theorem runse (t m b : Int) (o : Nat → AObj) (m0 : 0 ≤ m) (m1 : m < 10000) (b0 : 0 ≤ b) (b1 : b < 100) : Rr n scr (ob (.nums 768 (setF (setF (setF (setF (setF (cutF 0 (mem0 (bc (m.fmod 100)) (bc ((m.fdiv 100).fmod 100)) (bc (b.fmod 100)))) 510 37) 511 2) 19 (pr3 (m * b) 0)) 20 (pr3 (m * b) 1)) 21 (pr3 (m * b) 2))) (.nums 3 (pr3 (m * b))) o) (LLe t m b) (nk (nextK (stmtsI ((inN (g12 n scr) 99).ex lawSc) (sg 20 23)) (retK fun v _ => v = .bool true))) 300 (mem0 (bc (m.fmod 100)) (bc ((m.fdiv 100).fmod 100)) (bc (b.fmod 100))) 0 0 0 255 48 512 := by
  have ha : Asg n scr (LLe t m b) := fun v v1 σ C => c1e n scr σ t v m b C v1
  have hb : Bod n scr (LLe t m b) := fun v1 o f a x y sp p pc cyc exc ac Q => c2e n scr 768 f Q t m b v1 o a x y sp p pc cyc exc ac
  have C := code0 (bc (m.fmod 100)) (bc ((m.fdiv 100).fmod 100)) (bc (b.fmod 100))
  have h16 : (mem0 (bc (m.fmod 100)) (bc ((m.fdiv 100).fmod 100)) (bc (b.fmod 100))) 16 = bcd (m % 100) := by rw [m16, bc_eq, show m.fmod 100 = _ from fmod_lit m 100]; rfl
  have h17 : (mem0 (bc (m.fmod 100)) (bc ((m.fdiv 100).fmod 100)) (bc (b.fmod 100))) 17 = bcd (m / 100) := by
    rw [m17, bc_eq, show m.fdiv 100 = _ from fdiv_lit m 100, show (m / ((100 : Nat) : Int)).fmod 100 = _ from fmod_lit _ 100]
    exact congrArg bcd (by omega)
  have h18 : (mem0 (bc (m.fmod 100)) (bc ((m.fdiv 100).fmod 100)) (bc (b.fmod 100))) 18 = bcd b := by
    rw [m18, bc_eq, show b.fmod 100 = _ from fmod_lit b 100]
    exact congrArg bcd (by omega)
  refine prog (Rr_steps ha hb) C m0 m1 h16 h17 b0 b1 h18 fun k fo => ?_
  refine Rr_end ha hb fun v1 cyc exc ac => ?_
  rw [nk_next, nextK_next]
  exact finie n scr t m b o m0 m1 b0 b1 fo v1 ac cyc exc
theorem mache (bo : List Stmt) (hbo : sg 19 20 ++ sg 20 23 = bo) (t m b : Int) (j0 j1 j2 j4 j5 j6 j7 j8 j9 j10 j11 j12 j13 j14 j15 j17 : AObj) (m0 : 0 ≤ m) (m1 : m < 10000) (b0 : 0 ≤ b) (b1 : b < 100) : stmtsI ((inN (g12 n scr) 99).ex lawSc) bo [("script", .given), ("total", .int t), ("many", .int m), ("few", .int b), ("memory", .loc 3), ("main", .loc 9), ("add", .loc 13), ("start", .int 552), ("code", .loc 13), ("turn", .int 26), ("octet", .int 96), ("plain", .loc 16), ("answer", .loc 18), ("spot", .int 2), ("mpu", .loc 19)] [j0, j1, j2, .nums 768 (mem0 (bc (m.fmod 100)) (bc ((m.fdiv 100).fmod 100)) (bc (b.fmod 100))), j4, j5, j6, j7, j8, j9, j10, j11, j12, j13, j14, j15, .nums 768 (setF (setF (setF (setF (setF (cutF 0 (mem0 (bc (m.fmod 100)) (bc ((m.fdiv 100).fmod 100)) (bc (b.fmod 100)))) 510 37) 511 2) 19 (pr3 (m * b) 0)) 20 (pr3 (m * b) 1)) 21 (pr3 (m * b) 2)), j17, .nums 3 (pr3 (m * b)), .inst (regs 3 512 0 0 0 255 48 512 0 0 (.bool false))] (retK fun v _ => v = .bool true) := by
  subst hbo
  rw [stmtsI_app, s12e]
  have eS : hp (ob (.nums 768 (setF (setF (setF (setF (setF (cutF 0 (mem0 (bc (m.fmod 100)) (bc ((m.fdiv 100).fmod 100)) (bc (b.fmod 100)))) 510 37) 511 2) 19 (pr3 (m * b) 0)) 20 (pr3 (m * b) 1)) 21 (pr3 (m * b) 2))) (.nums 3 (pr3 (m * b))) fun i => (nth [j0, j1, j2, j0, j4, j5, j6, j7, j8, j9, j10, j11, j12, j13, j14, j15, j0, j17, j0] i).getD j0) 768 (mem0 (bc (m.fmod 100)) (bc ((m.fdiv 100).fmod 100)) (bc (b.fmod 100))) (regs 3 512 0 0 0 255 48 512 0 0 (.bool false)) = [j0, j1, j2, .nums 768 (mem0 (bc (m.fmod 100)) (bc ((m.fdiv 100).fmod 100)) (bc (b.fmod 100))), j4, j5, j6, j7, j8, j9, j10, j11, j12, j13, j14, j15, .nums 768 (setF (setF (setF (setF (setF (cutF 0 (mem0 (bc (m.fmod 100)) (bc ((m.fdiv 100).fmod 100)) (bc (b.fmod 100)))) 510 37) 511 2) 19 (pr3 (m * b) 0)) 20 (pr3 (m * b) 1)) 21 (pr3 (m * b) 2)), j17, .nums 3 (pr3 (m * b)), .inst (regs 3 512 0 0 0 255 48 512 0 0 (.bool false))] := by kernel_rfl
  generalize hkk : (300 : Nat) = kk
  exact Rr_fin hkk (v1 := .int 26) (runse n scr t m b _ m0 m1 b0 b1) rfl eS
end
section
variable (n : Nat) (scr : Nat → Int)
noncomputable def LLw (t m b : Int) (w : Int) (v1 : AV) : Loc := [("script", .given), ("total", .int t), ("number", .int w), ("many", .int m), ("few", .int b), ("memory", .loc 3), ("main", .loc 9), ("add", .loc 13), ("start", .int 552), ("code", .loc 13), ("turn", v1), ("octet", .int 96), ("plain", .loc 16), ("answer", .loc 18), ("spot", .int 2), ("mpu", .loc 19)]
theorem numsw {m b : Int} (m0 : 0 ≤ m) (m1 : m < 10000) (b0 : 0 ≤ b) (b1 : b < 100) : 0 ≤ m * b ∧ m * b < 1000000 := by
  have h1 : 0 ≤ m * b := Int.mul_nonneg m0 b0
  have h2 : m * b ≤ m * 99 := Int.mul_le_mul_of_nonneg_left (by omega) m0
  omega
theorem finiw (t m b : Int) (w : Int) (o : Nat → AObj) (m0 : 0 ≤ m) (m1 : m < 10000) (b0 : 0 ≤ b) (b1 : b < 100) (fo : Bool) (v1 ac : AV) (cyc exc : Int) : stmtsI ((inN (g12 n scr) 99).ex lawSc) (sg 20 23) (LLw t m b w v1) (hp (ob (.nums 768 (setF (setF (setF (setF (setF (cutF 0 (mem0 (bc (m.fmod 100)) (bc ((m.fdiv 100).fmod 100)) (bc (b.fmod 100)))) 510 37) 511 2) 19 (pr3 (m * b) 0)) 20 (pr3 (m * b) 1)) 21 (pr3 (m * b) 2))) (.nums 3 (pr3 (m * b))) o) 768 (mt (mem0 (bc (m.fmod 100)) (bc ((m.fdiv 100).fmod 100)) (bc (b.fmod 100))) (m * b) 37 2) (regs 3 512 (cond (decide (0 < b % 10)) (bcd (m * b / 10000)) 0) 0 0 255 (P (!decide (0 < b % 10)) true fo false) 550 cyc exc ac)) (retK fun v _ => v = .bool true) := by
  have hm := numsw m0 m1 b0 b1
  have hpr := plain_eq (mem0 (bc (m.fmod 100)) (bc ((m.fdiv 100).fmod 100)) (bc (b.fmod 100))) (m * b) hm.1 hm.2
  have e2 : pr3 (m * b) 2 = bcd (m * b / 10000) := by show bc ((m * b).fdiv 10000) = _; rw [bc_eq, show (m * b).fdiv 10000 = _ from fdiv_lit _ 10000]; rfl
  unfold LLw
  rw [s13w]
  refine cond_f rfl ?_
  have hf : b.fmod 10 = b % 10 := fmod_lit b 10
  have ht : eqTo (mt (mem0 (bc (m.fmod 100)) (bc ((m.fdiv 100).fmod 100)) (bc (b.fmod 100))) (m * b) 37 2) (setF (setF (setF (setF (setF (cutF 0 (mem0 (bc (m.fmod 100)) (bc ((m.fdiv 100).fmod 100)) (bc (b.fmod 100)))) 510 37) 511 2) 19 (pr3 (m * b) 0)) 20 (pr3 (m * b) 1)) 21 (pr3 (m * b) 2)) 768 = true := eqTo_i 768 hpr
  rw [ht, e2]
  unfold fin1 fin2
  rw [hf]
  cases hd : decide (0 < b % 10) with
  | true =>
    refine cond_t rfl (cond_f (by show (!decide (bcd (m * b / 10000) = bcd (m * b / 10000))) = false; rw [decide_eq_true rfl]; rfl) (cond_t rfl ?_))
    refine cond_f (by cases fo <;> decide +kernel) ?_
    rw [retK_ret]
  | false =>
    refine cond_f rfl (cond_f (by show (!decide ((0 : Int) = 0)) = false; rfl) (cond_f rfl ?_))
    refine cond_f (by cases fo <;> decide +kernel) ?_
    rw [retK_ret]
theorem runsw (t m b : Int) (w : Int) (o : Nat → AObj) (m0 : 0 ≤ m) (m1 : m < 10000) (b0 : 0 ≤ b) (b1 : b < 100) : Rr n scr (ob (.nums 768 (setF (setF (setF (setF (setF (cutF 0 (mem0 (bc (m.fmod 100)) (bc ((m.fdiv 100).fmod 100)) (bc (b.fmod 100)))) 510 37) 511 2) 19 (pr3 (m * b) 0)) 20 (pr3 (m * b) 1)) 21 (pr3 (m * b) 2))) (.nums 3 (pr3 (m * b))) o) (LLw t m b w) (nk (nextK (stmtsI ((inN (g12 n scr) 99).ex lawSc) (sg 20 23)) (retK fun v _ => v = .bool true))) 300 (mem0 (bc (m.fmod 100)) (bc ((m.fdiv 100).fmod 100)) (bc (b.fmod 100))) 0 0 0 255 48 512 := by
  have ha : Asg n scr (LLw t m b w) := fun v v1 σ C => c1w n scr σ t w v m b C v1
  have hb : Bod n scr (LLw t m b w) := fun v1 o f a x y sp p pc cyc exc ac Q => c2w n scr 768 f Q t w m b v1 o a x y sp p pc cyc exc ac
  have C := code0 (bc (m.fmod 100)) (bc ((m.fdiv 100).fmod 100)) (bc (b.fmod 100))
  have h16 : (mem0 (bc (m.fmod 100)) (bc ((m.fdiv 100).fmod 100)) (bc (b.fmod 100))) 16 = bcd (m % 100) := by rw [m16, bc_eq, show m.fmod 100 = _ from fmod_lit m 100]; rfl
  have h17 : (mem0 (bc (m.fmod 100)) (bc ((m.fdiv 100).fmod 100)) (bc (b.fmod 100))) 17 = bcd (m / 100) := by
    rw [m17, bc_eq, show m.fdiv 100 = _ from fdiv_lit m 100, show (m / ((100 : Nat) : Int)).fmod 100 = _ from fmod_lit _ 100]
    exact congrArg bcd (by omega)
  have h18 : (mem0 (bc (m.fmod 100)) (bc ((m.fdiv 100).fmod 100)) (bc (b.fmod 100))) 18 = bcd b := by
    rw [m18, bc_eq, show b.fmod 100 = _ from fmod_lit b 100]
    exact congrArg bcd (by omega)
  refine prog (Rr_steps ha hb) C m0 m1 h16 h17 b0 b1 h18 fun k fo => ?_
  refine Rr_end ha hb fun v1 cyc exc ac => ?_
  rw [nk_next, nextK_next]
  exact finiw n scr t m b w o m0 m1 b0 b1 fo v1 ac cyc exc
theorem machw (bo : List Stmt) (hbo : sg 19 20 ++ sg 20 23 = bo) (t m b : Int) (w : Int) (j0 j1 j2 j4 j5 j6 j7 j8 j9 j10 j11 j12 j13 j14 j15 j17 : AObj) (m0 : 0 ≤ m) (m1 : m < 10000) (b0 : 0 ≤ b) (b1 : b < 100) : stmtsI ((inN (g12 n scr) 99).ex lawSc) bo [("script", .given), ("total", .int t), ("number", .int w), ("many", .int m), ("few", .int b), ("memory", .loc 3), ("main", .loc 9), ("add", .loc 13), ("start", .int 552), ("code", .loc 13), ("turn", .int 26), ("octet", .int 96), ("plain", .loc 16), ("answer", .loc 18), ("spot", .int 2), ("mpu", .loc 19)] [j0, j1, j2, .nums 768 (mem0 (bc (m.fmod 100)) (bc ((m.fdiv 100).fmod 100)) (bc (b.fmod 100))), j4, j5, j6, j7, j8, j9, j10, j11, j12, j13, j14, j15, .nums 768 (setF (setF (setF (setF (setF (cutF 0 (mem0 (bc (m.fmod 100)) (bc ((m.fdiv 100).fmod 100)) (bc (b.fmod 100)))) 510 37) 511 2) 19 (pr3 (m * b) 0)) 20 (pr3 (m * b) 1)) 21 (pr3 (m * b) 2)), j17, .nums 3 (pr3 (m * b)), .inst (regs 3 512 0 0 0 255 48 512 0 0 (.bool false))] (retK fun v _ => v = .bool true) := by
  subst hbo
  rw [stmtsI_app, s12w]
  have eS : hp (ob (.nums 768 (setF (setF (setF (setF (setF (cutF 0 (mem0 (bc (m.fmod 100)) (bc ((m.fdiv 100).fmod 100)) (bc (b.fmod 100)))) 510 37) 511 2) 19 (pr3 (m * b) 0)) 20 (pr3 (m * b) 1)) 21 (pr3 (m * b) 2))) (.nums 3 (pr3 (m * b))) fun i => (nth [j0, j1, j2, j0, j4, j5, j6, j7, j8, j9, j10, j11, j12, j13, j14, j15, j0, j17, j0] i).getD j0) 768 (mem0 (bc (m.fmod 100)) (bc ((m.fdiv 100).fmod 100)) (bc (b.fmod 100))) (regs 3 512 0 0 0 255 48 512 0 0 (.bool false)) = [j0, j1, j2, .nums 768 (mem0 (bc (m.fmod 100)) (bc ((m.fdiv 100).fmod 100)) (bc (b.fmod 100))), j4, j5, j6, j7, j8, j9, j10, j11, j12, j13, j14, j15, .nums 768 (setF (setF (setF (setF (setF (cutF 0 (mem0 (bc (m.fmod 100)) (bc ((m.fdiv 100).fmod 100)) (bc (b.fmod 100)))) 510 37) 511 2) 19 (pr3 (m * b) 0)) 20 (pr3 (m * b) 1)) 21 (pr3 (m * b) 2)), j17, .nums 3 (pr3 (m * b)), .inst (regs 3 512 0 0 0 255 48 512 0 0 (.bool false))] := by kernel_rfl
  generalize hkk : (300 : Nat) = kk
  exact Rr_fin hkk (v1 := .int 26) (runsw n scr t m b w _ m0 m1 b0 b1) rfl eS
end
end Mine
end
section
set_option Elab.async false
set_option maxRecDepth 100000
set_option linter.unusedVariables false
open PySem PySem.W PyProof.Rows PySem.Claim2Try PySem.Pin
namespace Mine
open PySem.Challenge
noncomputable def tb : List Stmt := sg 4 5 ++ (sg 5 6 ++ (sg 6 7 ++ (sg 7 13 ++ (sg 13 14 ++ (sg 14 16 ++ (sg 16 17 ++ (sg 17 18 ++ (sg 18 19 ++ (sg 19 20 ++ sg 20 23)))))))))
section
variable (n : Nat) (scr : Nat → Int)
theorem taile (bo : List Stmt) (hbo : tb = bo) (t m b : Int) (j0 j1 : AObj) (m0 : 0 ≤ m) (m1 : m < 10000) (b0 : 0 ≤ b) (hb9 : b < 100) : stmtsI ((inN (g12 n scr) 99).ex lawSc) bo [("script", .given), ("total", .int t), ("many", .int m), ("few", .int b)] [j0, j1] (retK fun v _ => v = .bool true) := by
  subst hbo
  unfold tb
  generalize hb1 : sg 19 20 ++ sg 20 23 = b1
  have hm := numse m0 m1 b0 hb9
  rw [stmtsI_app, s3e, nextK_next, stmtsI_app, s4e]
  refine g3_i m0 (by omega) ?_
  rw [nextK_next, stmtsI_app, s5e]
  refine g3_i b0 (by omega) ?_
  rw [nextK_next, stmtsI_app, s6e, nextK_next, stmtsI_app, s7e, nextK_next, stmtsI_app, s8e, nextK_next, stmtsI_app, s9e]
  refine cond_t (by rw [small_i m0 (by omega), small_i b0 (by omega)]; rfl) (g3_i hm.1 hm.2 ?_)
  rw [nextK_next, stmtsI_app, s10e, nextK_next, stmtsI_app, s11e, nextK_next]
  have eM : wr addF 27 552 (wr mainF 38 512 (setF (setF (setF (repF 4 (getI [165, 90, 60, 195])) 16 (bc (m.fmod 100))) 17 (bc ((m.fdiv 100).fmod 100))) 18 (bc (b.fmod 100)))) = mem0 (bc (m.fmod 100)) (bc ((m.fdiv 100).fmod 100)) (bc (b.fmod 100)) := rfl
  rw [eM]
  exact mache n scr b1 hb1 t m b _ _ _ _ _ _ _ _ _ _ _ _ _ _ _ _ m0 m1 b0 hb9
theorem heade (bo : List Stmt) (hbo : sg 2 4 ++ tb = bo) (t : Int) (t0 : 0 ≤ t) (t1 : t < 1000000) (j0 : AObj) : stmtsI ((inN (g12 n scr) 99).ex lawSc) bo [("script", .given), ("total", .int t)] [j0] (retK fun v _ => v = .bool true) := by
  subst hbo
  generalize hb1 : tb = b1
  rw [stmtsI_app, s2e]
  refine cond_t (by rw [small_i (show 0 ≤ (((min (30 : Int).toNat n - 0) : Nat) : Int) by omega) (by omega)]; rfl) ?_
  rw [nextK_next]
  have e1 : 0 ≤ t.fmod 10000 ∧ t.fmod 10000 < 10000 := by rw [show t.fmod 10000 = _ from fmod_lit t 10000]; omega
  have e2 : ∀ q : Int, 0 ≤ q.fmod 100 ∧ q.fmod 100 < 100 := fun q => by rw [show q.fmod 100 = _ from fmod_lit q 100]; omega
  exact taile n scr b1 hb1 t _ _ _ _ e1.1 e1.2 (e2 _).1 (e2 _).2
end
section
variable (n : Nat) (scr : Nat → Int)
theorem tailw (bo : List Stmt) (hbo : tb = bo) (t m b : Int) (w : Int) (j0 j1 : AObj) (m0 : 0 ≤ m) (m1 : m < 10000) (b0 : 0 ≤ b) (hb9 : b < 100) : stmtsI ((inN (g12 n scr) 99).ex lawSc) bo [("script", .given), ("total", .int t), ("number", .int w), ("many", .int m), ("few", .int b)] [j0, j1] (retK fun v _ => v = .bool true) := by
  subst hbo
  unfold tb
  generalize hb1 : sg 19 20 ++ sg 20 23 = b1
  have hm := numsw m0 m1 b0 hb9
  rw [stmtsI_app, s3w, nextK_next, stmtsI_app, s4w]
  refine g3_i m0 (by omega) ?_
  rw [nextK_next, stmtsI_app, s5w]
  refine g3_i b0 (by omega) ?_
  rw [nextK_next, stmtsI_app, s6w, nextK_next, stmtsI_app, s7w, nextK_next, stmtsI_app, s8w, nextK_next, stmtsI_app, s9w]
  refine cond_t (by rw [small_i m0 (by omega), small_i b0 (by omega)]; rfl) (g3_i hm.1 hm.2 ?_)
  rw [nextK_next, stmtsI_app, s10w, nextK_next, stmtsI_app, s11w, nextK_next]
  have eM : wr addF 27 552 (wr mainF 38 512 (setF (setF (setF (repF 4 (getI [165, 90, 60, 195])) 16 (bc (m.fmod 100))) 17 (bc ((m.fdiv 100).fmod 100))) 18 (bc (b.fmod 100)))) = mem0 (bc (m.fmod 100)) (bc ((m.fdiv 100).fmod 100)) (bc (b.fmod 100)) := rfl
  rw [eM]
  exact machw n scr b1 hb1 t m b w _ _ _ _ _ _ _ _ _ _ _ _ _ _ _ _ m0 m1 b0 hb9
theorem headw (bo : List Stmt) (hbo : sg 2 4 ++ tb = bo) (t : Int) (w : Int) (t0 : 0 ≤ t) (t1 : t < 1000000) (j0 : AObj) : stmtsI ((inN (g12 n scr) 99).ex lawSc) bo [("script", .given), ("total", .int t), ("number", .int w)] [j0] (retK fun v _ => v = .bool true) := by
  subst hbo
  generalize hb1 : tb = b1
  rw [stmtsI_app, s2w]
  refine cond_t (by rw [small_i (show 0 ≤ (((min (30 : Int).toNat n - 0) : Nat) : Int) by omega) (by omega)]; rfl) ?_
  rw [nextK_next]
  have e1 : 0 ≤ t.fmod 10000 ∧ t.fmod 10000 < 10000 := by rw [show t.fmod 10000 = _ from fmod_lit t 10000]; omega
  have e2 : ∀ q : Int, 0 ≤ q.fmod 100 ∧ q.fmod 100 < 100 := fun q => by rw [show q.fmod 100 = _ from fmod_lit q 100]; omega
  exact tailw n scr b1 hb1 t _ _ w _ _ e1.1 e1.2 (e2 _).1 (e2 _).2
end
section
variable (n : Nat) (scr : Nat → Int)
theorem loopW {N : Nat} {h : Nat → Int} {Q : KF} (hQ : ∀ t w, 0 ≤ t → t < 1000000 → Q .next [("script", .given), ("total", .int t), ("number", .int w)] [.nums N h]) : ∀ (k i : Nat) (t w : Int), i + k = N → 0 ≤ t → t < 1000000 → genLoop (listSrc 0 false) (stmtsI ((inN (g12 n scr) 98).ex lawSc) (forBo st1)) (asgI (inN (g12 n scr) 98) lawSc (forTg st1)) k i [("script", .given), ("total", .int t), ("number", .int w)] [.nums N h] Q
  | 0, i, t, w, hi, t0, t1 => by
    have e : listSrc 0 false [.nums N h] i = some none := by
      show (match some (cond (Nat.blt i N) (some (AV.int (h i))) none) with
        | some (some v) => some (some (cond false (AV.tup [.int i, v]) v))
        | o => o) = some none
      have : Nat.blt i N = false := by
        cases hb : Nat.blt i N with
        | false => rfl
        | true => have := Nat.le_of_ble_eq_true hb; omega
      rw [this]; rfl
    unfold genLoop
    rw [e]
    exact hQ t w t0 t1
  | k + 1, i, t, w, hi, t0, t1 => by
    have e : listSrc 0 false [.nums N h] i = some (some (.int (h i))) := by
      show (match some (cond (Nat.blt i N) (some (AV.int (h i))) none) with
        | some (some v) => some (some (cond false (AV.tup [.int i, v]) v))
        | o => o) = _
      have : Nat.blt i N = true := Nat.ble_eq_true_of_le (by omega)
      rw [this]; rfl
    unfold genLoop
    rw [e]
    show asgI _ _ _ _ _ _ _
    rw [b1w, b2]
    refine cond_t (by rw [small_i t0 (by omega)]; rfl) ?_
    have q : 0 ≤ (101 * t + h i).fmod 1000000 ∧ (101 * t + h i).fmod 1000000 < 1000000 := by rw [show (101 * t + h i).fmod 1000000 = _ from fmod_lit _ 1000000]; omega
    exact loopW hQ k (i + 1) _ _ (by omega) q.1 q.2
theorem loopE {N : Nat} {h : Nat → Int} {Q : KF} (hE : Q .next [("script", .given), ("total", .int 0)] [.nums N h]) (hQ : ∀ t w, 0 ≤ t → t < 1000000 → Q .next [("script", .given), ("total", .int t), ("number", .int w)] [.nums N h]) (k : Nat) (hk : k = N) : genLoop (listSrc 0 false) (stmtsI ((inN (g12 n scr) 98).ex lawSc) (forBo st1)) (asgI (inN (g12 n scr) 98) lawSc (forTg st1)) k 0 [("script", .given), ("total", .int 0)] [.nums N h] Q := by
  subst hk
  cases k with
  | zero => exact hE
  | succ k =>
    have e : listSrc 0 false [.nums (k + 1) h] 0 = some (some (.int (h 0))) := rfl
    unfold genLoop
    rw [e]
    show asgI _ _ _ _ _ _ _
    rw [b1e, b2]
    refine cond_t rfl ?_
    have q : 0 ≤ (101 * 0 + h 0).fmod 1000000 ∧ (101 * 0 + h 0).fmod 1000000 < 1000000 := by rw [show (101 * 0 + h 0).fmod 1000000 = _ from fmod_lit _ 1000000]; omega
    exact loopW n scr hQ k 1 _ _ (by omega) q.1 q.2
theorem law_b (bo : List Stmt) (hbo : lawBo = bo) : stmtsI ((inN (g12 n scr) 99).ex lawSc) bo [("script", .given)] [] (retK fun v _ => v = .bool true) := by
  subst hbo
  rw [show lawBo = sg 0 1 ++ (sg 1 2 ++ (sg 2 4 ++ tb)) from lawBo_eq, stmtsI_app, s0, nextK_next]
  generalize hb1 : sg 2 4 ++ tb = b1
  rw [stmtsI_app, s1]
  unfold listLoop
  refine loopE n scr ?_ ?_ _ rfl
  · rw [nk_next, nextK_next]
    exact heade n scr b1 hb1 0 (by decide) (by decide) _
  · intro t w t0 t1
    rw [nk_next, nextK_next]
    exact headw n scr b1 hb1 t w t0 t1 _
theorem run12 : (inN (g12 n scr) 100).ca (.fn nLaw) [.given] [] [] (fun v _ => v = .bool true) := by
  rw [law_a]
  generalize hbo : lawBo = bo
  exact law_b n scr bo hbo
end
end Mine
end
set_option Elab.async false
open PySem PySem.W PyProof.Rows
theorem PySem.Challenge.cw_lq0009_12_holds : PySem.Challenge.rw_lq0009_12.Holds :=
  holds_law Mine.said12 fun said => Mine.all12 said fun ns _ => Mine.run12 ns.length (Mine.getI ns)
