import PyProof.Rows.All
import Wide.All
import OpenK.AllK
import Wide.FinOn
import PySem.Challenge.RW_lq0009_09
set_option Elab.async false
section
open PySem PySem.W PyProof.Rows
namespace Mine

theorem run_last {den : Code → Sem Fin} {p : Program} {w : World} : ∀ (n : Nat) (s : Shared) (t : Thread) (o : Outcome) (s' : Shared), runN den p w n s t = .halted o s' →
    ∃ m s1 t1, runN den p w m s t = .running s1 t1 ∧ step den p w s1 t1 = .halt o s'
  | 0, s, t, o, s', h => by simp [runN] at h
  | n + 1, s, t, o, s', h => by
    cases hs : step den p w s t with
    | go s2 t2 =>
      rw [runN, hs] at h
      obtain ⟨m, s1, t1, a, b⟩ := run_last n s2 t2 o s' h
      exact ⟨m + 1, s1, t1, by rw [runN, hs]; exact a, b⟩
    | halt o2 s2 =>
      rw [runN, hs] at h
      cases h
      exact ⟨0, s, t, rfl, hs⟩

theorem run_go {den : Code → Sem Fin} {p : Program} {w : World} : ∀ (m : Nat) (s : Shared) (t : Thread) (s1 : Shared) (t1 : Thread), runN den p w m s t = .running s1 t1 →
    ∀ k s2 t2, k < m → runN den p w k s t = .running s2 t2 → ∃ s3 t3, step den p w s2 t2 = .go s3 t3
  | 0, _, _, _, _, _, k, _, _, hk, _ => absurd hk (Nat.not_lt_zero k)
  | m + 1, s, t, s1, t1, h, k, s2, t2, hk, h2 => by
    cases hs : step den p w s t with
    | go s' t' =>
      rw [runN, hs] at h
      cases k with
      | zero => rw [runN] at h2; cases h2; exact ⟨_, _, hs⟩
      | succ k => rw [runN, hs] at h2; exact run_go m s' t' s1 t1 h k s2 t2 (Nat.lt_of_succ_lt_succ hk) h2
    | halt o s' => rw [runN, hs] at h; cases h

noncomputable def isDone : Step → Bool
  | .halt (.done _) _ => true
  | _ => false
theorem nd_opt {α : Type} {x : Option α} {f : α → Step} {y : Step} (hf : ∀ a, isDone (f a) = false) (hy : isDone y = false) : isDone (Option.casesOn x y f) = false := by
  cases x with
  | none => exact hy
  | some a => exact hf a
theorem nd_ite {c : Prop} [Decidable c] {x y : Step} (hx : isDone x = false) (hy : isDone y = false) : isDone (if c then x else y) = false := by
  by_cases h : c
  · rw [if_pos h]; exact hx
  · rw [if_neg h]; exact hy
theorem nd_stop {b : Bool} (h : b = true) (g : b = false) : False := by rw [h] at g; cases g
theorem done_through {den : Code → Sem Fin} {p : Program} {w : World} {s s' : Shared} {t : Thread} {f : Flow} (h : step den p w s t = .halt (.done f) s') : through t = true ∧ s = s' := by
  have d : isDone (step den p w s t) = true := by rw [h]; rfl
  obtain ⟨heap, gens, drawn, toks, os⟩ := s
  obtain ⟨cur, code, pos, stack⟩ := t
  cases cur with
  | pure fin =>
    cases fin with
    | again c => cases d
    | done fl =>
      cases stack with
      | nil =>
        have h : finish (.done fl) ⟨heap, gens, drawn, toks, os⟩ = .halt (.done f) s' := h
        unfold finish at h
        by_cases hc : leftWithCleanup gens = true
        · rw [if_pos hc] at h; cases h
        · rw [if_neg hc] at h; cases h; exact ⟨rfl, rfl⟩
      | cons fr r => cases fr <;> exact absurd d Bool.false_ne_true
  | raise e =>
    cases stack with
    | nil => exact (nd_stop d (nd_ite rfl rfl)).elim
    | cons fr r => cases fr <;> exact absurd d Bool.false_ne_true
  | finish e => exact (nd_stop d (nd_ite rfl rfl)).elim
  | load a x k =>
    have d : isDone (match heap.get? a with | some o => .go _ _ | none => .halt (.stuck _) _) = true := d
    exact (nd_stop d (by cases heap.get? a <;> rfl)).elim
  | update a x g k => exact (nd_stop d (nd_ite (c := (heap.get? a).isSome = true) rfl rfl)).elim
  | choose src n k => exact (nd_stop d (nd_ite (c := n = 0) rfl rfl)).elim
  | genState g k =>
    have d : isDone (match gens[g]? with | none => .halt (.stuck _) _ | some o => .go _ _) = true := d
    exact (nd_stop d (by cases gens[g]? <;> rfl)).elim
  | resume g r l k =>
    refine (nd_stop d ?_).elim
    unfold step
    dsimp only
    cases gens[g]? with
    | none => rfl
    | some st =>
      cases st with
      | fresh c =>
        cases r with
        | throw e => rfl
        | send v => cases v <;> rfl
      | _ => rfl
  | yield v g l k =>
    have d : isDone (match splitAtGen stack with | some (frames, (g, k, c, p), rest) => .go _ _ | none => .halt (.stuck _) _) = true := d
    exact (nd_stop d (by cases splitAtGen stack <;> rfl)).elim
  | _ => exact absurd d Bool.false_ne_true

theorem top_ends {p : Program} {w : World} {s : Shared} {tree : Sem Fin} {R : Shared → Prop} (hz : s.asleep)
    (h : wpAny (model p w) callerA tree (fun fin s' => ∃ f, fin = .done f ∧ R s' ∧ s'.gens = #[]) (fun _ _ => False) s) :
    ∃ n t s', schedN (denote table) p w n (.single s ⟨tree, .builtin "claim.caller" {}, default, []⟩) = .running (.single s' t) ∧ through t = true ∧ s'.heap.life = s.heap.life ∧ R s' ∧ s'.gens = #[] := by
  have h' := wp_of_wpAny_done (R := fun r s' => (R s' ∧ (∃ f, r = .ok f) ∧ s'.gens = #[]) ∧ leftWithCleanup s'.gens = false) caller_in
    (wpAny_mono h (fun _ _ ⟨f, e, a, b⟩ => ⟨f, e, ⟨a, ⟨_, rfl⟩, b⟩, by rw [b]; simp [leftWithCleanup]⟩) fun _ _ x => x.elim) default
  obtain ⟨n, r, s₁, hn, hR, ⟨f, rfl⟩, hg⟩ := (wp_iff_halts (M := model p w) (R := fun r s' => R s' ∧ (∃ f, r = .ok f) ∧ s'.gens = #[]) ..).mp h'
  obtain ⟨s₂, hr, hf, hc⟩ := runNI_real _ _ _ hn rfl
  obtain rfl : s₂ = s₁ := Shared.eq_of_forget_eq hf hg
  obtain ⟨m, s3, t3, hm, hs⟩ := run_last _ _ _ _ _ hr
  obtain ⟨ht, rfl⟩ := done_through hs
  refine ⟨m, t3, s3, ?_, ht, ?_, hR, hg⟩
  · refine (schedN_prefix (denote table) p w m s ⟨tree, .builtin "claim.caller" {}, default, []⟩ hz fun k s' t' hk hrun => ⟨hc k s' t' hrun, fun e => ?_⟩).trans ?_
    · obtain ⟨s5, t5, e5⟩ := run_go m s _ s3 t3 hm k s' t' hk hrun
      have e' : step (model p w).den (model p w).prog (model p w).w s' t' = _ := e
      rw [e5] at e'; cases e'
    · have hm' : runN (denote table) p w m s ⟨tree, .builtin "claim.caller" {}, default, []⟩ = .running s3 t3 := hm
      rw [hm']; rfl
  · exact runN_life _ _ _ hr
theorem wpAny_step {M : Model} {A : Around} {E : Value → Shared → Prop} {s s1 : Shared} {α β : Type} {m : Sem α} {k : α → Sem β} {v : α} {Q : β → Shared → Prop} (r : ∀ {Q : α → Shared → Prop}, Q v s1 → wpAny M A m Q E s) (p : wpAny M A (k v) Q E s1) : wpAny M A (m >>= k) Q E s := wpAny_bind (r (Q := fun v s => wpAny M A (k v) Q E s) p)
theorem wpAny_to {M : Model} {A : Around} {E : Value → Shared → Prop} {s : Shared} {α β : Type} {m : Sem α} {k : α → Sem β} {v : α} {Q : β → Shared → Prop} (e : m = pure v) (p : wpAny M A (k v) Q E s) : wpAny M A (m >>= k) Q E s := wpAny_bind (e ▸ wpAny_pure p)
theorem wpAny_is {M : Model} {A : Around} {α : Type} {t : Sem α} {v : α} {s : Shared} {Q : α → Shared → Prop} {E : Value → Shared → Prop} (e : t = pure v) (q : Q v s) : wpAny M A t Q E s := e ▸ wpAny_pure q
theorem wpAny_yes {M : Model} {A : Around} {E : Value → Shared → Prop} {s : Shared} {α : Type} {c : Prop} [Decidable c] {x y : Sem α} {Q : α → Shared → Prop} (h : c) (p : wpAny M A x Q E s) : wpAny M A (if c then x else y) Q E s := (if_pos h).symm ▸ p
theorem wpAny_forC {M : Model} {A : Around} {E : Value → Shared → Prop} {s : Shared} {α β : Type} {a : α} {as : List α} {b : β} {f : α → β → Sem (ForInStep β)} {Q : β → Shared → Prop} (p : wpAny M A (f a b) (fun r s' => match r with | .done b => Q b s' | .yield b => wpAny M A (forIn as b f) Q E s') E s) : wpAny M A (forIn (a :: as) b f) Q E s := by
  rw [List.forIn_cons]
  refine wpAny_bind (wpAny_mono p (fun r s' q => ?_) fun _ _ x => x)
  cases r with
  | done b => exact wpAny_pure q
  | yield b => exact q
theorem wpAny_forN {M : Model} {A : Around} {E : Value → Shared → Prop} {s : Shared} {α β : Type} {b : β} {f : α → β → Sem (ForInStep β)} {Q : β → Shared → Prop} (q : Q b s) : wpAny M A (forIn ([] : List α) b f) Q E s := by rw [List.forIn_nil]; exact wpAny_pure q
theorem wpAny_no {M : Model} {A : Around} {E : Value → Shared → Prop} {s : Shared} {α : Type} {c : Prop} [Decidable c] {x y : Sem α} {Q : α → Shared → Prop} (h : ¬ c) (p : wpAny M A y Q E s) : wpAny M A (if c then x else y) Q E s := (if_neg h).symm ▸ p
end Mine
end
section
open PySem PySem.W PyProof.Rows PySem.Claim2Try PySem.Pin
namespace Mine

theorem staticOf_of_ns {h : Heap} {m : Str → Option Value} (hn : h.Ns cStatics m) (key : Str) : staticOf h key = m key := by
  obtain ⟨o, es, ep, ho, hd, _, hf⟩ := hn
  unfold staticOf
  rw [ho]
  dsimp only
  rw [hd]
  dsimp only
  rw [← hf key]
  rfl

/-- what the text's top leaves, seen from the heap that it found -/
structure AfterTop (p : Program) (h h' : Heap) (mg mg' : Str → Option Value) : Prop where
  old : ∀ b o, h.get? b = some o → b ≠ mainGlobals → b ≠ cStatics → h'.get? b = some o
  g : h'.Ns mainGlobals mg'
  st : ∃ mc, h'.Ns cStatics mc ∧ ∀ key v, mc key = some v → key.opensWith "type.__subclasses__." = true
  names : ∀ x v, mg' x = some v → x ∈ startupNames ∨ x ∈ p.boundNames
  laid : ∀ x ∈ laidNames, mg' x = mg x
  blt : mg' "__builtins__" = mg "__builtins__"

theorem topRan_of {p q : Program} {w : World} {h : Heap} {tk : Nat} {mb mg mg' : Str → Option Value} {c Pl : Addr} {os : OsState} {s' : Shared} {n : Nat} {t : Thread}
    (B : BootLeft9 q h mb mg c Pl) (hr : schedN (denote table) p w n (.single ⟨h, #[], {}, tk, os⟩ (topStub p)) = .running (.single s' t)) (ht : through t = true) (hl : s'.heap.life = h.life)
    (T : AfterTop p h s'.heap mg mg') (hos : s'.os = os) (hg : s'.gens = #[]) : TopRan p w ⟨h, #[], {}, tk, os⟩ s' := by
  obtain ⟨mc, hmc, hst⟩ := T.st
  have hb' : s'.heap.Ns builtinsNs mb := B.b.at fun o e => T.old _ _ e (by decide) (by decide)
  refine ⟨⟨n, t, hr, ht⟩, hl, Shared.rest_eq hos, fun b o hb hn => T.old b o hb (fun e => hn (.inl e)) fun e => hn (.inr (.inl e)), ?_, ?_, ?_, ?_, ?_, ?_, ?_, ?_⟩
  · intro key v hv
    rw [staticOf_of_ns hmc] at hv
    refine .inr (.inl ?_)
    unfold runKey
    rw [hst key v hv]; rfl
  · intro key
    rw [staticOf_of_ns hmc, staticOf_of_ns B.statics]
    cases hk : mc key with
    | none => exact .inl rfl
    | some v => exact .inr (.inr (.inl (hst key v hk)))
  · obtain ⟨o, es, ep, ho, hd, hs, _⟩ := T.g
    exact ⟨o, es, ep, ho, hd, hs⟩
  · intro name hne
    rw [builtinOf_of_ns hb', B.builtins name hne]
    rfl
  · obtain ⟨bm, o, h1, _, h3, _, h5, h6, h7, h8⟩ := B.bmod
    refine ⟨bm, o, ?_, T.old _ _ h5 h3 ?_, h6, h7⟩
    · rw [globalOf_of_ns T.g, T.blt, h1]
    · intro e
      obtain ⟨o2, es, ep, g1, g2, _⟩ := B.statics
      rw [e, g1] at h5
      cases h5
      rw [h8] at g2; cases g2
  · rw [hg]; intro g hgm; simp at hgm
  · intro x v hv
    rw [globalOf_of_ns T.g] at hv
    exact T.names x v hv
  · intro x hx
    rw [globalOf_of_ns T.g, globalOf_of_ns B.g]
    exact T.laid x hx

/-- the state in which the top starts -/
theorem boot_states {q : Program} {w : World} (hb : q.main.body = []) (hm : q.main.more = []) :
    (∃ s, AfterRun q w s) ∧ ∀ s, AfterRun q w s → ∃ h tk mb mg c Pl, BootLeft9 q h mb mg c Pl ∧ s = ⟨h, #[], {}, tk, (start q).1.os⟩ := by
  refine AfterImport.of_body9 (P := fun s => ∃ h tk mb mg c Pl, BootLeft9 q h mb mg c Pl ∧ s = ⟨h, #[], {}, tk, (start q).1.os⟩) (out := #[]) (fun h tk mb mg c Pl F B => ?_) hm
  rw [hb]
  refine codeAny_body rfl rfl (wpAny_mono (E := fun _ _ => False) (wpAny_execs_nil ?_) (fun _ _ x => x) fun _ _ x => x.elim)
  exact ⟨⟨_, rfl⟩, .of B.toBootLeft (fun b o _ _ e => e) B.g, ⟨h, tk, mb, mg, c, Pl, B, rfl⟩, rfl⟩

theorem holds_of {l : OpenLaw} (said : l.row.wellSaid = true) (hbare : l.prog.bare) (ho : opensWell l.prog = true) (hpr : l.row.toRowW.promised) (hw : l.writes = false)
    (fence : ∀ s, fenceModules? l.prog s = some s) (hbody : (opening l.prog).main.body = []) (hmore : (opening l.prog).main.more = [])
    (P : World → Shared → Prop)
    (top : ∀ w h tk mb mg c Pl os, BootLeft9 (opening l.prog) h mb mg c Pl →
      wpAny (model l.prog w) callerA (topStub l.prog).cur (fun fin s' => ∃ f, fin = .done f ∧ ((∃ mg', AfterTop l.prog h s'.heap mg mg') ∧ P w s' ∧ s'.os = os) ∧ s'.gens = #[]) (fun _ _ => False) ⟨h, #[], {}, tk, os⟩)
    (pin : ∀ w s, P w s → isTheDefsW l.prog s.heap l.name)
    (call : ∀ w s s₁ args vs as, P w s → l.row.toRowW.claim.pre args = true → WData.layableAll args = true → Laid [] w s s₁ args vs as →
      ∃ f mg, s₁.heap.Ns mainGlobals mg ∧ mg l.name = some f ∧ wpAny (model l.prog w) callerA (PySem.call f vs) (fun v s' => GoodWG l.row.toRowW.claim (classAt s.heap) (ExcName.means s.heap) args s₁ (.ok (.ret v)) s') (fun _ _ => False) s₁) : l.row.Holds := by
  refine ⟨said, hpr, ?_⟩
  refine ⟨⟨hbare, ho, rfl⟩, hpr.witness, fun w => ?_⟩
  obtain ⟨ex, all⟩ := boot_states (q := opening l.prog) (w := w) hbody hmore
  refine ⟨ex, fun s hs => ?_⟩
  obtain ⟨h, tk, mb, mg, c, Pl, B, rfl⟩ := all s hs
  have hs' : AfterImport (opening l.prog) w _ := hs
  have hz : Shared.asleep ⟨h, #[], {}, tk, (start (opening l.prog)).1.os⟩ := hs'.life
  refine ⟨_, fence _, rfl, ?_⟩
  obtain ⟨n, t, s', hr, ht, hl, ⟨⟨mg', T⟩, hP, hos⟩, hg⟩ := top_ends hz (top w h tk mb mg c Pl _ B)
  have R := topRan_of B hr ht hl T hos hg
  refine ⟨s', R, ?_, (fun x hx => nomatch hx), (fun x hx => nomatch hx), ?_⟩
  · intro n hn
    have : n = l.name := by
      have hn' : n ∈ [l.name] := hn
      simpa using hn'
    rw [this]
    exact pin w s' hP
  · have hz' : s'.asleep := Shared.asleep_of_life hl hz
    refine ClaimW.callFrom_of_specG (c := l.row.toRowW.claim) hz' hg fun args hpre hlay ord hord => ?_
    obtain ⟨⟨vs, s₁⟩, hlaid⟩ := Option.isSome_iff_exists.mp (layAllW_isSome (R := []) (cl := classAt s'.heap) (P := w.params) (ord := ord) (fun c hc => nomatch hc) args l.row.args s' (pre_splitW hpre).1)
    have keeps := layAllW_keeps _ _ _ hlaid
    have hal := layAllW_rest _ _ _ hlaid
    obtain ⟨as, hrd, hin, hold⟩ := reads_layAllW hord _ _ _ hlaid hlay s₁.heap (fun _ _ e => e)
    have L : Laid [] w s' s₁ args vs as := ⟨⟨ord, hord, hlaid⟩, hrd, hin, hold, keeps, hal.1.trans hg, hal.2.2.1⟩
    obtain ⟨f, mg1, hg1, hf, hc⟩ := call w s' s₁ args vs as hP hpre hlay L
    refine ⟨vs, s₁, hlaid, ?_⟩
    refine wpAny_bind (wpAny_nsGet hg1 ?_)
    rw [show mg1 l.row.name = some f from hf]
    refine wpAny_bind (wpAny_mono hc (fun v s2 g => wpAny_pure ⟨_, rfl, ?_⟩) fun _ _ x => x.elim)
    have z := g.laid (c := l.row.toRowW.claim) rfl rfl (ident_freeW (r := l.row.toRowW) rfl rfl rfl) L
    exact ⟨z.1, z.2.1, z.2.2, fun q => absurd (hw.symm.trans q) (by decide)⟩
end Mine
end
section
open PySem PySem.W PyProof.Rows PySem.Claim2Try PySem.Pin
namespace Mine

/-! a namespace told as a list of names and values -/
noncomputable def kv (e : DictEntry) : Option Str × Value := (match e.key with | .str n _ => some n | _ => none, e.val)
noncomputable def NsL (h : Heap) (a : Addr) (l : List (Str × Value)) : Prop := ∃ es n, h.get? a = some (dictOf es n) ∧ es.map kv = l.map fun x => (some x.1, x.2)
noncomputable def putP (name : Str) (v : Value) : List (Str × Value) → List (Str × Value)
  | [] => [(name, v)]
  | x :: r => if x.1 = name then (x.1, v) :: r else x :: putP name v r

theorem kv_str {e : DictEntry} {n : Str} {v : Value} (h : kv e = (some n, v)) : (∃ t, e.key = .str n t) ∧ e.val = v := by
  unfold kv at h
  obtain ⟨h1, h2⟩ := Prod.mk.inj h
  refine ⟨?_, h2⟩
  cases hk : e.key with
  | str m t => rw [hk] at h1; cases h1; exact ⟨t, rfl⟩
  | _ => rw [hk] at h1; cases h1
theorem isStr_kv {e : DictEntry} {n m : Str} {v : Value} (h : kv e = (some n, v)) : e.key.isStr m = decide (n = m) := by
  obtain ⟨⟨t, ht⟩, _⟩ := kv_str h
  rw [ht]
  show (n == m) = _
  rfl

theorem putL_kv (name : Str) (hs : Int) (t : Tok) (v : Value) : ∀ (es : List DictEntry) (l : List (Str × Value)), es.map kv = l.map (fun x => (some x.1, x.2)) →
    (putL name hs (.str name t) v es).map kv = (putP name v l).map fun x => (some x.1, x.2)
  | [], [], _ => rfl
  | [], _ :: _, h => by cases h
  | _ :: _, [], h => by cases h
  | e :: es, x :: l, h => by
    rw [List.map_cons, List.map_cons] at h
    obtain ⟨h1, h2⟩ := List.cons.inj h
    unfold putL putP
    rw [isStr_kv h1]
    by_cases q : x.1 = name
    · simp only [q, decide_true, if_true, List.map_cons]
      rw [h2]
      obtain ⟨⟨t', ht⟩, _⟩ := kv_str h1
      simp [kv, ht, q]
    · simp only [q, decide_false, Bool.false_eq_true, if_false, List.map_cons]
      rw [h1, putL_kv name hs t v es l h2]

theorem find_kv (name : Str) : ∀ (es : List DictEntry) (l : List (Str × Value)), es.map kv = l.map (fun x => (some x.1, x.2)) → (es.find? fun e => e.key.isStr name).map (·.val) = l.lookup name
  | [], [], _ => rfl
  | [], _ :: _, h => by cases h
  | _ :: _, [], h => by cases h
  | e :: es, x :: l, h => by
    rw [List.map_cons, List.map_cons] at h
    obtain ⟨h1, h2⟩ := List.cons.inj h
    obtain ⟨⟨t', ht⟩, hv⟩ := kv_str h1
    obtain ⟨xn, xv⟩ := x
    rw [List.find?_cons, isStr_kv h1, List.lookup_cons]
    by_cases q : xn = name
    · subst q; simp [hv]
    · have : (name == xn) = false := by rw [beq_eq_false_iff_ne]; exact fun e => q e.symm
      simp only [q, decide_false, this]
      exact find_kv name es l h2

theorem strKeys_kv {es : List DictEntry} {l : List (Str × Value)} (h : es.map kv = l.map fun x => (some x.1, x.2)) : ∀ e ∈ es, ∃ n t, e.key = .str n t := by
  intro e he
  have : kv e ∈ l.map fun x => (some x.1, x.2) := by rw [← h]; exact List.mem_map_of_mem he
  obtain ⟨x, _, hx⟩ := List.mem_map.mp this
  obtain ⟨⟨t, ht⟩, _⟩ := kv_str hx.symm
  exact ⟨_, t, ht⟩

theorem NsL.ns {h : Heap} {a : Addr} {l : List (Str × Value)} (x : NsL h a l) : h.Ns a fun n => l.lookup n := by
  obtain ⟨es, n, ho, he⟩ := x
  refine ⟨_, _, _, ho, rfl, fun e hm => strKeys_kv he e (by simpa using hm), fun name => ?_⟩
  unfold nsFind findBy
  rw [List.find?_toArray]
  exact find_kv name es l he
theorem NsL.at {h h' : Heap} {a : Addr} {l : List (Str × Value)} (x : NsL h a l) (k : ∀ o, h.get? a = some o → h'.get? a = some o) : NsL h' a l :=
  let ⟨es, n, ho, he⟩ := x; ⟨es, n, k _ ho, he⟩
theorem NsL.keeps {h h' : Heap} {a : Addr} {l : List (Str × Value)} (x : NsL h a l) (k : ∀ b o, h.get? b = some o → h'.get? b = some o) : NsL h' a l := x.at fun _ => k _ _

section
variable {M : Model} {A : Around} {E : Value → Shared → Prop} {s : Shared}
theorem wpAny_nsSetL {a : Addr} {l : List (Str × Value)} {name : Str} {v : Value} {Q : Unit → Shared → Prop} (hn : NsL s.heap a l)
    (h : ∀ h', NsL h' a (putP name v l) → Heap.SameBut a s.heap h' → Q () { s with heap := h', toks := s.toks + 1 }) : wpAny M A (nsSet a name v) Q E s := by
  obtain ⟨es, n, ho, he⟩ := hn
  unfold nsSet
  refine wpAny_bind ?_
  unfold strHash
  refine wpAny_bind (wpAny_askSetting (wpAny_pure ?_))
  refine wpAny_bind (wpAny_mkText (wpAny_bind (wpAny_loadPart ho ?_)))
  dsimp only
  rw [aRefKeyMayBeTheName_at, if_neg]
  · exact wpAny_updatePart ho (h _ ⟨_, _, (Heap.get?_update_self _ ho (by rw [putName_dict]; rfl)).trans (congrArg some (putName_dict ..)), putL_kv name _ _ v es l he⟩ (Heap.SameBut.update ..))
  · rw [Bool.and_eq_true]
    rintro ⟨_, h2⟩
    rw [List.any_toArray] at h2
    obtain ⟨e, hm, hr⟩ := List.any_eq_true.mp h2
    obtain ⟨m, t, ht⟩ := strKeys_kv he e hm
    rw [DictEntry.refKey, ht] at hr
    cases hr
end
end Mine
end
section
open PySem PySem.W PyProof.Rows PySem.Claim2Try PySem.Pin
namespace Mine

/-- a def of the text stands as a function object, everything of it at or above lo -/
inductive FnAt (h : Heap) (lo : Nat) (v : Value) (name qual : Str) (params : Arguments) (body : List Stmt) (scope : Scope) : Prop
  | mk (a : Addr) (dV pm : Value) (c : Addr) (doc : Value) (P : Addr) (dv : List Value) (e : v = .ref a) (la : lo ≤ a) (lc : lo ≤ c) (lP : lo ≤ P)
    (ha : h.get? a = some { cls := .type "function", data := .func (defFd name qual params body scope mainGlobals dV .none none pm (.ref c) doc) })
    (hr : h.CodeRec (.ref c) qual) (hc : h.IsCode c P #[]) (ht : h.TableAt c P #[]) (hd : h.DefaultsAt lo dv dV) (hv : ConstVals params.defaults dv) : FnAt h lo v name qual params body scope

inductive CodeS (h : Heap) (c P : Addr) (ps : Array Value) : Prop
  | mk (o : Obj) (vs : Array Value) (file : Str) (tf : Tok) (flags : Int) (tg : Tok) (inF : Bool) (text : Int) (tt : Tok) (op : Obj) (ho : h.get? c = some o) (hd : o.data = .fields vs) (h11 : vs.getD 11 .none = .ref P) (h18 : vs.getD 18 .none = .str file tf)
    (h7 : vs.getD 7 .none = .int flags tg) (h9 : vs.getD 9 .none = .bool inF) (h10 : vs.getD 10 .none = .int text tt) (hop : h.get? P = some op) (hpd : op.data = .fields ps) (htr : TriplesOk ps.toList) (hne : c ≠ P) : CodeS h c P ps
theorem exK {α : Type} {p : α → Prop} {C : Prop} (k : ∀ x, p x → C) (h : ∃ x, p x) : C := h.elim k
theorem andK {a b C : Prop} (k : a → b → C) (h : a ∧ b) : C := k h.1 h.2
theorem codeFacts {h : Heap} {c P : Addr} {ps : Array Value} (x : h.IsCode c P ps) : CodeS h c P ps :=
  (exK fun o => exK fun vs => exK fun file => exK fun tf => exK fun flags => exK fun tg => exK fun inF => exK fun text => exK fun tt => exK fun op =>
    andK fun a => andK fun r1 => andK fun r2 => andK fun r3 => andK fun r4 => andK fun r5 => andK fun r6 => andK fun b => andK fun r7 => andK fun r8 r9 => ⟨o, vs, file, tf, flags, tg, inF, text, tt, op, a, r1, r2, r3, r4, r5, r6, b, r7, r8, r9⟩) x
theorem isCode_at {h h' : Heap} {c P : Addr} {ps} (x : h.IsCode c P ps) (kc : ∀ o, h.get? c = some o → h'.get? c = some o) (kP : ∀ o, h.get? P = some o → h'.get? P = some o) : h'.IsCode c P ps := by
  obtain ⟨o, vs, file, tf, flags, tg, inF, text, tt, op, a, r1, r2, r3, r4, r5, r6, b, r7, r8, r9⟩ := codeFacts x
  exact ⟨o, vs, file, tf, flags, tg, inF, text, tt, op, kc _ a, r1, r2, r3, r4, r5, r6, kP _ b, r7, r8, r9⟩

theorem FnAt.keeps {h h' : Heap} {lo : Nat} {v : Value} {name qual : Str} {params : Arguments} {body : List Stmt} {scope : Scope} (x : FnAt h lo v name qual params body scope)
    (k : ∀ b o, lo ≤ b → h.get? b = some o → h'.get? b = some o) : FnAt h' lo v name qual params body scope := by
  obtain ⟨a, dV, pm, c, doc, P, dv, e, ha, hc, hP, ho, hr, hi, ht, hd, hv⟩ := x
  refine ⟨a, dV, pm, c, doc, P, dv, e, ha, hc, hP, k _ _ ha ho, hr.at fun o => k _ _ hc, isCode_at hi (fun o => k _ _ hc) (fun o => k _ _ hP), ?_, ?_, hv⟩
  · obtain ⟨⟨o, vs, q, r⟩, t⟩ := ht
    exact ⟨⟨o, vs, k _ _ hc q, r⟩, k _ _ hP t⟩
  · rcases hd with hd | ⟨n, T, e, hT, g⟩
    · exact .inl hd
    · exact .inr ⟨n, T, e, hT, k _ _ hT g⟩
theorem FnAt.lower {h : Heap} {lo lo' : Nat} {v : Value} {name qual : Str} {params : Arguments} {body : List Stmt} {scope : Scope} (x : FnAt h lo v name qual params body scope) (hl : lo' ≤ lo) : FnAt h lo' v name qual params body scope := by
  obtain ⟨a, dV, pm, c, doc, P, dv, e, ha, hc, hP, ho, hr, hi, ht, hd, hv⟩ := x
  refine ⟨a, dV, pm, c, doc, P, dv, e, Nat.le_trans hl ha, Nat.le_trans hl hc, Nat.le_trans hl hP, ho, hr, hi, ht, ?_, hv⟩
  rcases hd with hd | ⟨n, T, e, hT, g⟩
  · exact .inl hd
  · exact .inr ⟨n, T, e, Nat.le_trans hl hT, g⟩

/-- a def that the head's rule takes -/
structure DefOk (params : Arguments) (scope : Scope) : Prop where
  kw : params.kwonlyargs = []
  kd : params.kw_defaults = []
  const : ∀ e ∈ params.defaults, e.isPlainConst = true
  ann : ∀ env, annTrees params none env = []
  free : ∀ x ∈ scope.names, x.2 ≠ .free

noncomputable def defOkB (params : Arguments) (scope : Scope) : Bool :=
  params.kwonlyargs.isEmpty && params.kw_defaults.isEmpty && params.defaults.all Expr.isPlainConst && params.vararg.isNone && params.kwarg.isNone && params.posonlyargs.isEmpty && params.args.all (·.annotation.isNone) && scope.names.all (fun x => x.2 != .free)

theorem annotationsOf_none (env : Env) : ∀ l : List Arg, l.all (·.annotation.isNone) = true → annotationsOf l env = []
  | [], _ => rfl
  | ⟨n, none, p⟩ :: r, h => by
    rw [arm_annotationsOf_cons_2]
    exact annotationsOf_none env r (by simpa using h)
  | ⟨n, some a, p⟩ :: r, h => by simp at h
theorem defOk_of {params : Arguments} {scope : Scope} (h : defOkB params scope = true) : DefOk params scope := by
  obtain ⟨po, a, va, ko, kd, kwa, d⟩ := params
  simp only [defOkB, Bool.and_eq_true, List.isEmpty_iff, Option.isNone_iff_eq_none, List.all_eq_true] at h
  obtain ⟨⟨⟨⟨⟨⟨⟨h1, h2⟩, h3⟩, h4⟩, h5⟩, h6⟩, h7⟩, h8⟩ := h
  subst h1 h2 h4 h5 h6
  refine ⟨rfl, rfl, h3, fun env => ?_, fun x hx => by simpa using h8 x hx⟩
  unfold annTrees
  show annotationsOf (a ++ [] ++ [] ++ [] ++ []) env ++ [] = []
  rw [List.append_nil, List.append_nil, List.append_nil, List.append_nil, List.append_nil]
  exact annotationsOf_none env a (List.all_eq_true.mpr fun x hx => by rw [h7 x hx]; rfl)

section
variable {M : Model} {A : Around} {E : Value → Shared → Prop} {s : Shared}
theorem wpAny_defAny {env : Env} {c Pl : Addr} {name : Str} {params : Arguments} {body : List Stmt} {scope : Scope} {pos : Pos} {mg} {ps : Array Value} {Q : Flow → Shared → Prop}
    (ok : DefOk params scope) (hgl : env.globals = mainGlobals) (hg : s.heap.Ns mainGlobals mg) (hcode : env.code = .ref c) (hok : s.heap.IsCode c Pl ps) (hnf : codeAmong pos ps.toList = none) (hgP : mainGlobals ≠ Pl)
    (hb : s.heap.BuiltinsAt mg Pl)
    (h : ∀ v c' h' tk, FnAt h' s.heap.objs.size v name (qualnameIn env name name) params body scope → Heap.ExtBut Pl s.heap h' → s.heap.objs.size ≤ h'.objs.size → h'.IsCode c Pl (ps ++ #[rawInt pos.line, rawInt pos.col, .ref c']) →
      wpAny M A (bindName env name v) (fun _ s' => Q .next s') E { s with heap := h', toks := tk }) :
    wpAny M A (exec (.FunctionDef name params body [] none [] scope none name pos) env) Q E s := by
  have hg' : s.heap.Ns env.globals mg := hgl ▸ hg
  have hgP' : env.globals ≠ Pl := hgl ▸ hgP
  rw [exec_def, defaultsOf_eq, ok.kd, ok.ann]
  refine wpAny_bind (wpAny_standAt (wpAny_bind (wpAny_holding ?_)))
  refine wpAny_bind (wpAny_evalAll_consts _ _ _ ok.const fun vs tk₁ hvs => ?_)
  refine wpAny_bind (wpAny_holding (wpAny_pure ?_))
  refine wpAny_holding ?_
  refine wpAny_bind (wpAny_pure ?_)
  refine wpAny_makeFunction_d0N (s := { s with toks := tk₁ }) (env := env) (c := c) (Pl := Pl) ok.kw ok.free hg' hcode hok hnf hgP' hb
    fun dV c' doc h₂ tk₃ hdef hx hge hlt hok' hrec htb => ?_
  obtain ⟨P', hP', hi, ht⟩ := htb
  dsimp only at hdef hx hge hP'
  have hsz : s.heap.objs.size ≤ h₂.objs.size := Nat.le_trans hge (Nat.le_of_lt hlt)
  have hPl : Pl < s.heap.objs.size := hok.lt.2
  rw [hgl]
  refine wpAny_bind (wpAny_standAt (wpAny_bind ?_))
  refine wpAny_mono (h (.ref h₂.objs.size) c' _ tk₃ ⟨_, dV, _, c', doc, P', vs, rfl, hsz, hge, hP', Heap.get?_push_size _ rfl, hrec.at fun o => Heap.get?_push_of_some _, hi.push _, ht.push _, ?_, hvs⟩
    (fun b o hb' e => Heap.get?_push_of_some _ (hx b o hb' e)) (by rw [Heap.size_push]; omega) (hok'.push _)) (fun _ _ z => wpAny_pure z) fun _ _ z => z
  rcases hdef with hd | ⟨hne, T, e, hT, hg⟩
  · exact .inl hd
  · exact .inr ⟨hne, T, e, hT, Heap.get?_push_of_some _ hg⟩
end
end Mine
end
section
open PySem PySem.W PyProof.Rows PySem.Claim2Try PySem.Pin
namespace Mine

noncomputable def clsEnv (scope : Scope) (qual : Str) (nsA c F : Addr) : Env :=
  { scope := scope, locals := nsA, globals := mainGlobals, cells := [], qual := qual ++ ".", code := .ref c, frame := some F, builtins := builtinsNs }

noncomputable def nameOf : Stmt → Str
  | .Assign [.Name n _] _ _ => n
  | .FunctionDef n _ _ _ _ _ _ _ _ _ => n
  | _ => Str.empty
noncomputable def placeOf : Stmt → Pos
  | .Assign _ _ p => p
  | .FunctionDef _ _ _ _ _ _ _ _ _ p => p
  | _ => default
noncomputable def eltOk : Expr → Bool
  | .Name x _ => x != ("__debug__" : Str)
  | .Constant (.int _) _ _ => true
  | _ => false
inductive EltV : Expr → Prop
  | name (x : Str) (p : Pos) (h : (x == ("__debug__" : Str)) = false) : EltV (.Name x p)
  | int (i : Int) (k : Nat) (p : Pos) : EltV (.Constant (.int i) k p)
theorem eltOk_cases {e : Expr} (h : eltOk e = true) : EltV e := by
  cases e with
  | Name x p => exact .name x p ((Bool.not_eq_true' _).mp h)
  | Constant c k p =>
    cases c with
    | int i => exact .int _ _ _
    | _ => exact absurd h Bool.false_ne_true
  | _ => exact absurd h Bool.false_ne_true
noncomputable def clsStmtB : Stmt → Bool
  | .Assign [.Name _ _] (.Constant (.int _) _ _) _ => true
  | .Assign [.Name _ _] (.Constant (.str _) _ _) _ => true
  | .Assign [.Name _ _] (.List elts _) _ => elts.all eltOk && decide (elts.length ≤ 1000)
  | .FunctionDef n params _ [] none [] scope none m _ => decide (n = m) && defOkB params scope
  | _ => false
noncomputable def eltNames : List Expr → List Str
  | [] => []
  | .Name x _ :: r => x :: eltNames r
  | _ :: r => eltNames r
noncomputable def namesRead : Stmt → List Str
  | .Assign [.Name _ _] (.List elts _) _ => eltNames elts
  | _ => []

/-- the items of a list display in a class body -/
inductive Items (l : List (Str × Value)) : List Expr → List Value → Prop
  | nil : Items l [] []
  | name {x : Str} {p : Pos} {es : List Expr} {v : Value} {vs : List Value} (h : l.lookup x = some v) (r : Items l es vs) : Items l (.Name x p :: es) (v :: vs)
  | const {c : Const} {k : Nat} {p : Pos} {es : List Expr} {v : Value} {vs : List Value} (h : c.Val v) (r : Items l es vs) : Items l (.Constant c k p :: es) (v :: vs)

inductive Made (h : Heap) (lo : Nat) (qual : Str) (l : List (Str × Value)) : Stmt → Value → Prop
  | asg {n : Str} {p : Pos} {c : Const} {k : Nat} {r q : Pos} {v : Value} (x : c.Val v) : Made h lo qual l (.Assign [.Name n p] (.Constant c k r) q) v
  | lst {n : Str} {p : Pos} {elts : List Expr} {r q : Pos} {a : Addr} {vs : List Value} (ha : lo ≤ a) (g : h.get? a = some { cls := .type "list", data := .seq vs.toArray }) (i : Items l elts vs) : Made h lo qual l (.Assign [.Name n p] (.List elts r) q) (.ref a)
  | fn {n : Str} {params : Arguments} {body : List Stmt} {d1 : List Expr} {d2 : Option Expr} {d3 : List TypeParam} {scope : Scope} {d4 : Option Scope} {d5 : Str} {d6 : Pos} {v : Value} (x : FnAt h lo v n (qual ++ "." ++ n) params body scope) : Made h lo qual l (.FunctionDef n params body d1 d2 d3 scope d4 d5 d6) v
noncomputable def BodyMade (h : Heap) (lo : Nat) (qual : Str) : List (Str × Value) → List Stmt → List (Str × Value) → Prop
  | l, [], l' => l' = l
  | l, st :: r, l' => ∃ v, Made h lo qual l st v ∧ BodyMade h lo qual (putP (nameOf st) v l) r l'

theorem Made.keeps {h h' : Heap} {lo : Nat} {qual : Str} {l : List (Str × Value)} {st : Stmt} {v : Value} (x : Made h lo qual l st v) (k : ∀ b o, lo ≤ b → h.get? b = some o → h'.get? b = some o) : Made h' lo qual l st v := by
  cases x with
  | asg x => exact .asg x
  | lst ha g i => exact .lst ha (k _ _ ha g) i
  | fn x => exact .fn (x.keeps k)
theorem BodyMade.keeps {h h' : Heap} {lo : Nat} {qual : Str} (k : ∀ b o, lo ≤ b → h.get? b = some o → h'.get? b = some o) : ∀ {b : List Stmt} {l l' : List (Str × Value)}, BodyMade h lo qual l b l' → BodyMade h' lo qual l b l'
  | [], _, _, x => x
  | _ :: _, _, _, ⟨v, m, r⟩ => ⟨v, m.keeps k, BodyMade.keeps k r⟩

inductive LinesBelow (L : Nat) : List Value → Prop
  | nil : LinesBelow L []
  | cons {a b : Int} {ta tb : Tok} {c : Value} {rest : List Value} (h : a < L) (r : LinesBelow L rest) : LinesBelow L (.int a ta :: .int b tb :: c :: rest)
theorem codeAmong_below {L : Nat} {pos : Pos} (hp : L ≤ pos.line) : ∀ l : List Value, LinesBelow L l → codeAmong pos l = none := by
  intro l h
  induction h with
  | nil => rfl
  | cons ha _ ih =>
    unfold codeAmong
    rw [if_neg]
    · exact ih
    · rw [Bool.and_eq_true]
      rintro ⟨e, _⟩
      have := beq_iff_eq.mp e
      omega
theorem LinesBelow.mono {L L' : Nat} (hL : L ≤ L') {l : List Value} (h : LinesBelow L l) : LinesBelow L' l := by
  induction h with
  | nil => exact .nil
  | cons ha _ ih => exact .cons (by omega) ih
theorem LinesBelow.snoc {L : Nat} {a b : Nat} {c : Value} (ha : a < L) {l : List Value} (h : LinesBelow L l) : LinesBelow L (l ++ [rawInt a, rawInt b, c]) := by
  induction h with
  | nil => exact .cons (by omega) .nil
  | cons ha _ ih => exact .cons ha ih

section
variable {M : Model} {A : Around} {E : Value → Shared → Prop} {s : Shared} {scope : Scope} {qual : Str} {nsA c F : Addr}

theorem storeName_clsEnv {x : Str} {v : Value} {l : List (Str × Value)} {Q : Unit → Shared → Prop} (hk : scope.kind = .class) (hl : scope.names.lookup x = some .local ∨ (scope.names.lookup x = none ∧ compilersOwnNames.contains x = true)) (hn : NsL s.heap nsA l)
    (h : ∀ h', NsL h' nsA (putP x v l) → Heap.SameBut nsA s.heap h' → Q () { s with heap := h', toks := s.toks + 1 }) : wpAny M A (storeName (clsEnv scope qual nsA c F) x v) Q E s := by
  have e : storeName (clsEnv scope qual nsA c F) x v = localSet (clsEnv scope qual nsA c F) x v := by
    have hb : (clsEnv scope qual nsA c F).blockKind = .class := by
      show (if scope.kind.isAnnotationScope then ScopeKind.function else scope.kind) = _
      rw [hk]; rfl
    have hs : (clsEnv scope qual nsA c F).scope.kind = .class := hk
    unfold storeName
    rcases hl with hl | ⟨hl, hc⟩
    · have hkd : (clsEnv scope qual nsA c F).kindOf x = some .local := hl
      rw [hkd, hs, hb]
      rfl
    · have hkd : (clsEnv scope qual nsA c F).kindOf x = none := hl
      rw [hkd, hs, hb, hc]
      rfl
  rw [e]
  unfold localSet
  obtain ⟨es, n, ho, he⟩ := id hn
  refine wpAny_bind (wpAny_load (o := dictOf es n) ho ?_)
  rw [if_pos (show ((Value.type "dict") == Value.type "dict") = true from by decide)]
  exact wpAny_nsSetL hn h

theorem loadName_clsEnv {x : Str} {v : Value} {l : List (Str × Value)} {Q : Value → Shared → Prop} (hk : scope.kind = .class) (hl : scope.names.lookup x = some .local) (hn : NsL s.heap nsA l) (hv : l.lookup x = some v)
    (h : Q v s) : wpAny M A (loadName (clsEnv scope qual nsA c F) x) Q E s := by
  have hb : (clsEnv scope qual nsA c F).blockKind = .class := by
    show (if scope.kind.isAnnotationScope then ScopeKind.function else scope.kind) = _
    rw [hk]; rfl
  have hkd : (clsEnv scope qual nsA c F).kindOf x = some .local := hl
  have hs : (clsEnv scope qual nsA c F).scope.kind = .class := hk
  unfold loadName
  rw [hs, hb, hkd]
  obtain ⟨es, n, ho, he⟩ := id hn
  show wpAny M A (localGet (clsEnv scope qual nsA c F) x >>= _) Q E s
  unfold localGet
  refine wpAny_bind (wpAny_bind (wpAny_load (o := dictOf es n) ho ?_))
  rw [if_pos (show ((Value.type "dict") == Value.type "dict") = true from by decide)]
  refine wpAny_nsGet hn.ns ?_
  rw [hv]
  exact wpAny_pure h

theorem items_clsEnv {pos : Pos} {l : List (Str × Value)} (hk : scope.kind = .class) (elts : List Expr) :
    ∀ (s : Shared) (Q : List Value → Shared → Prop), elts.all eltOk = true → (∀ x ∈ eltNames elts, scope.names.lookup x = some .local ∧ (l.lookup x).isSome = true) → NsL s.heap nsA l →
      (∀ vs tk, Items l elts vs → vs.length = elts.length → Q vs { s with toks := tk }) → wpAny M A (spliced (backTo pos (starEach elts (clsEnv scope qual nsA c F)))) Q E s := by
  induction elts with
  | nil => intro s Q _ _ _ h; exact wpAny_items_nil (h [] s.toks .nil rfl)
  | cons e r ih =>
    intro s Q ok hn hN h
    rw [List.all_cons, Bool.and_eq_true] at ok
    obtain ⟨x, p, hd⟩ | ⟨i, k, p⟩ := eltOk_cases ok.1
    · obtain ⟨hx, hs⟩ := hn x (List.mem_cons_self ..)
      obtain ⟨v, hv⟩ := Option.isSome_iff_exists.mp hs
      refine wpAny_items_cons (wpAny_Name (loadName_clsEnv hk hx hN hv ?_) hd)
      exact ih s _ ok.2 (fun y hy => hn y (List.mem_cons_of_mem _ hy)) hN fun vs tk hi hlen => h (v :: vs) tk (.name hv hi) (by simp [hlen])
    · refine wpAny_items_cons (wpAny_Constant_int ?_)
      exact ih _ _ ok.2 hn hN fun vs tk hi hlen => h (_ :: vs) tk (.const ⟨_, rfl⟩ hi) (by simp [hlen])
end
end Mine
end
section
open PySem PySem.W PyProof.Rows PySem.Claim2Try PySem.Pin
namespace Mine

structure Base (h0 : Heap) (mg : Str → Option Value) (nsA c Pl : Addr) : Prop where
  g : h0.Ns mainGlobals mg
  b : h0.BuiltinsAt mg Pl
  gP : mainGlobals ≠ Pl
  gN : mainGlobals ≠ nsA
  nP : nsA ≠ Pl
  nc : nsA ≠ c
  bN : ∀ bm, mg "__builtins__" = some (.ref bm) → bm ≠ nsA
noncomputable def Keep (h0 h : Heap) (nsA Pl : Addr) : Prop := ∀ b o, b ≠ Pl → b ≠ nsA → h0.get? b = some o → h.get? b = some o
theorem Base.g' {h0 h : Heap} {mg : Str → Option Value} {nsA c Pl : Addr} (B : Base h0 mg nsA c Pl) (K : Keep h0 h nsA Pl) : h.Ns mainGlobals mg := B.g.at fun o => K _ o B.gP B.gN
theorem Base.b' {h0 h : Heap} {mg : Str → Option Value} {nsA c Pl : Addr} (B : Base h0 mg nsA c Pl) (K : Keep h0 h nsA Pl) : h.BuiltinsAt mg Pl := by
  obtain ⟨bm, o, h1, h2, h3, h4, h5, h6⟩ := B.b
  exact ⟨bm, o, h1, h2, h3, h4, K _ _ h4 (B.bN bm h1) h5, h6⟩
theorem Keep.trans {h0 h h' : Heap} {nsA Pl : Addr} (K : Keep h0 h nsA Pl) (K' : Keep h h' nsA Pl) : Keep h0 h' nsA Pl := fun b o h1 h2 e => K' b o h1 h2 (K b o h1 h2 e)
theorem Keep.size {h h' : Heap} (hs : h.objs.size ≤ h'.objs.size) : h.objs.size ≤ h'.objs.size := hs

inductive ClsV : Stmt → Prop
  | asg (n : Str) (p : Pos) (c : Const) (k : Nat) (r q : Pos) (he : (Expr.Constant c k r).isPlainConst = true) : ClsV (.Assign [.Name n p] (.Constant c k r) q)
  | lst (n : Str) (p : Pos) (elts : List Expr) (r q : Pos) (he : elts.all eltOk = true) (hlen : elts.length ≤ 1000) : ClsV (.Assign [.Name n p] (.List elts r) q)
  | fn (n : Str) (params : Arguments) (body : List Stmt) (sc : Scope) (pos : Pos) (he : defOkB params sc = true) : ClsV (.FunctionDef n params body [] none [] sc none n pos)
theorem clsStmt_cases {st : Stmt} (h : clsStmtB st = true) : ClsV st := by
  cases st with
  | Assign ts e p =>
    cases ts with
    | nil => cases h
    | cons t ts =>
      cases t with
      | Name x q =>
        cases ts with
        | cons _ _ => cases e <;> exact absurd h Bool.false_ne_true
        | nil =>
          cases e with
          | Constant c k r =>
            cases c with
            | int _ => exact .asg _ _ _ _ _ _ rfl
            | str _ => exact .asg _ _ _ _ _ _ rfl
            | _ => exact absurd h Bool.false_ne_true
          | List es r =>
            have h : (es.all eltOk && decide (es.length ≤ 1000)) = true := h
            rw [Bool.and_eq_true] at h
            exact .lst _ _ _ _ _ h.1 (of_decide_eq_true h.2)
          | _ => exact absurd h Bool.false_ne_true
      | _ => exact absurd h Bool.false_ne_true
  | FunctionDef n params b ds r tp scope ts m p =>
    cases ds with
    | cons _ _ => cases h
    | nil =>
      cases r with
      | some _ => cases h
      | none =>
        cases tp with
        | cons _ _ => cases h
        | nil =>
          cases ts with
          | some _ => cases h
          | none =>
            have h : (decide (n = m) && defOkB params scope) = true := h
            rw [Bool.and_eq_true] at h
            obtain rfl := of_decide_eq_true h.1
            exact .fn _ _ _ _ _ h.2
  | _ => exact absurd h Bool.false_ne_true

section
variable {M : Model} {A : Around} {E : Value → Shared → Prop} {scope : Scope} {qual : Str} {nsA c F Pl : Addr} {lo : Nat} {h0 : Heap} {mg : Str → Option Value}

theorem wpAny_clsStmt {s : Shared} {l : List (Str × Value)} {ps : Array Value} {L : Nat} {st : Stmt} {Q : Flow → Shared → Prop} (B : Base h0 mg nsA c Pl) (hk : scope.kind = .class)
    (hloc : scope.names.lookup (nameOf st) = some .local) (ok : clsStmtB st = true) (K : Keep h0 s.heap nsA Pl) (hn : NsL s.heap nsA l) (hok : s.heap.IsCode c Pl ps) (hL : LinesBelow L ps.toList) (hp : L ≤ (placeOf st).line) (hlo : lo ≤ s.heap.objs.size)
    (hr : ∀ x ∈ namesRead st, scope.names.lookup x = some .local ∧ (l.lookup x).isSome = true)
    (h : ∀ v h' tk ps', Made h' lo qual l st v → NsL h' nsA (putP (nameOf st) v l) → h'.IsCode c Pl ps' → LinesBelow ((placeOf st).line + 1) ps'.toList → Keep s.heap h' nsA Pl → s.heap.objs.size ≤ h'.objs.size → Q .next { s with heap := h', toks := tk }) :
    wpAny M A (exec st (clsEnv scope qual nsA c F)) Q E s := by
  obtain ⟨n, p, c0, k0, r0, q, he⟩ | ⟨n, p, elts, r, q, he, hlen⟩ | ⟨n, params, body, sc, pos, he⟩ := clsStmt_cases ok
  · refine wpAny_Assign_Name (wpAny_eval_const he fun v tk hv => ?_)
    refine storeName_clsEnv hk (.inl hloc) hn fun h' hn' hs' => ?_
    exact h v h' _ ps (.asg hv) hn' (hok.sameBut hs' B.nc.symm B.nP.symm) (hL.mono (Nat.le_succ_of_le hp)) (fun b o _ hb e => (hs'.2 b hb).trans e) (Nat.le_of_eq hs'.1.symm)
  · refine wpAny_Assign_Name (List_ (items_clsEnv hk elts s _ he hr hn fun vs tk hi hvl => ?_))
    refine wpAny_newObj_type ?_ (by show vs.toArray.size ≤ sizeLine; rw [List.size_toArray, hvl, sizeLine]; omega)
    refine storeName_clsEnv (l := l) hk (.inl hloc) (hn.keeps fun b o e => Heap.get?_push_of_some _ e) fun h' hn' hs' => ?_
    have hne : s.heap.objs.size ≠ nsA := fun e => by
      obtain ⟨es, m, ho, _⟩ := hn
      have := Heap.lt_size ho
      rw [e] at this
      exact Nat.lt_irrefl _ this
    dsimp only at hs' hn'
    refine h _ h' _ ps (.lst hlo ((hs'.2 _ hne).trans (Heap.get?_push_size _ rfl)) hi) hn' ((hok.push _).sameBut hs' B.nc.symm B.nP.symm) (hL.mono (Nat.le_succ_of_le hp)) (fun b o _ hb e => (hs'.2 b hb).trans (Heap.get?_push_of_some _ e)) ?_
    rw [hs'.1, Heap.size_push]; omega
  · have hnl : nsA < s.heap.objs.size := by obtain ⟨es, m, ho, _⟩ := hn; exact Heap.lt_size ho
    refine wpAny_defAny (defOk_of he) rfl (B.g' K) rfl hok (codeAmong_below hp _ hL) B.gP (B.b' K) fun v c' h' tk hf hx hsz hok' => ?_
    refine wpAny_bindName (storeName_clsEnv (l := l) hk (.inl hloc) (hn.at fun o e => hx _ _ B.nP e) fun h2 hn2 hs2 => ?_)
    dsimp only at hs2 hn2
    refine h v h2 _ (ps ++ #[rawInt pos.line, rawInt pos.col, .ref c']) ?_ hn2 (hok'.sameBut hs2 B.nc.symm B.nP.symm) ?_ (fun b o hb hb2 e => (hs2.2 b hb2).trans (hx b o hb e)) (by rw [hs2.1]; exact hsz)
    · have hq : qualnameIn (clsEnv scope qual nsA c F) n n = qual ++ "." ++ n := by
        unfold qualnameIn
        have : (clsEnv scope qual nsA c F).kindOf n = some .local := hloc
        rw [this]; rfl
      rw [hq] at hf
      exact .fn ((hf.keeps fun b o hb e => (hs2.2 b (Nat.ne_of_gt (Nat.lt_of_lt_of_le hnl hb))).trans e).lower hlo)
    · have e : (ps ++ #[rawInt pos.line, rawInt pos.col, Value.ref c']).toList = ps.toList ++ [rawInt pos.line, rawInt pos.col, .ref c'] := by simp
      rw [e]
      exact (hL.mono (Nat.le_succ_of_le hp)).snoc (Nat.lt_succ_self _)

/-- lines go up from L -/
noncomputable def linesUp : Nat → List Stmt → Bool
  | _, [] => true
  | L, st :: r => decide (L ≤ (placeOf st).line) && linesUp ((placeOf st).line + 1) r
/-- the names that a body's displays read stand before -/
noncomputable def readsOk (known : List Str) : List Stmt → Prop
  | [] => True
  | st :: r => (∀ x ∈ namesRead st, x ∈ known) ∧ readsOk (nameOf st :: known) r

theorem putP_lookup {name : Str} {v : Value} : ∀ {l : List (Str × Value)}, (putP name v l).lookup name = some v
  | [] => by simp [putP]
  | (m, x) :: r => by
    unfold putP
    by_cases e : m = name
    · subst e; simp
    · rw [if_neg e, List.lookup_cons]
      have : (name == m) = false := by rw [beq_eq_false_iff_ne]; exact fun q => e q.symm
      rw [this]; exact putP_lookup
theorem putP_lookup_ne {name x : Str} {v : Value} (hne : x ≠ name) : ∀ {l : List (Str × Value)}, (putP name v l).lookup x = l.lookup x
  | [] => by
    have : (x == name) = false := by rw [beq_eq_false_iff_ne]; exact hne
    simp [putP, List.lookup_cons, this]
  | (m, y) :: r => by
    unfold putP
    by_cases e : m = name
    · subst e
      have : (x == m) = false := by rw [beq_eq_false_iff_ne]; exact hne
      rw [if_pos rfl, List.lookup_cons, List.lookup_cons, this]
    · rw [if_neg e, List.lookup_cons, List.lookup_cons]
      cases x == m with
      | true => rfl
      | false => exact putP_lookup_ne hne

theorem execs_cls (B : Base h0 mg nsA c Pl) (hk : scope.kind = .class) : ∀ (body : List Stmt) (known : List Str) (s : Shared) (l : List (Str × Value)) (ps : Array Value) (L : Nat) (Q : Flow → Shared → Prop),
    body.all clsStmtB = true → (∀ st ∈ body, scope.names.lookup (nameOf st) = some .local) → (∀ x ∈ known, scope.names.lookup x = some .local ∧ (l.lookup x).isSome = true) → readsOk known body → linesUp L body = true →
    Keep h0 s.heap nsA Pl → NsL s.heap nsA l → s.heap.IsCode c Pl ps → LinesBelow L ps.toList → lo ≤ s.heap.objs.size → nsA < lo → Pl < lo →
    (∀ h' tk l' ps', BodyMade h' lo qual l body l' → NsL h' nsA l' → h'.IsCode c Pl ps' → Keep s.heap h' nsA Pl → s.heap.objs.size ≤ h'.objs.size → Q .next { s with heap := h', toks := tk }) →
    wpAny M A (execs body (clsEnv scope qual nsA c F)) Q E s
  | [], _, s, l, ps, L, Q, _, _, _, _, _, _, hn, hok, _, _, _, _, h => wpAny_execs_nil (h s.heap s.toks l ps rfl hn hok (fun _ _ _ _ e => e) (Nat.le_refl _))
  | st :: r, known, s, l, ps, L, Q, ok, hloc, hkn, hrd, hl, K, hn, hok, hL, hlo, hN, hP, h => by
    rw [List.all_cons, Bool.and_eq_true] at ok
    simp only [linesUp, Bool.and_eq_true, decide_eq_true_eq] at hl
    refine wpAny_execs_cons (wpAny_clsStmt B hk (hloc st (List.mem_cons_self ..)) ok.1 K hn hok hL hl.1 hlo (fun x hx => hkn x (hrd.1 x hx)) fun v h' tk ps' hm hn' hok' hL' K' hsz => ?_)
    refine execs_cls B hk r (nameOf st :: known) _ (putP (nameOf st) v l) ps' ((placeOf st).line + 1) Q ok.2 (fun st' hs' => hloc st' (List.mem_cons_of_mem _ hs')) ?_ hrd.2 hl.2 (K.trans K') hn' hok' hL' (Nat.le_trans hlo hsz) hN hP fun h2 tk2 l2 ps2 hb2 hn2 hok2 K2 hsz2 => ?_
    · intro x hx
      by_cases e : x = nameOf st
      · subst e; exact ⟨hloc st (List.mem_cons_self ..), by rw [putP_lookup]; rfl⟩
      · rw [putP_lookup_ne e]
        exact hkn x ((List.mem_cons.mp hx).resolve_left e)
    · exact h h2 tk2 l2 ps2 ⟨v, hm.keeps fun b o hb e => K2 b o (Nat.ne_of_gt (Nat.lt_of_lt_of_le hP hb)) (Nat.ne_of_gt (Nat.lt_of_lt_of_le hN hb)) e, hb2⟩ hn2 hok2 (K'.trans K2) (Nat.le_trans hsz hsz2)
end
end Mine
end
section
set_option maxRecDepth 100000
open PySem PySem.W PyProof.Rows PySem.Claim2Try PySem.Pin Builtin Builtin.ObjectAttr
namespace Mine
section
variable {prog : Program} {w : World} {A : Around} {E : Value → Shared → Prop} {h : Heap} {g : Array GenState} {d : Drawn} {t : Nat} {os : OsState}
theorem nilIn {h : Heap} : Frag.In [] h := fun _ _ e => by cases e
noncomputable abbrev prepObj : Obj := { cls := .type "builtin_function_or_method", data := .fields #[.builtin "type.__prepare__", .type "type"] }
theorem cmd_kind : builtinKind "classmethod_descriptor.__get__" = some .slot := by decide +kernel
theorem cmd_split : splitId "classmethod_descriptor.__get__" = some ("classmethod_descriptor", "__get__") := by decide +kernel
theorem cmd_plain : plainId "classmethod_descriptor.__get__" = true := by decide +kernel
theorem cmd_entry : entryFor table "classmethod_descriptor.__get__" = some Builtin.«classmethod_descriptor.__get__» := entryFor_of_tree (by kernel_rfl)
theorem cmd_args (a b c : Value) : argsOk "classmethod_descriptor.__get__" ⟨[a, b, c], []⟩ := by unfold argsOk; kernel_rfl
theorem prep_run {Q : PySem.Fin → Shared → Prop} (hq : Q (.done (.ret (.ref h.objs.size))) ⟨h.push prepObj, g, d, t, os⟩) :
    wpAny (model prog w) A (Builtin.«classmethod_descriptor.__get__» ⟨[.builtin "type.__prepare__", .none, .type "type"], []⟩) Q E ⟨h, g, d, t, os⟩ := by
  have e : Builtin.«classmethod_descriptor.__get__» ⟨[.builtin "type.__prepare__", .none, .type "type"], []⟩ = (do ret (← newFields "builtin_function_or_method" [.builtin "type.__prepare__", .type "type"])) := by kernel_rfl
  rw [e]
  refine wpAny_bind (wpAny_newObj_type (wpAny_pure hq) (by size_fits))
theorem a1 : subIn [] (.type "type") (.type "type") = some true := by kernel_rfl
theorem L1 {M : Model} {h : Heap} : Looks M h (typeOf (.type "type")) (.type "type") := Looks.of_pure (by kernel_rfl)
theorem a2 {M : Model} {h : Heap} : Looks M h (isInstance (.type "type") (.type "type")) true := L1.andThen (looks_subIn (K := []) nilIn a1)
theorem a4 : findCls [] (.type "type") (.type "type") (Str.ofString "__prepare__") = some (.get (.builtin "classmethod_descriptor.__get__") (.builtin "type.__prepare__") .none (.type "type")) := by kernel_rfl
theorem a5 {M : Model} {h : Heap} : Looks M h (opaqueClassAbove (.type "type")) none := Looks.of_pure (by kernel_rfl)
theorem a6 {M : Model} {h : Heap} : Looks M h (isInstance (.builtin "type.__prepare__") (.type "classmethod_descriptor")) true := Looks.of_pure (by kernel_rfl)
theorem prep_get {Q : Option Value → Shared → Prop} (hq : Q (some (.ref h.objs.size)) ⟨h.push prepObj, g, d, t + 1, os⟩) :
    wpAny (model prog w) A (getAttr? (.type "type") "__prepare__") Q E ⟨h, g, d, t, os⟩ := by
  have L1 := L1 (M := model prog w) (h := h)
  have L2 : Looks (model prog w) h (typeLookup (.type "type") "__getattribute__") (some (.builtin "type.__getattribute__")) := looks_findIn (K := []) nilIn (by kernel_rfl)
  unfold getAttr?
  refine wpAny_bind (wpAny_mkText ?_)
  unfold getAttrBy?
  refine wpAny_bind (wpAny_attempt (wpAny_holding (wpAny_bind (L1.at (wpAny_bind (L2.at ?_))))))
  dsimp only
  rw [if_neg (by decide +kernel)]
  refine wpAny_bind (wpAny_pure (wpAny_bind (wpAny_attempt (wpAny_holding ?_))))
  unfold callGetattribute
  rw [if_neg (by decide +kernel)]
  unfold boundAndCalled
  rw [KF.slot_tga.bind]
  refine wpAny_bind (wpAny_pure ?_)
  show wpAny _ _ (call (.builtin "type.__getattribute__") [.type "type", .str "__prepare__" t]) _ _ _
  refine wpAny_call ?_
  refine codeAny_call_builtin KF.slot_tga.plain KF.entry_tga ?_
  refine @check_slot (model prog w) _ _ ⟨h, g, d, t + 1, os⟩ "type.__getattribute__" "type" "__getattribute__" (.type "type") [.str "__prepare__" t] [] _ (by decide +kernel) (by decide +kernel) a2 (KF.args_tga _ _) ?_
  refine tga_run (s := ⟨h, g, d, t + 1, os⟩) (K := []) (c := .type "type") (mc := .type "type") (name := Str.ofString "__prepare__") (tk := t) (r := .get (.builtin "classmethod_descriptor.__get__") (.builtin "type.__prepare__") .none (.type "type")) nilIn a5 L1 a4 ?_
  refine wpAny_bind (wpAny_holding (wpAny_call ?_))
  refine codeAny_call_builtin cmd_plain cmd_entry (@check_slot (model prog w) _ _ ⟨h, g, d, t + 1, os⟩ "classmethod_descriptor.__get__" "classmethod_descriptor" "__get__" (.builtin "type.__prepare__") [.none, .type "type"] [] _ cmd_kind cmd_split a6 (cmd_args _ _ _) ?_)
  refine prep_run (wpAny_pure ?_)
  refine handed_on rfl ?_
  exact wpAny_pure hq
theorem tp_check (n b : Value) : checkBoundCall "type.__prepare__" ⟨[.type "type", n, b], []⟩ = pure () := by kernel_rfl
theorem tp_entry : entryFor table "type.__prepare__" = some Builtin.«type.__prepare__» := entryFor_of_tree (by kernel_rfl)
theorem prep_call {q : Addr} {n b : Value} {Q : Value → Shared → Prop} (ho : h.get? q = some prepObj) (hq : Q (.ref h.objs.size) ⟨h.push (dictOf [] 0), g, d, t, os⟩) :
    wpAny (model prog w) A (call (.ref q) [n, b] []) Q E ⟨h, g, d, t, os⟩ := by
  refine wpAny_call (codeAny_of_tree ?_)
  show wpAny _ _ (callAny (.ref q) _) _ _ _
  unfold callAny
  refine wpAny_bind (wpAny_load (o := prepObj) ho ?_)
  show wpAny _ _ (checkBoundCall "type.__prepare__" ⟨[.type "type", n, b], []⟩ >>= _) _ _ _
  rw [tp_check]
  refine wpAny_bind (wpAny_pure ?_)
  refine wpAny_bind (wpAny_pure ?_)
  refine wpAny_pure (And.intro (Code.quiet_builtin _ (by decide +kernel)) ?_)
  refine codeAny_builtin tp_entry ?_
  exact wpAny_bind (wpAny_newObj_type (wpAny_pure hq) (by size_fits))
end
end Mine
end
section
set_option maxRecDepth 100000
open PySem PySem.W PyProof.Rows PySem.Claim2Try PySem.Pin Builtin Builtin.ObjectAttr
namespace Mine
section
variable {M : Model} {A : Around} {E : Value → Shared → Prop} {s : Shared}

theorem wpAny_classCode {env : Env} {c P : Addr} {ps : Array Value} {pos : Pos} {firstLine : Nat} {name qual : Str} {scope : Scope} {Q : Value → Shared → Prop}
    (hc : env.code = .ref c) (hok : s.heap.IsCode c P ps) (hnf : codeAmong pos ps.toList = none)
    (hQ : ∀ c' P' h' tk, Heap.ExtBut P s.heap h' → s.heap.objs.size ≤ c' → s.heap.objs.size ≤ P' → s.heap.objs.size ≤ h'.objs.size → h'.IsCode c P (ps ++ #[rawInt pos.line, rawInt pos.col, .ref c']) → h'.IsCode c' P' #[] →
      Q (.ref c') { s with heap := h', toks := tk }) : wpAny M A (classCode env pos firstLine name qual scope) Q E s := by
  obtain ⟨o, vs, file, tf, flags, tg, inF, text, tt, op, ho, hd, h11, h18, h7, h9, h10, hop, hpd, htr, hne⟩ := codeFacts hok
  have hPs : P < s.heap.objs.size := Heap.lt_size hop
  unfold classCode codeAt
  rw [hc, if_neg (show ¬ ((Value.ref c == Value.none) = true) from Bool.false_ne_true)]
  refine wpAny_bind (wpAny_fieldsOf ho hd ?_)
  rw [h11]
  refine wpAny_bind (wpAny_fieldsOf hop hpd ?_)
  rw [hnf, h18, h7, h9, h10]
  refine wpAny_bind (wpAny_newCodeX fun c' P' h' tk hk hc' hP' hcode' _ _ => ?_)
  have hop' := hk _ _ hop
  refine wpAny_bind (wpAny_updateFieldsOfTheText hop' hpd ?_)
  have hnew : (Obj.mapFields (fun vs => if (codeAmong pos vs.toList).isSome = true then vs else vs ++ #[rawInt pos.line, rawInt pos.col, .ref c']) op).data = .fields (ps ++ #[rawInt pos.line, rawInt pos.col, .ref c']) := by
    rw [Obj.data_mapFields hpd, hnf]; rfl
  have hget := Heap.get?_update_self (h := h') (fun o => Obj.mapFields (fun vs => if (codeAmong pos vs.toList).isSome = true then vs else vs ++ #[rawInt pos.line, rawInt pos.col, .ref c']) o) hop' (Obj.isFreed_of_fields hnew)
  refine wpAny_bind (wpAny_fieldsOf hget hnew ?_)
  have hl : (ps ++ #[rawInt pos.line, rawInt pos.col, Value.ref c']).toList = ps.toList ++ [rawInt pos.line, rawInt pos.col, .ref c'] := by simp
  rw [hl, codeAmong_snoc _ htr hnf]
  have hx : ∀ f, Heap.ExtBut P s.heap (h'.update P f) := fun f b o' hb e => (Heap.SameBut.update ..).extBut b o' hb (hk b o' e)
  have hcP : c' ≠ P := Nat.ne_of_gt (Nat.lt_of_lt_of_le hPs hc')
  have hPP : P' ≠ P := Nat.ne_of_gt (Nat.lt_of_lt_of_le hPs hP')
  refine wpAny_pure (hQ c' P' _ _ (hx _) hc' hP' ?_ ?_ ?_)
  · rw [Heap.size_after_update]; exact Nat.le_trans hc' (Nat.le_of_lt hcode'.lt.1)
  · exact ⟨o, vs, file, tf, flags, tg, inF, text, tt, _, hx _ _ _ hne ho, hd, h11, h18, h7, h9, h10, hget, hnew, by rw [hl]; exact TriplesOk_snoc _ _ _ _ htr, hne⟩
  · exact hcode'.extBut (Heap.SameBut.update ..).extBut hcP hPP
end
theorem loadName_clsGlobal {M : Model} {A : Around} {E : Value → Shared → Prop} {s : Shared} {scope : Scope} {qual : Str} {nsA c F : Addr} {x : Str} {v : Value} {l : List (Str × Value)} {mg : Str → Option Value} {Q : Value → Shared → Prop} (hk : scope.kind = .class)
    (hl : scope.names.lookup x = none) (hc : compilersOwnNames.contains x = true) (hn : NsL s.heap nsA l) (hx : l.lookup x = none) (hg : s.heap.Ns mainGlobals mg) (hv : mg x = some v) (h : Q v s) :
    wpAny M A (loadName (clsEnv scope qual nsA c F) x) Q E s := by
  have hb : (clsEnv scope qual nsA c F).blockKind = .class := by
    show (if scope.kind.isAnnotationScope then ScopeKind.function else scope.kind) = _
    rw [hk]; rfl
  have hkd : (clsEnv scope qual nsA c F).kindOf x = none := hl
  have hs : (clsEnv scope qual nsA c F).scope.kind = .class := hk
  unfold loadName
  rw [hs, hb, hkd]
  obtain ⟨es, n, ho, he⟩ := id hn
  show wpAny M A (if (!compilersOwnNames.contains x) = true then _ else _) Q E s
  rw [hc]
  show wpAny M A (localGet (clsEnv scope qual nsA c F) x >>= _) Q E s
  unfold localGet
  refine wpAny_bind (wpAny_bind (wpAny_load (o := dictOf es n) ho ?_))
  rw [if_pos (show ((Value.type "dict") == Value.type "dict") = true from by decide)]
  refine wpAny_nsGet hn.ns ?_
  rw [hx]
  show wpAny M A (loadGlobal (clsEnv scope qual nsA c F) x) Q E s
  unfold loadGlobal
  refine wpAny_bind (wpAny_nsGet (m := mg) hg ?_)
  rw [hv]
  exact wpAny_pure h
theorem start3 (a b c : Value) : putP ("__firstlineno__" : Str) c (putP ("__qualname__" : Str) b (putP ("__module__" : Str) a [])) = [(("__module__" : Str), a), (("__qualname__" : Str), b), (("__firstlineno__" : Str), c)] := by
  have e1 : ¬ (("__module__" : Str) = ("__qualname__" : Str)) := by decide +kernel
  have e2 : ¬ (("__module__" : Str) = ("__firstlineno__" : Str)) := by decide +kernel
  have e3 : ¬ (("__qualname__" : Str) = ("__firstlineno__" : Str)) := by decide +kernel
  simp only [putP, e1, e2, e3, if_false]
/-- what a class body's run finds and leaves -/
structure ClsOk (scope : Scope) (body : List Stmt) (statics : List Str) (L : Nat) : Prop where
  kind : scope.kind = .class
  names : ∀ st ∈ body, scope.names.lookup (nameOf st) = some .local
  stmts : body.all clsStmtB = true
  reads : readsOk [] body
  lines : linesUp L body = true
  free : ∀ x ∈ scope.names, x.2 ≠ .free
  own : ∀ x, compilersOwnNames.contains x = true → scope.names.lookup x = none
  cell : scope.names.lookup ("__class__" : Str) = none ∧ scope.names.lookup ("__classdict__" : Str) = none
  ann : hasAnns body = false
  doc : docOf body = none

section
variable {prog : Program} {w : World} {A : Around} {E : Value → Shared → Prop} {s : Shared}

theorem wpAny_buildClass {name qual : Str} {body : List Stmt} {scope : Scope} {statics : List Str} {firstLine : Nat} {pos : Pos} {c Pl F : Addr} {mg : Str → Option Value} {ps : Array Value} {Q : Value → Shared → Prop}
    (ok : ClsOk scope body statics 0) (hg : s.heap.Ns mainGlobals mg) (hb : s.heap.BuiltinsAt mg Pl) (hgP : mainGlobals ≠ Pl) (hok : s.heap.IsCode c Pl ps) (hnf : codeAmong pos ps.toList = none) (hlim : s.heap.NoLimit) (hstP : cStatics ≠ Pl)
    (hd : A.depth < recursionLimit) (hsys : sysModules < s.heap.objs.size) (hname : ∃ nm, mg "__name__" = some nm)
    (h : ∀ (h' : Heap) tk nm nsA bT l l' ft items lo (tn tq tf : Tok), mg "__name__" = some nm → s.heap.objs.size ≤ nsA → h'.get? bT = some { cls := .type "tuple", data := .seq #[] } → s.heap.objs.size ≤ bT → NsL h' nsA (putP "__static_attributes__" (.ref ft) l') →
      h'.get? ft = some { cls := .type "tuple", data := .seq items } →
      l = [(("__module__" : Str), nm), (("__qualname__" : Str), .str qual tq), (("__firstlineno__" : Str), .int firstLine tf)] → s.heap.objs.size ≤ lo → nsA < lo → BodyMade h' lo qual l body l' → (∀ b o, b ≠ Pl → s.heap.get? b = some o → h'.get? b = some o) →
      (∃ c', h'.IsCode c Pl (ps ++ #[rawInt pos.line, rawInt pos.col, .ref c'])) → s.heap.objs.size ≤ h'.objs.size →
      wpAny (model prog w) A (call (.type "type") [.str name tn, .ref bT, .ref nsA] []) Q E { s with heap := h', toks := tk }) :
    wpAny (model prog w) A (buildClass name qual [] [] body scope statics firstLine (mainEnv prog c F) pos none) Q E s := by
  obtain ⟨hh, g, d, t, os⟩ := s
  unfold buildClass
  refine wpAny_bind (wpAny_newTuple ?_)
  refine wpAny_bind (wpAny_pure ?_)
  refine wpAny_bind (wpAny_pure ?_)
  refine wpAny_bind (wpAny_pure ?_)
  refine wpAny_bind (wpAny_pure ?_)
  refine wpAny_bind (wpAny_mkText ?_)
  refine wpAny_bind (wpAny_pure (wpAny_holding ?_))
  refine wpAny_bind (prep_get ?_)
  refine wpAny_bind (prep_call (Heap.get?_push_size _ rfl) ?_)
  dsimp only at hg hb hok hlim hsys h
  show wpAny _ _ _ _ _ ⟨((hh.push { cls := .type "tuple", data := .seq ([] : List Value).toArray }).push prepObj).push (dictOf [] 0), g, d, t + 1 + 1, os⟩
  generalize hT : hh.push { cls := .type "tuple", data := .seq ([] : List Value).toArray } = H1
  have k1 : ∀ b o, hh.get? b = some o → H1.get? b = some o := fun b o e => hT ▸ Heap.get?_push_of_some _ e
  have z1 : H1.objs.size = hh.objs.size + 1 := by rw [← hT, Heap.size_push]
  have gT : H1.get? hh.objs.size = some { cls := .type "tuple", data := .seq ([] : List Value).toArray } := by rw [← hT]; exact Heap.get?_push_size _ rfl
  generalize hH : (H1.push prepObj).push (dictOf [] 0) = H2
  have k2 : ∀ b o, H1.get? b = some o → H2.get? b = some o := fun b o e => hH ▸ Heap.get?_push_of_some _ (Heap.get?_push_of_some _ e)
  have z2 : H2.objs.size = hh.objs.size + 3 := by rw [← hH, Heap.size_push, Heap.size_push, z1]
  have zn : (H1.push prepObj).objs.size = hh.objs.size + 2 := by rw [Heap.size_push, z1]
  have gN : H2.get? (hh.objs.size + 2) = some (dictOf [] 0) := by rw [← hH, ← zn]; exact Heap.get?_push_size _ rfl
  rw [zn]
  generalize hN : hh.objs.size + 2 = nsA at gN ⊢
  have hne : (nsA == sysModules) = false := by
    rw [beq_eq_false_iff_ne]
    exact Nat.ne_of_gt (Nat.lt_of_lt_of_le hsys (by rw [← hN]; exact Nat.le_add_right _ _))
  refine wpAny_to (by unfold notTheModulesDict; rw [hne]; rfl) ?_
  have L3 : Looks (model prog w) H2 (specialOf (.ref nsA) "__getitem__") (some (.builtin "dict.__getitem__")) := looks_specialIn (K := [(nsA, dictOf [] 0)]) (fun a o e => by
    simp only [List.lookup] at e
    split at e
    · rename_i q; cases e; rw [beq_iff_eq.mp q]; exact gN
    · cases e) (by simp only [specialIn, typeIn, List.lookup, beq_self_eq_true, Option.map_some, Option.bind_some]; kernel_rfl)
  refine wpAny_step (fun q => L3.at q) ?_
  k_node
  k_node
  refine wpAny_holding ?_
  have c1 : (scope.names.lookup ("__class__" : Str) == some NameKind.cell) = false := by rw [ok.cell.1]; rfl
  have c2 : (scope.names.lookup ("__classdict__" : Str) == some NameKind.cell) = false := by rw [ok.cell.2]; rfl
  k_node
  rw [c1]
  k_node
  refine wpAny_step (fun q => wpAny_pure q) ?_
  k_node
  rw [c2]
  k_node
  refine wpAny_step (fun q => wpAny_pure q) ?_
  show wpAny _ _ (classCode (mainEnv prog c F) pos firstLine name qual scope >>= _) _ _ _
  have k12 : ∀ b o, hh.get? b = some o → H2.get? b = some o := fun b o e => k2 b o (k1 b o e)
  refine wpAny_bind (wpAny_classCode (P := Pl) rfl (hok.keeps k12) hnf fun c' P' H3 tk hx hc' hP' hsz hok3 hcode3 => ?_)
  dsimp only at hx hc' hP' hsz
  have k3 : ∀ b o, b ≠ Pl → hh.get? b = some o → H3.get? b = some o := fun b o hb e => hx b o hb (k12 b o e)
  have hPl : Pl < hh.objs.size := hok.lt.2
  have hg3 : H3.Ns mainGlobals mg := hg.at fun o => k3 _ o hgP
  have hnl : hh.objs.size ≤ nsA := by rw [← hN]; exact Nat.le_add_right _ _
  have hnP : nsA ≠ Pl := Nat.ne_of_gt (Nat.lt_of_lt_of_le hPl hnl)
  have gN3 : H3.get? nsA = some (dictOf [] 0) := hx _ _ hnP gN
  obtain ⟨bm, bo, hbm, hne0, hbG, hbP, hbo, hcls, hdict, hdata⟩ := id hb
  refine wpAny_bind (wpAny_builtinsFor (bm := bm) hg3 hbm hne0 (k3 _ _ hbP hbo) hcls hdict hdata ?_)
  unfold newBodyFrame
  refine wpAny_bind (wpAny_bind (wpAny_nsGet hg3 (wpAny_alloc ?_)))
  refine wpAny_to (closureFor_none ok.free) ?_
  dsimp only
  generalize hH4 : H3.push _ = H4
  have k4 : ∀ b o, H3.get? b = some o → H4.get? b = some o := fun b o e => hH4 ▸ Heap.get?_push_of_some _ e
  have z4 : H4.objs.size = H3.objs.size + 1 := by rw [← hH4, Heap.size_push]
  generalize H3.objs.size = Fb
  refine wpAny_holding ?_
  have k04 : ∀ b o, b ≠ Pl → hh.get? b = some o → H4.get? b = some o := fun b o hb e => k4 b o (k3 b o hb e)
  have hlim4 : H4.NoLimit := hlim.at fun o => k04 _ o hstP
  refine wpAny_bind (wpAny_enterFrame hlim4 hd ?_)
  refine wpAny_bind (wpAny_onRaise ?_)
  obtain ⟨nm, hnm⟩ := hname
  have hN4 : NsL H4 nsA [] := ⟨[], 0, k4 _ _ gN3, rfl⟩
  refine wpAny_bind (loadName_clsGlobal (scope := scope) (qual := qual) (nsA := nsA) (c := c') (F := Fb) (l := []) ok.kind (ok.own _ (by decide +kernel)) (by decide +kernel) hN4 rfl (hg3.keeps k4) hnm ?_)
  refine wpAny_bind (storeName_clsEnv (scope := scope) (qual := qual) (nsA := nsA) (c := c') (F := Fb) (l := []) ok.kind (.inr ⟨ok.own _ (by decide +kernel), by decide +kernel⟩) hN4 fun H5 hN5 hs5 => ?_)
  refine wpAny_bind (wpAny_mkText ?_)
  refine wpAny_bind (storeName_clsEnv (scope := scope) (qual := qual) (nsA := nsA) (c := c') (F := Fb) ok.kind (.inr ⟨ok.own _ (by decide +kernel), by decide +kernel⟩) hN5 fun H6 hN6 hs6 => ?_)
  refine wpAny_bind (wpAny_mkInt ?_)
  refine wpAny_bind (storeName_clsEnv (scope := scope) (qual := qual) (nsA := nsA) (c := c') (F := Fb) ok.kind (.inr ⟨ok.own _ (by decide +kernel), by decide +kernel⟩) hN6 fun H7 hN7 hs7 => ?_)
  refine wpAny_pure ?_
  dsimp only at hs5 hs6 hs7 hN7 ⊢
  have s47 : Heap.SameBut nsA H4 H7 := (hs5.trans hs6).trans hs7
  rw [start3] at hN7
  have hnlt : nsA < H2.objs.size := Heap.lt_size gN
  have hcn : c' ≠ nsA := Nat.ne_of_gt (Nat.lt_of_lt_of_le hnlt hc')
  have hPn : P' ≠ nsA := Nat.ne_of_gt (Nat.lt_of_lt_of_le hnlt hP')
  have hgn : mainGlobals ≠ nsA := Nat.ne_of_lt (Nat.lt_of_lt_of_le hg.lt hnl)
  have hbn : bm ≠ nsA := Nat.ne_of_lt (Nat.lt_of_lt_of_le (Heap.lt_size hbo) hnl)
  have z02 : hh.objs.size ≤ H2.objs.size := by rw [z2]; exact Nat.le_add_right _ _
  have k07 : ∀ b o, b ≠ Pl → b ≠ nsA → hh.get? b = some o → H7.get? b = some o := fun b o h1 h2 e => (s47.2 b h2).trans (k04 b o h1 e)
  have B : Base H7 mg nsA c' P' := ⟨hg.at fun o => k07 _ o hgP hgn, ⟨bm, bo, hbm, hne0, hbG, Nat.ne_of_lt (Nat.lt_of_lt_of_le (Heap.lt_size hbo) (Nat.le_trans z02 hP')), k07 _ _ hbP hbn hbo, hcls, hdict, hdata⟩,
    Nat.ne_of_lt (Nat.lt_of_lt_of_le hg.lt (Nat.le_trans z02 hP')), hgn, hPn.symm, hcn.symm, fun b' e => by rw [hbm] at e; cases e; exact hbn⟩
  have hcode7 : H7.IsCode c' P' #[] := (hcode3.keeps k4).sameBut s47 hcn hPn
  refine wpAny_bind (wpAny_run (codeAny_body (env := clsEnv scope qual nsA c' Fb) ok.ann ok.doc ?_))
  refine execs_cls (h0 := H7) (lo := H7.objs.size) (F := Fb) B ok.kind body [] _ _ #[] 0 _ ok.stmts ok.names (fun _ hx => nomatch hx) ok.reads ok.lines (fun _ _ _ _ e => e) hN7 hcode7 .nil (Nat.le_refl _) ?_ hcode7.lt.2 fun H8 tk8 l8 ps8 hb8 hN8 hok8 K8 hsz8 => ?_
  · obtain ⟨es, m, ho, _⟩ := hN7; exact Heap.lt_size ho
  dsimp only at K8 hsz8 ⊢
  have z7 : hh.objs.size ≤ H7.objs.size := by
    rw [s47.1, z4]
    exact Nat.le_trans z02 (Nat.le_trans hsz (Nat.le_succ _))
  have hnl8 : nsA < H8.objs.size := by obtain ⟨es, m, ho, _⟩ := hN8; exact Heap.lt_size ho
  refine wpAny_bind (wpAny_onRaise ?_)
  refine wpAny_bind (wpAny_mkStrs fun vs => ?_)
  refine wpAny_bind (wpAny_newTextTuple ?_)
  refine wpAny_bind (storeName_clsEnv (scope := scope) (qual := qual) (nsA := nsA) (c := c') (F := Fb) (l := l8) ok.kind (.inr ⟨ok.own _ (by decide +kernel), by decide +kernel⟩) (hN8.keeps fun b o e => Heap.get?_push_of_some _ e) fun H9 hN9 hs9 => ?_)
  refine wpAny_pure ?_
  dsimp only at hs9 hN9 ⊢
  have k89 : ∀ b o, b ≠ nsA → H8.get? b = some o → H9.get? b = some o := fun b o hb e => (hs9.2 b hb).trans (Heap.get?_push_of_some _ e)
  have k09 : ∀ b o, b ≠ Pl → hh.get? b = some o → H9.get? b = some o := fun b o hb e =>
    have hbn : b ≠ nsA := Nat.ne_of_lt (Nat.lt_of_lt_of_le (Heap.lt_size e) hnl)
    have hbP' : b ≠ P' := Nat.ne_of_lt (Nat.lt_of_lt_of_le (Heap.lt_size e) (Nat.le_trans z02 hP'))
    k89 b o hbn (K8 b o hbP' hbn (k07 b o hb hbn e))
  have h77 : nsA < H7.objs.size := by obtain ⟨es, m, ho, _⟩ := hN7; exact Heap.lt_size ho
  have hbm9 := hb8.keeps (h' := H9) fun b o hb e => k89 b o (Nat.ne_of_gt (Nat.lt_of_lt_of_le h77 hb)) e
  have k39 : ∀ b o, b ≠ nsA → b ≠ P' → H3.get? b = some o → H9.get? b = some o := fun b o h1 h2 e => k89 b o h1 (K8 b o h2 h1 ((s47.2 b h1).trans (k4 b o e)))
  have hbTn : hh.objs.size ≠ nsA := by rw [← hN]; exact Nat.ne_of_lt (Nat.lt_add_of_pos_right (by decide))
  have hbTP' : hh.objs.size ≠ P' := Nat.ne_of_lt (Nat.lt_of_lt_of_le (by rw [z2]; exact Nat.lt_add_of_pos_right (by decide)) hP')
  refine wpAny_bind (wpAny_mono (h H9 _ nm nsA hh.objs.size _ l8 H8.objs.size vs.toArray H7.objs.size _ _ _ hnm hnl ?_ (Nat.le_refl _) hN9 ?_ (by rfl) z7 h77 hbm9 k09 ?_ ?_) (fun v s' hq => wpAny_pure hq) fun _ _ x => x)
  · exact k39 _ _ hbTn hbTP' (hx _ _ (Nat.ne_of_gt hPl) (k2 _ _ gT))
  · exact (hs9.2 _ (Nat.ne_of_gt hnl8)).trans (Heap.get?_push_size _ rfl)
  · have hcl : c < hh.objs.size := hok.lt.1
    exact ⟨c', isCode_at hok3 (fun o => k39 _ o (Nat.ne_of_lt (Nat.lt_of_lt_of_le hcl hnl)) (Nat.ne_of_lt (Nat.lt_of_lt_of_le hcl (Nat.le_trans z02 hP')))) (fun o => k39 _ o hnP.symm (Nat.ne_of_lt (Nat.lt_of_lt_of_le hPl (Nat.le_trans z02 hP'))))⟩
  · rw [hs9.1, Heap.size_push]
    exact Nat.le_trans z7 (Nat.le_trans hsz8 (Nat.le_succ _))
end
end Mine
end
section
set_option maxRecDepth 100000
open PySem PySem.W PyProof.Rows PySem.Claim2Try PySem.Pin Builtin Builtin.ObjectAttr
namespace Mine
noncomputable def dropP (name : Str) : List (Str × Value) → List (Str × Value)
  | [] => []
  | x :: r => if x.1 = name then r else x :: dropP name r
theorem dropP_lookup_ne {name x : Str} (hne : x ≠ name) : ∀ {l : List (Str × Value)}, (dropP name l).lookup x = l.lookup x
  | [] => rfl
  | (m, y) :: r => by
    unfold dropP
    by_cases e : m = name
    · subst e
      have : (x == m) = false := by rw [beq_eq_false_iff_ne]; exact hne
      rw [if_pos rfl, List.lookup_cons, this]
    · rw [if_neg e, List.lookup_cons, List.lookup_cons]
      cases x == m with
      | true => rfl
      | false => exact dropP_lookup_ne hne
theorem mem_dropP {name : Str} {x : Str × Value} : ∀ {l : List (Str × Value)}, x ∈ dropP name l → x ∈ l
  | [], h => h
  | y :: r, h => by
    unfold dropP at h
    split at h
    · exact List.mem_cons_of_mem _ h
    · rcases List.mem_cons.mp h with rfl | h
      · exact List.mem_cons_self ..
      · exact List.mem_cons_of_mem _ (mem_dropP h)
theorem mem_putP {name : Str} {v : Value} {x : Str × Value} : ∀ {l : List (Str × Value)}, x ∈ putP name v l → x.2 = v ∨ x ∈ l
  | [], h => by simp [putP] at h; exact .inl (by rw [h])
  | y :: r, h => by
    unfold putP at h
    split at h
    · rcases List.mem_cons.mp h with rfl | h
      · exact .inl rfl
      · exact .inr (List.mem_cons_of_mem _ h)
    · rcases List.mem_cons.mp h with rfl | h
      · exact .inr (List.mem_cons_self ..)
      · exact (mem_putP h).imp id (List.mem_cons_of_mem _)

theorem erase_kv (name : Str) : ∀ (es : List DictEntry) (l : List (Str × Value)), es.map kv = l.map (fun x => (some x.1, x.2)) →
    (∃ i, es.findIdx? (fun e => e.key.isStr name) = some i ∧ (es.eraseIdx i).map kv = (dropP name l).map fun x => (some x.1, x.2)) ∨ (es.findIdx? (fun e => e.key.isStr name) = none ∧ l.lookup name = none)
  | [], [], _ => .inr ⟨rfl, rfl⟩
  | [], _ :: _, h => by cases h
  | _ :: _, [], h => by cases h
  | e :: es, x :: l, h => by
    rw [List.map_cons, List.map_cons] at h
    obtain ⟨h1, h2⟩ := List.cons.inj h
    obtain ⟨xn, xv⟩ := x
    rw [List.findIdx?_cons, isStr_kv h1]
    by_cases q : xn = name
    · subst q
      refine .inl ⟨0, by simp, ?_⟩
      simp [dropP, h2]
    · simp only [q, decide_false, Bool.false_eq_true, if_false]
      have hq : (name == xn) = false := by rw [beq_eq_false_iff_ne]; exact fun e => q e.symm
      rcases erase_kv name es l h2 with ⟨i, hi, he⟩ | ⟨hi, hl⟩
      · refine .inl ⟨i + 1, by rw [hi]; rfl, ?_⟩
        rw [List.eraseIdx_cons_succ, List.map_cons, he, h1]
        simp [dropP, q]
      · exact .inr ⟨by rw [hi]; rfl, by rw [List.lookup_cons, hq]; exact hl⟩

theorem wpAny_nsDelL {M : Model} {A : Around} {E : Value → Shared → Prop} {s : Shared} {a : Addr} {l : List (Str × Value)} {name : Str} {Q : Bool → Shared → Prop} (hn : NsL s.heap a l) (hs : (l.lookup name).isSome = true)
    (h : ∀ h', NsL h' a (dropP name l) → Heap.SameBut a s.heap h' → Q true { s with heap := h' }) : wpAny M A (nsDel a name) Q E s := by
  obtain ⟨es, n, ho, he⟩ := hn
  unfold nsDel
  refine wpAny_bind (wpAny_loadPart ho ?_)
  rw [nsHas_eq]
  rcases erase_kv name es l he with ⟨i, hi, her⟩ | ⟨_, hl⟩
  · have hany : es.toArray.any (fun e => e.key.isStr name) = true := by
      rw [List.any_toArray, ← any_of_findIdx, hi]; rfl
    show wpAny M A (nsHasByArray name (dictOf es n) >>= _) Q E s
    unfold nsHasByArray
    dsimp only
    rw [if_pos hany]
    refine wpAny_bind (wpAny_pure ?_)
    rw [if_pos rfl]
    have hdrop : Obj.dropName name (dictOf es n) = dictOf (es.eraseIdx i) (n + 1) := by
      rw [Obj.dropName_eq]
      unfold Obj.dropNameByArray dictOf
      simp only [List.findIdx?_toArray, hi]
      simp [Array.eraseIdxIfInBounds, List.eraseIdx_toArray]
      intro hlt
      exact (List.eraseIdx_of_length_le hlt).symm
    refine wpAny_bind (wpAny_updatePart ho (wpAny_pure (h _ ⟨_, _, (Heap.get?_update_self _ ho (by rw [hdrop]; rfl)).trans (congrArg some hdrop), her⟩ (Heap.SameBut.update ..))))
  · rw [hl] at hs; cases hs

/-- a value that a class body binds: nothing asks it for its name -/
noncomputable def CV (h : Heap) : Value → Prop
  | .none => True
  | .int _ _ => True
  | .str _ _ => True
  | .ref a => ∃ o, h.get? a = some o ∧ (o.cls = .type "function" ∨ o.cls = .type "list" ∨ o.cls = .type "tuple" ∨ o.cls = .type "getset_descriptor")
  | _ => False
theorem CV.at {h h' : Heap} {v : Value} (x : CV h v) (k : ∀ b o, v = .ref b → h.get? b = some o → h'.get? b = some o) : CV h' v := by
  cases v with
  | ref a => obtain ⟨o, ho, r⟩ := x; exact ⟨o, k _ _ rfl ho, r⟩
  | _ => exact x
theorem CV.looks {M : Model} {h : Heap} {v : Value} (x : CV h v) : Looks M h (specialOf v "__set_name__") none := by
  have lt : ∀ n, fastLookup n ("__set_name__" : Str) = some none → Looks M h (typeLookup (.type n) "__set_name__") none := fun n e => looks_findIn (K := []) nilIn e
  cases v with
  | none => exact (Looks.of_pure rfl : Looks M h (typeOf .none) (.type "NoneType")).andThen (lt _ (by kernel_rfl))
  | int i t => exact (Looks.of_pure rfl : Looks M h (typeOf (.int i t)) (.type "int")).andThen (lt _ (by kernel_rfl))
  | str i t => exact (Looks.of_pure rfl : Looks M h (typeOf (.str i t)) (.type "str")).andThen (lt _ (by kernel_rfl))
  | ref a =>
    obtain ⟨o, ho, hc⟩ := x
    have lo : Looks M h (typeOf (.ref a)) o.cls := (Looks.ld ho).andThen .now
    rcases hc with hc | hc | hc | hc <;> rw [hc] at lo <;> exact lo.andThen (lt _ (by kernel_rfl))
  | _ => exact x.elim
theorem CV.held {h : Heap} {v : Value} (x : CV h v) (k : Value) : Builtin.laidUnderItsOwnName k v = false := by
  cases v <;> first | exact x.elim | (cases k <;> rfl)

theorem CV.of_made {h : Heap} {lo : Nat} {qual : Str} {l : List (Str × Value)} {st : Stmt} {v : Value} (ok : clsStmtB st = true) (x : Made h lo qual l st v) : CV h v := by
  cases x with
  | @asg _ _ c0 _ _ _ _ x =>
    cases c0 with
    | int i => obtain ⟨t, rfl⟩ := x; trivial
    | str i => obtain ⟨t, rfl⟩ := x; trivial
    | _ => exact absurd ok Bool.false_ne_true
  | lst _ g _ => exact ⟨_, g, .inr (.inl rfl)⟩
  | fn x =>
    obtain ⟨a, dV, pm, c, doc, P, dv, rfl, ha, hc, hP, ho, _⟩ := x
    exact ⟨_, ho, .inl rfl⟩
theorem CV.of_body {h : Heap} {lo : Nat} {qual : Str} : ∀ {b : List Stmt} {l l' : List (Str × Value)}, b.all clsStmtB = true → BodyMade h lo qual l b l' → (∀ x ∈ l, CV h x.2) → ∀ x ∈ l', CV h x.2
  | [], l, l', _, x, hl => by cases x; exact hl
  | st :: r, l, l', ok, ⟨v, m, x⟩, hl => by
    rw [List.all_cons, Bool.and_eq_true] at ok
    refine CV.of_body ok.2 x fun y hy => ?_
    rcases mem_putP hy with e | e
    · rw [e]; exact CV.of_made ok.1 m
    · exact hl y e
end Mine
end
section
set_option maxRecDepth 100000
open PySem PySem.W PyProof.Rows PySem.Claim2Try PySem.Pin Builtin Builtin.ObjectAttr
namespace Mine
/-- a class over object alone, its names told as a list -/
structure ClsAt (h : Heap) (C ns : Addr) (l : List (Str × Value)) (cd : ClassData) (sl : Array (Option Value)) : Prop where
  obj : h.get? C = some ⟨.type "type", none, .cls cd, sl⟩
  mro : cd.mro = [.ref C, .type "object"]
  at_ : cd.ns = ns
  names : NsL h ns l
theorem ClsAt.keeps {h h' : Heap} {C ns : Addr} {l : List (Str × Value)} {cd : ClassData} {sl : Array (Option Value)} (x : ClsAt h C ns l cd sl) (k : ∀ b o, h.get? b = some o → h'.get? b = some o) : ClsAt h' C ns l cd sl :=
  ⟨k _ _ x.obj, x.mro, x.at_, x.names.keeps k⟩
theorem looks_ns {M : Model} {h : Heap} {ns : Addr} {l : List (Str × Value)} (x : NsL h ns l) (name : Str) : Looks M h (nsGet ns name) (l.lookup name) := fun _ _ _ _ k q => wpAny_nsGet (x.keeps k).ns q
theorem ClsAt.own {M : Model} {h : Heap} {C ns : Addr} {l : List (Str × Value)} {cd : ClassData} {sl : Array (Option Value)} (x : ClsAt h C ns l cd sl) (name : Str) : Looks M h (classOwn (.ref C) name) (l.lookup name) := by
  intro A Q E s k q
  refine wpAny_bind (wpAny_bind (wpAny_load (k _ _ x.obj) (wpAny_pure ?_)))
  show wpAny M A (nsGet cd.ns name) Q E s
  rw [x.at_]
  exact looks_ns x.names name A Q E s k q
theorem ClsAt.find {M : Model} {h : Heap} {C ns : Addr} {l : List (Str × Value)} {cd : ClassData} {sl : Array (Option Value)} (x : ClsAt h C ns l cd sl) {name : Str} {v : Value} (e : l.lookup name = some v) : Looks M h (typeLookup (.ref C) name) (some v) := by
  intro A Q E s k q
  rw [typeLookup_eq]
  refine wpAny_bind (wpAny_bind (wpAny_bind (wpAny_load (k _ _ x.obj) (wpAny_pure (wpAny_pure ?_)))))
  show wpAny M A (lookupAlong cd.mro name) Q E s
  rw [x.mro, lookupAlong_cons]
  refine wpAny_bind (x.own name A _ E s k ?_)
  rw [e]
  exact wpAny_pure q
theorem ClsAt.past {M : Model} {h : Heap} {C ns : Addr} {l : List (Str × Value)} {cd : ClassData} {sl : Array (Option Value)} (x : ClsAt h C ns l cd sl) {name : Str} {r : Option Value} (e : l.lookup name = none) (f : fastBuiltinOwn "object" name = r) : Looks M h (typeLookup (.ref C) name) r := by
  intro A Q E s k q
  rw [typeLookup_eq]
  refine wpAny_bind (wpAny_bind (wpAny_bind (wpAny_load (k _ _ x.obj) (wpAny_pure (wpAny_pure ?_)))))
  show wpAny M A (lookupAlong cd.mro name) Q E s
  rw [x.mro, lookupAlong_cons]
  refine wpAny_bind (x.own name A _ E s k ?_)
  rw [e]
  show wpAny M A (lookupAlong [.type "object"] name) Q E s
  rw [lookupAlong_cons]
  refine wpAny_bind (looks_ownIn (K := []) nilIn (c := .type "object") (r := r) (by rw [← f]; rfl) A _ E s (fun _ _ e => by exact e) ?_)
  cases r with
  | none => exact wpAny_pure q
  | some v => exact wpAny_pure q

section
variable {M : Model} {A : Around} {E : Value → Shared → Prop} {s : Shared}
theorem slots_set {sl : Array (Option Value)} {i : Nat} {v : Option Value} : ((sl ++ Array.replicate (i + 1 - sl.size) none).setIfInBounds i v)[i]? = some v := by
  rw [Array.getElem?_setIfInBounds_self_of_lt]
  rw [Array.size_append, Array.size_replicate]
  omega
theorem slots_size {sl : Array (Option Value)} {i : Nat} {v : Option Value} : ((sl ++ Array.replicate (i + 1 - sl.size) none).setIfInBounds i v).size = max sl.size (i + 1) := by
  rw [Array.size_setIfInBounds, Array.size_append, Array.size_replicate]
  omega
theorem six_of {sl : Array (Option Value)} {x : Option Value} (hs : sl.size = 6) (h4 : sl[4]? = some x) : ∃ k0 k1 k2 k3 k5, sl = #[k0, k1, k2, k3, x, k5] := by
  obtain ⟨l⟩ := sl
  rcases l with _ | ⟨a0, _ | ⟨a1, _ | ⟨a2, _ | ⟨a3, _ | ⟨a4, _ | ⟨a5, _ | ⟨a6, l⟩⟩⟩⟩⟩⟩⟩ <;> simp at hs
  simp at h4
  subst h4
  exact ⟨_, _, _, _, _, rfl⟩
theorem slots_keep {sl : Array (Option Value)} {i j : Nat} {v x : Option Value} (hne : j ≠ i) (hx : sl[j]? = some x) : ((sl ++ Array.replicate (i + 1 - sl.size) none).setIfInBounds i v)[j]? = some x := by
  have hj : j < sl.size := by
    rcases Nat.lt_or_ge j sl.size with h | h
    · exact h
    · rw [Array.getElem?_eq_none h] at hx; cases hx
  rw [Array.getElem?_setIfInBounds_ne (Ne.symm hne), Array.getElem?_append_left hj, hx]
theorem wpAny_setSlot {a : Addr} {i : Nat} {v : Option Value} {c : Value} {dd : Option Addr} {cd : ClassData} {sl : Array (Option Value)} {Q : Unit → Shared → Prop} (ho : s.heap.get? a = some ⟨c, dd, .cls cd, sl⟩) (hi : i < sizeLine)
    (h : ∀ h' (sl' : Array (Option Value)), (sl'[i]? = some v ∧ sl'.size = max sl.size (i + 1)) → (∀ j x, j ≠ i → sl[j]? = some x → sl'[j]? = some x) → h'.get? a = some ⟨c, dd, .cls cd, sl'⟩ → Heap.SameBut a s.heap h' → Q () { s with heap := h' }) : wpAny M A (setSlotAt a i v) Q E s := by
  unfold setSlotAt
  rw [if_neg (Nat.not_le.mpr hi)]
  exact wpAny_updatePart ho (h _ _ ⟨slots_set, slots_size⟩ (fun j x hne hx => slots_keep hne hx) (Heap.get?_update_self _ ho rfl) (Heap.SameBut.update ..))
theorem wpAny_updCls {a : Addr} {f : ClassData → ClassData} {c : Value} {dd : Option Addr} {cd : ClassData} {sl : Array (Option Value)} {Q : Unit → Shared → Prop} (ho : s.heap.get? a = some ⟨c, dd, .cls cd, sl⟩) 
    (h : ∀ h', h'.get? a = some ⟨c, dd, .cls (f cd), sl⟩ → Heap.SameBut a s.heap h' → Q () { s with heap := h' }) (hp : (Data.cls (f cd)).pastItsLine = none) : wpAny M A (updateCls a f) Q E s := by
  unfold updateCls
  refine wpAny_bind (wpAny_load ho ?_)
  have hg := Heap.get?_update_self (Obj.mapCls f) ho rfl
  refine wpAny_bind (wpAny_update ho ?_)
  exact wpAny_lookBehind hg hp (h _ hg (Heap.SameBut.update ..))
end
end Mine
end
section
set_option maxRecDepth 100000
open PySem PySem.W PyProof.Rows PySem.Claim2Try PySem.Pin Builtin Builtin.ObjectAttr
namespace Mine
section
variable {prog : Program} {w : World} {A : Around} {E : Value → Shared → Prop} {h : Heap} {g : Array GenState} {d : Drawn} {t : Nat} {os : OsState}
theorem tc_entry : entryFor table "type.__call__" = some Builtin.«type.__call__» := entryFor_of_tree (by kernel_rfl)
noncomputable abbrev superObj (a b c : Value) : Obj := { cls := .type "super", data := .fields #[a, b, c] }
theorem looks_isType {M : Model} {C : Addr} {oc : Value} {od : Option Addr} {cd : ClassData} {sl : Array (Option Value)} (ho : h.get? C = some ⟨oc, od, .cls cd, sl⟩) : Looks M h (isType (.ref C)) true := by
  unfold isType loadHead
  exact (Looks.ld ho).andThen .now
theorem looks_checkSuper {M : Model} {C : Addr} {oc : Value} {od : Option Addr} {cd : ClassData} {sl : Array (Option Value)} (ho : h.get? C = some ⟨oc, od, .cls cd, sl⟩) : Looks M h (checkTypeCall "super" ⟨[.ref C, .ref C], []⟩) () := by
  have e : checkTypeCall "super" ⟨[.ref C, .ref C], []⟩ = (do
      if !(← isType (.ref C)) then
        rule "super.call.not-a-type"
        raiseError "TypeError" s!"super() argument 1 must be a type, not {← PySem.typeNameOf (.ref C)}"
      pure ()) := by kernel_rfl
  rw [e]
  exact (looks_isType ho).andThen .now
theorem mro_super : mroOf (.type "super") = pure [.type "super", .type "object"] := by kernel_rfl
theorem made_super : Bind.madeBy (.type "super") = pure (some "super.__new__") := by kernel_rfl
theorem sn_check (C : Addr) : checkBuiltinCall "super.__new__" ⟨[.type "super", .ref C, .ref C], []⟩ = pure () := by kernel_rfl
theorem sn_entry : entryFor table "super.__new__" = some Builtin.«super.__new__» := entryFor_of_tree (by kernel_rfl)
theorem si_entry : entryFor table "super.__init__" = some Builtin.«super.__init__» := entryFor_of_tree (by kernel_rfl)
theorem sn_plain : plainId "super.__new__" = true := by decide +kernel
theorem si_plain : plainId "super.__init__" = true := by decide +kernel
theorem sn_run (C : Addr) : Builtin.«super.__new__» ⟨[.type "super", .ref C, .ref C], []⟩ = (do ret (← newFields "super" [.none, .none, .none])) := by kernel_rfl
theorem si_kind : builtinKind "super.__init__" = some .slot := by decide +kernel
theorem si_split : splitId "super.__init__" = some ("super", "__init__") := by decide +kernel
theorem si_args (a b c : Value) : argsOk "super.__init__" ⟨[a, b, c], []⟩ := by unfold argsOk; kernel_rfl
theorem si_bind (self : Value) : bindSpecial (.builtin "super.__init__") self = pure (.builtin "super.__init__", [self]) := by kernel_rfl
theorem one_in {a : Addr} {o : Obj} (ho : h.get? a = some o) : Frag.In [(a, o)] h := fun b o' e => by
  simp only [List.lookup] at e
  split at e
  · rename_i q; cases e; rw [beq_iff_eq.mp q]; exact ho
  · cases e
theorem looks_type {M : Model} {a : Addr} {o : Obj} {c : Value} (ho : h.get? a = some o) (hc : o.cls = c) : Looks M h (typeOf (.ref a)) c := hc ▸ (Looks.ld ho).andThen .now
theorem looks_mro {M : Model} {C ns : Addr} {l : List (Str × Value)} {cd : ClassData} {sl : Array (Option Value)} (X : ClsAt h C ns l cd sl) : Looks M h (mroOf (.ref C)) [.ref C, .type "object"] := by
  rw [← X.mro]
  exact ((Looks.ld (part := none) X.obj).andThen .now).andThen .now
theorem looks_sub {M : Model} {C ns : Addr} {l : List (Str × Value)} {cd : ClassData} {sl : Array (Option Value)} (X : ClsAt h C ns l cd sl) (b : Value) : Looks M h (isSubtype (.ref C) b) ([.ref C, .type "object"].contains b) := by
  unfold isSubtype
  exact (looks_mro X).andThen .now
theorem superInit {C ns S : Addr} {l : List (Str × Value)} {cd : ClassData} {sl : Array (Option Value)} (X : ClsAt h C ns l cd sl) (hS : h.get? S = some (superObj .none .none .none)) {Q : PySem.Fin → Shared → Prop}
    (hq : ∀ h', h'.get? S = some (superObj (.ref C) (.ref C) (.ref C)) → Heap.SameBut S h h' → Q (.done (.ret .none)) ⟨h', g, d, t, os⟩) :
    wpAny (model prog w) A (Builtin.«super.__init__» ⟨[.ref S, .ref C, .ref C], []⟩) Q E ⟨h, g, d, t, os⟩ := by
  have L1 := looks_isType (M := model prog w) X.obj
  have L2 : Looks (model prog w) h (isSubtype (.ref C) (.ref C)) true := by
    have := looks_sub (M := model prog w) X (.ref C)
    rwa [show ([Value.ref C, .type "object"].contains (.ref C)) = true by simp] at this
  unfold Builtin.«super.__init__»
  refine wpAny_bind (wpAny_pure ?_)
  k_node
  refine wpAny_bind (wpAny_pure ?_)
  k_node
  refine wpAny_bind (L1.at ?_)
  k_node
  k_node
  k_node
  refine wpAny_bind (wpAny_bind (L1.at ?_))
  k_node
  refine wpAny_bind (L2.at ?_)
  k_node
  refine wpAny_pure ?_
  refine wpAny_bind (wpAny_setField hS rfl (by decide) ?_)
  have g1 := Heap.get?_update_self (Obj.mapFields (·.setIfInBounds 0 (.ref C))) hS rfl
  refine wpAny_bind (wpAny_setField g1 rfl (by simp) ?_)
  have g2 := Heap.get?_update_self (Obj.mapFields (·.setIfInBounds 1 (.ref C))) g1 rfl
  refine wpAny_bind (wpAny_setField g2 rfl (by simp) ?_)
  have g3 := Heap.get?_update_self (Obj.mapFields (·.setIfInBounds 2 (.ref C))) g2 rfl
  exact wpAny_pure (hq _ g3 (((Heap.SameBut.update ..).trans (Heap.SameBut.update ..)).trans (Heap.SameBut.update ..)))
set_option maxHeartbeats 2000000 in
theorem superMake {C ns : Addr} {l : List (Str × Value)} {cd : ClassData} {sl : Array (Option Value)} (X : ClsAt h C ns l cd sl) {Q : Value → Shared → Prop}
    (hq : ∀ S h', h'.get? S = some (superObj (.ref C) (.ref C) (.ref C)) → (∀ b o, h.get? b = some o → h'.get? b = some o) → Q (.ref S) ⟨h', g, d, t, os⟩) :
    wpAny (model prog w) A (call (.type "super") [.ref C, .ref C] []) Q E ⟨h, g, d, t, os⟩ := by
  refine wpAny_call (codeAny_of_tree ?_)
  show wpAny _ _ (callAny (.type "super") _) _ _ _
  refine wpAny_pure (And.intro (Code.quiet_builtin _ (by decide +kernel)) ?_)
  refine codeAny_builtin tc_entry ?_
  unfold Builtin.«type.__call__»
  k_node
  k_node
  k_node
  k_node
  k_node
  refine wpAny_bind ((looks_checkSuper X.obj).at ?_)
  k_node
  rw [mro_super]
  refine wpAny_bind (wpAny_pure ?_)
  k_node
  k_node
  rw [made_super]
  refine wpAny_bind (wpAny_pure ?_)
  k_node
  k_node
  refine wpAny_bind (wpAny_pure ?_)
  refine wpAny_bind (wpAny_holding (wpAny_call ?_))
  refine codeAny_call_builtin sn_plain sn_entry ?_
  show wpAny _ _ (checkBuiltinCall "super.__new__" ⟨[.type "super", .ref C, .ref C], []⟩) _ _ _
  rw [sn_check]
  refine wpAny_pure ?_
  show wpAny _ _ (Builtin.«super.__new__» ⟨[.type "super", .ref C, .ref C], []⟩) _ _ _
  rw [sn_run]
  refine wpAny_bind (wpAny_newObj_type (wpAny_pure ?_) (by size_fits))
  show wpAny _ _ _ _ _ ⟨h.push (superObj .none .none .none), g, d, t, os⟩
  generalize hH1 : h.push (superObj .none .none .none) = H1
  have k1 : ∀ b o, h.get? b = some o → H1.get? b = some o := fun b o e => hH1 ▸ Heap.get?_push_of_some _ e
  have S1 : H1.get? h.objs.size = some (superObj .none .none .none) := by rw [← hH1]; exact Heap.get?_push_size _ rfl
  generalize hS : h.objs.size = S at S1
  have hSC : S ≠ C := fun e => by
    have := Heap.lt_size X.obj
    rw [hS, e] at this
    exact Nat.lt_irrefl _ this
  have T1 := looks_type (M := model prog w) S1 rfl
  have I1 : Looks (model prog w) H1 (isInstance (.ref S) (.type "super")) true := T1.andThen (looks_subIn (K := []) nilIn (by kernel_rfl))
  refine wpAny_bind (I1.at ?_)
  k_node
  have P1 : Looks (model prog w) H1 (specialOf (.ref S) "__init__") (some (.builtin "super.__init__")) := T1.andThen (looks_findIn (K := []) nilIn (by kernel_rfl))
  refine wpAny_bind (wpAny_holding ?_)
  unfold callSpecial?
  refine wpAny_bind (P1.at ?_)
  refine wpAny_holding ?_
  rw [si_bind]
  refine wpAny_bind (wpAny_pure ?_)
  refine wpAny_bind (wpAny_call ?_)
  refine codeAny_call_builtin si_plain si_entry ?_
  refine @check_slot (model prog w) _ _ ⟨H1, g, d, t, os⟩ "super.__init__" "super" "__init__" (.ref S) [.ref C, .ref C] [] _ si_kind si_split I1 (si_args _ _ _) ?_
  refine superInit (X.keeps k1) S1 fun h' S2 s2 => ?_
  refine wpAny_pure ?_
  k_node
  k_node
  refine wpAny_pure (hq S h' S2 fun b o e => ?_)
  have hb : b ≠ S := fun q => by
    have := Heap.lt_size e
    rw [hS, q] at this
    exact Nat.lt_irrefl _ this
  exact (s2.2 b hb).trans (k1 b o e)
end
end Mine
end
section
set_option maxRecDepth 100000
open PySem PySem.W PyProof.Rows PySem.Claim2Try PySem.Pin Builtin Builtin.ObjectAttr
namespace Mine
section
variable {prog : Program} {w : World} {A : Around} {E : Value → Shared → Prop} {h : Heap} {g : Array GenState} {d : Drawn} {t : Nat} {os : OsState}
noncomputable abbrev subObj (C : Addr) : Obj := { cls := .type "builtin_function_or_method", data := .fields #[.builtin "object.__init_subclass__", .ref C] }
theorem sg_kind : builtinKind "super.__getattribute__" = some .slot := by decide +kernel
theorem sg_split : splitId "super.__getattribute__" = some ("super", "__getattribute__") := by decide +kernel
theorem sg_args (a b : Value) : argsOk "super.__getattribute__" ⟨[a, b], []⟩ := by unfold argsOk; kernel_rfl
theorem sg_bind (self : Value) : bindSpecial (.builtin "super.__getattribute__") self = pure (.builtin "super.__getattribute__", [self]) := by kernel_rfl
theorem sg_entry : entryFor table "super.__getattribute__" = some Builtin.«super.__getattribute__» := entryFor_of_tree (by kernel_rfl)
theorem sg_plain : plainId "super.__getattribute__" = true := by decide +kernel
theorem looks_opaqueC {M : Model} {C : Addr} {mc : Str → Option Value} (hst : h.Ns cStatics mc) (hno : mc "thirdparty.any" = none) : Looks M h (opaqueClassAbove (.ref C)) none := by
  have a : Looks M h anyOpaqueLoaded false := by
    unfold anyOpaqueLoaded
    intro A Q E s k q
    refine wpAny_bind (wpAny_nsGet (hst.keeps k) ?_)
    rw [hno]
    exact wpAny_pure q
  exact Looks.andThen (a := false) a (by show Looks M h (if (!false) = true then pure none else _) none; rw [if_pos (show (!false) = true from rfl)]; exact .now)
theorem own_sub : classOwn (.type "object") ("__init_subclass__" : Str) = pure (some (.builtin "object.__init_subclass__")) := by kernel_rfl
theorem type_sub : typeOf (.builtin "object.__init_subclass__") = pure (.type "classmethod_descriptor") := by kernel_rfl
theorem get_cmd : typeLookup (.type "classmethod_descriptor") ("__get__" : Str) = pure (some (.builtin "classmethod_descriptor.__get__")) := by kernel_rfl
theorem inst_sub {M : Model} {h : Heap} : Looks M h (isInstance (.builtin "object.__init_subclass__") (.type "classmethod_descriptor")) true := Looks.of_pure (by kernel_rfl)
theorem cmd_run {C ns : Addr} {l : List (Str × Value)} {cd : ClassData} {sl : Array (Option Value)} (X : ClsAt h C ns l cd sl) {Q : PySem.Fin → Shared → Prop} (hq : Q (.done (.ret (.ref h.objs.size))) ⟨h.push (subObj C), g, d, t, os⟩) :
    wpAny (model prog w) A (Builtin.«classmethod_descriptor.__get__» ⟨[.builtin "object.__init_subclass__", .none, .ref C], []⟩) Q E ⟨h, g, d, t, os⟩ := by
  have L1 := looks_isType (M := model prog w) X.obj
  have L2 : Looks (model prog w) h (isSubtype (.ref C) (.type "object")) true := by
    have := looks_sub (M := model prog w) X (.type "object")
    rwa [show ([Value.ref C, .type "object"].contains (.type "object")) = true by simp] at this
  unfold Builtin.«classmethod_descriptor.__get__»
  refine wpAny_bind (wpAny_pure ?_)
  k_node
  k_node
  refine wpAny_bind (wpAny_pure ?_)
  k_node
  refine wpAny_bind (L1.at ?_)
  k_node
  k_node
  refine wpAny_bind (L2.at ?_)
  k_node
  k_node
  exact wpAny_bind (wpAny_newObj_type (wpAny_pure hq) (by size_fits))
theorem superGet {C ns S : Addr} {l : List (Str × Value)} {cd : ClassData} {sl : Array (Option Value)} {mc : Str → Option Value} (X : ClsAt h C ns l cd sl) (hS : h.get? S = some (superObj (.ref C) (.ref C) (.ref C))) (hst : h.Ns cStatics mc) (hno : mc "thirdparty.any" = none) {Q : PySem.Fin → Shared → Prop} {tk : Tok}
    (hq : Q (.done (.ret (.ref h.objs.size))) ⟨h.push (subObj C), g, d, t, os⟩) :
    wpAny (model prog w) A (Builtin.«super.__getattribute__» ⟨[.ref S, .str "__init_subclass__" tk], []⟩) Q E ⟨h, g, d, t, os⟩ := by
  have LO := looks_opaqueC (M := model prog w) (C := C) hst hno
  have LM := looks_mro (M := model prog w) X
  unfold Builtin.«super.__getattribute__»
  refine wpAny_bind (wpAny_pure ?_)
  k_node
  k_node
  refine wpAny_bind (wpAny_pure ?_)
  k_node
  k_node
  refine wpAny_bind (wpAny_field (x := .ref C) hS rfl rfl ?_)
  refine wpAny_bind (wpAny_field (x := .ref C) hS rfl rfl ?_)
  refine wpAny_bind (wpAny_field (x := .ref C) hS rfl rfl ?_)
  k_node
  k_node
  k_node
  unfold notOfAnOpaqueClass
  refine wpAny_bind (wpAny_bind (LO.at (wpAny_pure ?_)))
  k_node
  k_node
  refine wpAny_bind (LM.at ?_)
  k_node
  rw [show (List.drop 1 (List.dropWhile (fun x => x != Value.ref C) [Value.ref C, Value.type "object"])) = [Value.type "object"] by
    rw [List.dropWhile_cons, if_neg (by simp)]; rfl]
  refine wpAny_bind ?_
  rw [List.forIn_cons, own_sub]
  refine wpAny_bind (wpAny_bind (wpAny_pure ?_))
  k_node
  rw [type_sub]
  refine wpAny_bind (wpAny_pure ?_)
  rw [get_cmd]
  refine wpAny_bind (wpAny_pure ?_)
  k_node
  rw [if_pos (show (Value.ref C == Value.ref C) = true by simp)]
  refine wpAny_bind (wpAny_holding (wpAny_call ?_))
  refine codeAny_call_builtin cmd_plain cmd_entry (@check_slot (model prog w) _ _ ⟨h, g, d, t, os⟩ "classmethod_descriptor.__get__" "classmethod_descriptor" "__get__" (.builtin "object.__init_subclass__") [.none, .ref C] [] _ cmd_kind cmd_split inst_sub (cmd_args _ _ _) ?_)
  refine cmd_run X ?_
  refine wpAny_bind (wpAny_pure (wpAny_pure ?_))
  exact wpAny_pure (wpAny_pure hq)
theorem sub_get {C ns S : Addr} {l : List (Str × Value)} {cd : ClassData} {sl : Array (Option Value)} {mc : Str → Option Value} (X : ClsAt h C ns l cd sl) (hS : h.get? S = some (superObj (.ref C) (.ref C) (.ref C))) (hst : h.Ns cStatics mc) (hno : mc "thirdparty.any" = none) {Q : Value → Shared → Prop}
    (hq : Q (.ref h.objs.size) ⟨h.push (subObj C), g, d, t + 1, os⟩) : wpAny (model prog w) A (getAttr (.ref S) "__init_subclass__") Q E ⟨h, g, d, t, os⟩ := by
  have T1 := looks_type (M := model prog w) (c := .type "super") hS rfl
  have I1 : Looks (model prog w) h (isInstance (.ref S) (.type "super")) true := T1.andThen (looks_subIn (K := []) nilIn (by kernel_rfl))
  have L2 : Looks (model prog w) h (typeLookup (.type "super") "__getattribute__") (some (.builtin "super.__getattribute__")) := looks_findIn (K := []) nilIn (by kernel_rfl)
  unfold getAttr
  refine wpAny_bind (wpAny_mkText ?_)
  unfold getAttrBy
  refine wpAny_holding (wpAny_bind (T1.at (wpAny_bind (L2.at ?_))))
  k_node
  rw [if_neg (by decide +kernel)]
  unfold getAttrByItsOwn
  refine wpAny_bind (wpAny_pure (wpAny_bind (wpAny_attempt (wpAny_holding ?_))))
  unfold callGetattribute
  rw [if_neg (by decide +kernel)]
  unfold boundAndCalled
  rw [sg_bind]
  refine wpAny_bind (wpAny_pure ?_)
  show wpAny _ _ (call (.builtin "super.__getattribute__") [.ref S, .str "__init_subclass__" t]) _ _ _
  refine wpAny_call (codeAny_call_builtin sg_plain sg_entry ?_)
  refine @check_slot (model prog w) _ _ ⟨h, g, d, t + 1, os⟩ "super.__getattribute__" "super" "__getattribute__" (.ref S) [.str "__init_subclass__" t] [] _ sg_kind sg_split I1 (sg_args _ _) ?_
  refine superGet X hS hst hno ?_
  exact handed_on rfl hq
theorem va_sub : Manifest.varargsMethods.contains "object.__init_subclass__" = false := by decide +kernel
theorem ca_sub (C : Addr) : Bind.checkArgs "object.__init_subclass__" ⟨.noArgs, toString (Str.ofString "MPU").toString ++ toString "." ++ toString (Bind.lastOf "object.__init_subclass__"), "__init_subclass__", .cls, []⟩ ⟨[.ref C], []⟩ = pure () := by kernel_rfl
theorem is_entry : entryFor table "object.__init_subclass__" = some Builtin.«object.__init_subclass__» := entryFor_of_tree (by kernel_rfl)
theorem is_run (C : Addr) : Builtin.«object.__init_subclass__» ⟨[.ref C], []⟩ = ret .none := by kernel_rfl
set_option maxHeartbeats 1000000 in
theorem sub_call {q C ns : Addr} {l : List (Str × Value)} {cd : ClassData} {sl : Array (Option Value)} (X : ClsAt h C ns l cd sl) (hqn : cd.qualname = Str.ofString "MPU") {Q : Value → Shared → Prop} (ho : h.get? q = some (subObj C)) (hq : Q .none ⟨h, g, d, t, os⟩) :
    wpAny (model prog w) A (call (.ref q) [] []) Q E ⟨h, g, d, t, os⟩ := by
  have T1 := looks_type (M := model prog w) (c := .type "type") X.obj rfl
  have L1 := looks_isType (M := model prog w) X.obj
  have I1 : Looks (model prog w) h (isInstance (.ref C) (.type "module")) false := T1.andThen (looks_subIn (K := []) nilIn (by kernel_rfl))
  refine wpAny_call (codeAny_of_tree ?_)
  show wpAny _ _ (callAny (.ref q) _) _ _ _
  unfold callAny
  refine wpAny_bind (wpAny_load (o := subObj C) ho ?_)
  show wpAny _ _ (checkBoundCall "object.__init_subclass__" ⟨[.ref C], []⟩ >>= _) _ _ _
  refine wpAny_bind ?_
  unfold checkBoundCall
  k_node
  k_node
  k_node
  refine wpAny_bind (I1.at ?_)
  rw [va_sub]
  k_node
  refine wpAny_bind (L1.at ?_)
  k_node
  k_node
  refine wpAny_bind (wpAny_pure ?_)
  k_node
  refine wpAny_bind (wpAny_bind (wpAny_load X.obj (wpAny_pure ?_)))
  k_node
  refine wpAny_bind (T1.at ?_)
  k_node
  show wpAny _ _ (Bind.checkArgs "object.__init_subclass__" ⟨.noArgs, toString cd.qualname.toString ++ toString "." ++ toString (Bind.lastOf "object.__init_subclass__"), "__init_subclass__", .cls, []⟩ ⟨[.ref C], []⟩) _ _ _
  rw [hqn, ca_sub]
  refine wpAny_pure ?_
  refine wpAny_pure (And.intro (Code.quiet_builtin _ (by decide +kernel)) ?_)
  refine codeAny_builtin is_entry ?_
  show wpAny _ _ (Builtin.«object.__init_subclass__» ⟨[.ref C], []⟩) _ _ _
  rw [is_run]
  exact wpAny_pure hq
end
end Mine
end
section
set_option maxRecDepth 100000
open PySem PySem.W PyProof.Rows PySem.Claim2Try PySem.Pin Builtin Builtin.ObjectAttr
namespace Mine
theorem tcall_eq (n b ns : Value) : Builtin.«type.__call__» ⟨[.type "type", n, b, ns], []⟩ = (do
    let obj ← holding [.builtin "type.__new__"] (call (.builtin "type.__new__") [.type "type", n, b, ns] [])
    if !(← isInstance obj (.type "type")) then rule "type.call.new-gave-other-type"; return ← ret obj
    match ← holding [obj] (callSpecial? obj "__init__" [n, b, ns] []) with
    | none => ret obj
    | some r =>
      if r != .none then
        rule "type.call.init-returned-value"
        raiseError "TypeError" s!"__init__() should return None, not '{← typeNameOf r}'"
      ret obj) := by kernel_rfl
theorem tn_check (n : Str) (t : Tok) (b ns : Addr) : checkBuiltinCall "type.__new__" ⟨[.type "type", .str n t, .ref b, .ref ns], []⟩ = pure () := by kernel_rfl
theorem tn_entry : entryFor table "type.__new__" = some Builtin.«type.__new__» := entryFor_of_tree (by kernel_rfl)
theorem ti_entry : entryFor table "type.__init__" = some Builtin.«type.__init__» := entryFor_of_tree (by kernel_rfl)
theorem noteObj (a : Addr) : noteSubclassOfBuiltin "object" a = pure () := by kernel_rfl

theorem turned_obj : notOverATurnedClass [.type "object"] = pure () := by kernel_rfl
theorem ext_obj : extendedBase [.type "object"] = pure (.type "object") := by kernel_rfl
noncomputable abbrev plan0 : Slots.Plan := { names := [], dict := true, weak := true, inherited := [] }
theorem best_obj : Slots.bestBase [.type "object"] = pure (.type "object") := by kernel_rfl
theorem slots_obj : Slots.slotNamesOf (.type "object") = pure [] := by kernel_rfl
theorem gd_obj : Slots.givesDict (.type "object") = pure false := by kernel_rfl
theorem gw_obj : Slots.givesWeak (.type "object") = pure false := by kernel_rfl
theorem vs_obj : Slots.varSize (.type "object") = pure false := by kernel_rfl
theorem read_obj {name : Str} {es : Array DictEntry} (h : es.find? (fun e => e.key.isStr "__slots__") = none) : Slots.read name [.type "object"] es = pure plan0 := by
  unfold Slots.read
  rw [best_obj, pure_bind, slots_obj, pure_bind, gd_obj, pure_bind, gw_obj, pure_bind, vs_obj, pure_bind, h]
  rfl

theorem hook_none : mroHook? (.type "type") = pure none := by kernel_rfl
theorem lin_obj : linearize [.type "object"] mroOf = pure [.type "object"] := by kernel_rfl
theorem made_obj : Bind.madeBy (.type "object") = pure (some "object.__new__") := by kernel_rfl
theorem del_obj : ((Manifest.find? "object").elim false fun ty => ty.attrs.any fun x => x.1 == "__del__") = false := by decide +kernel
theorem own_new : fastBuiltinOwn "object" ("__new__" : Str) = some (.builtin "object.__new__") := by kernel_rfl
theorem end_new : ("object.__new__".endsWith ".__new__") = true := by decide +kernel

section
variable {prog : Program} {w : World} {A : Around} {E : Value → Shared → Prop} {h : Heap} {g : Array GenState} {d : Drawn} {t : Nat} {os : OsState}
inductive NewC (h h' : Heap) (C : Addr) (l : List (Str × Value)) : Prop
  | mk (ns Da Wa : Addr) (cd : ClassData) (sl : Array (Option Value)) (X : ClsAt h' C ns (putP "__doc__" .none (putP "__weakref__" (.ref Wa) (putP "__dict__" (.ref Da) (dropP "__qualname__" l)))) cd sl) (c1 : cd.name = "MPU") (c2 : cd.abstract = false) (c3 : cd.hasDel = false) (c4 : cd.hasDict = true) (c5 : cd.slotNames = [])
    (c6 : cd.bases = [.type "object"]) (c7 : ∃ k0 k1 k2 k3 k5, sl = #[k0, k1, k2, k3, some (.builtin "object.__new__"), k5]) (c8 : h.objs.size ≤ C) (c9 : h.objs.size ≤ ns) : NewC h h' C l
/-- what type.__new__ leaves -/
structure NewCls (h h' : Heap) (C : Addr) (l : List (Str × Value)) : Prop where
  keep : ∀ b o, h.get? b = some o → h'.get? b = some o
  cls : NewC h h' C l
theorem install0 {M : Model} {A : Around} {E : Value → Shared → Prop} {s : Shared} {a ns : Addr} {c : Value} {dd : Option Addr} {cd : ClassData} {sl : Array (Option Value)} {Q : Unit → Shared → Prop} (ho : s.heap.get? a = some ⟨c, dd, .cls cd, sl⟩)
    (h : ∀ h', h'.get? a = some ⟨c, dd, .cls { cd with hasDict := true, slotNames := [] }, sl⟩ → Heap.SameBut a s.heap h' → Q () { s with heap := h' }) (hp : (Data.cls { cd with hasDict := true, slotNames := [] }).pastItsLine = none) : wpAny M A (Slots.install (.ref a) ns [.type "object"] plan0) Q E s := by
  unfold Slots.install
  refine wpAny_bind (wpAny_pure ?_)
  refine wpAny_bind ?_
  rw [List.forIn_cons, gd_obj]
  refine wpAny_bind (wpAny_bind (wpAny_pure (wpAny_pure ?_)))
  refine wpAny_pure ?_
  k_node
  rw [if_neg (by rw [sizeLine]; decide)]
  exact wpAny_updCls ho h hp
theorem anyM_del {C : Addr} {mro : List Value} {f : Value → Sem Bool} (h : List.filter (fun x => x != Value.ref C) mro = [Value.type "object"]) (hf : f (.type "object") = pure false) : List.anyM f (List.filter (fun x => x != Value.ref C) mro) = pure false := by
  rw [h, List.anyM, List.anyM, hf]; rfl
theorem nsGetAt {M : Model} {A : Around} {E : Value → Shared → Prop} {s : Shared} {β : Type} {a : Addr} {l : List (Str × Value)} {x : Str} {v : Option Value} {k : Option Value → Sem β} {Q : β → Shared → Prop} (N : NsL s.heap a l) (e : l.lookup x = v) (p : wpAny M A (k v) Q E s) : wpAny M A (nsGet a x >>= k) Q E s := wpAny_bind (wpAny_nsGet N.ns (e ▸ p))
noncomputable def absentNames : List Str := ["__slots__", "__doc__", "__new__", "__init_subclass__", "__class_getitem__", "__classcell__", "__classdictcell__", "__del__", "__dict__", "__weakref__", "__eq__"]
set_option maxHeartbeats 4000000 in
theorem wpAny_typeNew {tn tq : Tok} {bT nsA : Addr} {l : List (Str × Value)} {Q : PySem.Fin → Shared → Prop}
    (hT : h.get? bT = some { cls := .type "tuple", data := .seq #[] }) (hN : NsL h nsA l) (hsys : nsA ≠ sysModules) (lm : (l.lookup ("__module__" : Str)).isSome = true) (lq : l.lookup ("__qualname__" : Str) = some (.str "MPU" tq))
    (la : ∀ x ∈ absentNames, l.lookup x = none) (cv : ∀ x ∈ l, CV h x.2) (hlen : l.length ≤ 1000)
    {mc : Str → Option Value} (hst : h.Ns cStatics mc) (hno : mc "thirdparty.any" = none) (hq : ∀ h' tk C, NewCls h h' C l → Q (.done (.ret (.ref C))) ⟨h', g, d, tk, os⟩) :
    wpAny (model prog w) A (Builtin.«type.__new__» ⟨[.type "type", .str "MPU" tn, .ref bT, .ref nsA], []⟩) Q E ⟨h, g, d, t, os⟩ := by
  obtain ⟨es, en, ho, he⟩ := id hN
  have X : Frag.In [(bT, { cls := .type "tuple", data := .seq #[] })] h := fun a o e => by
    simp only [List.lookup] at e
    split at e
    · rename_i q; cases e; rw [beq_iff_eq.mp q]; exact hT
    · cases e
  have X2 : Frag.In [(nsA, dictOf es en)] h := fun a o e => by
    simp only [List.lookup] at e
    split at e
    · rename_i q; cases e; rw [beq_iff_eq.mp q]; exact ho
    · cases e
  have L1 : Looks (model prog w) h (isInstance (.ref bT) (.type "tuple")) true := looks_instIn X (by simp only [instIn, typeIn, List.lookup, beq_self_eq_true, Option.map_some, Option.bind_some]; kernel_rfl)
  have L2 : Looks (model prog w) h (isInstance (.ref nsA) (.type "dict")) true := looks_instIn X2 (by simp only [instIn, typeIn, List.lookup, beq_self_eq_true, Option.map_some, Option.bind_some]; kernel_rfl)
  have L3 : Looks (model prog w) h (specialOf (.ref nsA) "__iter__") (some (.builtin "dict.__iter__")) := looks_specialIn X2 (by simp only [specialIn, typeIn, List.lookup, beq_self_eq_true, Option.map_some, Option.bind_some]; kernel_rfl)
  have hfind : ∀ x : Str, (es.find? fun e => e.key.isStr x).map (·.val) = l.lookup x := fun x => find_kv x es l he
  have hnone : ∀ x : Str, l.lookup x = none → es.toArray.find? (fun e => e.key.isStr x) = none := fun x hx => by
    rw [List.find?_toArray]
    have := hfind x
    rw [hx] at this
    exact Option.map_eq_none_iff.mp this
  have hlenE : es.length = l.length := by
    have := congrArg List.length he
    simpa using this
  unfold Builtin.«type.__new__»
  refine wpAny_step (fun q => wpAny_pure q) ?_
  refine wpAny_step (fun q => L1.at q) ?_
  refine wpAny_step (fun q => L2.at q) ?_
  refine wpAny_step (fun q => wpAny_seqItems hT rfl q) ?_
  refine wpAny_step (fun q => wpAny_pure q) ?_
  refine wpAny_step (fun q => wpAny_pure q) ?_
  refine wpAny_to turned_obj ?_
  refine wpAny_to ext_obj ?_
  have hs1 : (nsA == sysModules) = false := by rw [beq_eq_false_iff_ne]; exact hsys
  refine wpAny_no (by rw [hs1]; decide) ?_
  refine wpAny_step (fun q => wpAny_dictEntries ho rfl q) ?_
  refine wpAny_step (fun q => L3.at q) ?_
  refine wpAny_yes (by rw [show (some (Value.builtin "dict.__iter__") == some (Value.builtin "dict.__iter__")) = true from by decide +kernel, Bool.or_true]) ?_
  refine wpAny_step (fun q => wpAny_pure q) ?_
  refine wpAny_bind (wpAny_holding (wpAny_is (read_obj (hnone _ (la _ (by decide +kernel)))) ?_))
  refine wpAny_bind (wpAny_newObj_type ?_ (by show es.toArray.size ≤ sizeLine + 1; rw [List.size_toArray, hlenE, sizeLine]; omega))
  show wpAny _ _ _ _ _ ⟨h.push (dictOf es 0), g, d, t, os⟩
  generalize hH1 : h.push (dictOf es 0) = H1
  have k1 : ∀ b o, h.get? b = some o → H1.get? b = some o := fun b o e => hH1 ▸ Heap.get?_push_of_some _ e
  have z1 : H1.objs.size = h.objs.size + 1 := by rw [← hH1, Heap.size_push]
  have N1 : NsL H1 h.objs.size l := ⟨es, 0, by rw [← hH1]; exact Heap.get?_push_size _ rfl, he⟩
  generalize hns : h.objs.size = ns at *
  have hmod : es.toArray.any (fun x => x.key.isStr (Str.ofString "__module__")) = true := by
    rw [List.any_toArray, ← any_of_findIdx]
    rcases erase_kv (Str.ofString "__module__") es l he with ⟨i, hi, _⟩ | ⟨_, hl⟩
    · rw [hi]; rfl
    · rw [hl] at lm; cases lm
  refine wpAny_no (show ¬ ((!(es.toArray.any fun x => x.key.isStr (Str.ofString "__module__"))) = true) by rw [hmod]; decide) ?_
  refine wpAny_bind (wpAny_no (by decide +kernel) (wpAny_pure ?_))
  refine wpAny_no (by decide +kernel) ?_
  refine nsGetAt N1 (lq) ?_
  refine nsGetAt N1 (lq) ?_
  refine wpAny_step (fun q => wpAny_pure q) ?_
  refine wpAny_step (fun q => wpAny_pure q) ?_
  refine nsGetAt N1 (la _ (by decide +kernel)) ?_
  refine wpAny_step (fun q => wpAny_alloc q) ?_
  show wpAny _ _ _ _ _ ⟨H1.push { cls := .type "type", data := .cls { name := "MPU", bases := [.type "object"], mro := [], ns := ns, qualname := "MPU" } }, g, d, t, os⟩
  generalize hH2 : H1.push { cls := .type "type", data := .cls { name := "MPU", bases := [.type "object"], mro := [], ns := ns, qualname := "MPU" } } = H2
  have k2 : ∀ b o, H1.get? b = some o → H2.get? b = some o := fun b o e => hH2 ▸ Heap.get?_push_of_some _ e
  have z2 : H2.objs.size = ns + 2 := by rw [← hH2, Heap.size_push, z1]
  have C2 : H2.get? H1.objs.size = some ⟨.type "type", none, .cls { name := "MPU", bases := [.type "object"], mro := [], ns := ns, qualname := "MPU" }, #[]⟩ := by rw [← hH2]; exact Heap.get?_push_size _ rfl
  show wpAny _ _ _ _ _ _
  rw [show Shared.heap ⟨H1, g, d, t, os⟩ = H1 from rfl, z1]
  rw [z1] at C2
  generalize hC : ns + 1 = C at *
  have hnC : ns ≠ C := by rw [← hC]; exact Nat.ne_of_lt (Nat.lt_succ_self _)
  have N2 := N1.keeps k2
  refine wpAny_bind (wpAny_setSlot C2 (by rw [sizeLine]; decide) fun H3 sl3 e3 _ C3 s3 => ?_)
  have N3 : NsL H3 ns l := N2.at fun o e => (s3.2 _ hnC).trans e
  refine wpAny_bind (wpAny_setSlot C3 (by rw [sizeLine]; decide) fun H4 sl4 e4 _ C4 s4 => ?_)
  have N4 : NsL H4 ns l := N3.at fun o e => (s4.2 _ hnC).trans e
  refine wpAny_bind (wpAny_nsDelL N4 (by rw [lq]; rfl) fun H5 N5 s5 => ?_)
  have C5 := (s5.2 C hnC.symm).trans C4
  have la5 : ∀ x ∈ absentNames, (dropP ("__qualname__" : Str) l).lookup x = none := fun x hx => by
    rw [dropP_lookup_ne, la x hx]
    rintro rfl
    exact absurd hx (by decide +kernel)
  refine nsGetAt N5 (la5 _ (by decide +kernel)) ?_
  refine wpAny_bind (wpAny_forC (nsGetAt N5 (la5 _ (by decide +kernel)) (wpAny_pure ?_)))
  refine wpAny_forC (nsGetAt N5 (la5 _ (by decide +kernel)) (wpAny_pure ?_))
  refine wpAny_forN ?_
  refine nsGetAt N5 (la5 _ (by decide +kernel)) ?_
  refine nsGetAt N5 (la5 _ (by decide +kernel)) ?_
  refine wpAny_to hook_none ?_
  refine wpAny_to lin_obj ?_
  refine wpAny_step (fun q => wpAny_pure q) ?_
  have hfil : List.filter (fun x => x != Value.ref C) (Value.ref C :: [Value.type "object"]) = [Value.type "object"] := by
    rw [List.filter_cons, if_neg (by simp), List.filter_cons, if_pos (by simp)]; rfl
  refine wpAny_to (anyM_del hfil (by exact congrArg pure del_obj)) ?_
  have hdel : es.toArray.any (fun x => x.key.isStr (Str.ofString "__del__")) = false := by
    rw [List.any_toArray, ← any_of_findIdx]
    rcases erase_kv (Str.ofString "__del__") es l he with ⟨i, hi, _⟩ | ⟨hi, _⟩
    · have := hfind (Str.ofString "__del__")
      rw [la _ (by decide +kernel)] at this
      have h2 := Option.map_eq_none_iff.mp this
      rw [List.findIdx?_eq_none_iff.mpr (fun e he' => by simpa using List.find?_eq_none.mp h2 e he')]; rfl
    · rw [hi]; rfl
  refine wpAny_bind (wpAny_updCls C5 (fun H6 C6 s6 => ?_) (by rfl))
  replace C6 : H6.get? C = some ⟨.type "type", none, .cls { name := "MPU", bases := [.type "object"], mro := [.ref C, .type "object"], ns := ns, qualname := "MPU", hasDel := false }, sl4⟩ := by rw [C6]; simp only [hdel, Bool.or_false]
  have N6 := N5.at fun o e => (s6.2 _ hnC).trans e
  refine wpAny_to made_obj ?_
  refine wpAny_bind (wpAny_setSlot C6 (by rw [sizeLine]; decide) fun H7 sl7 e7 _ C7 s7 => ?_)
  have N7 := N6.at fun o e => (s7.2 _ hnC).trans e
  have A7 := ClsAt.mk C7 rfl rfl N7
  have L7 : Looks (model prog w) H7 (typeLookup (.ref C) "__new__") (some (.builtin "object.__new__")) := A7.past (la5 _ (by decide +kernel)) own_new
  unfold Bind.refreshMaker
  refine wpAny_bind (wpAny_bind (wpAny_bind (wpAny_loadPart C7 (wpAny_pure ?_))))
  rw [e7.1]
  refine wpAny_step (fun q => L7.at q) ?_
  refine wpAny_no (by rw [end_new]; decide) ?_
  refine wpAny_pure ?_
  refine wpAny_bind (install0 C7 (fun H8 C8 s8 => ?_) (by rfl))
  have N8 := N7.at fun o e => (s8.2 _ hnC).trans e
  refine wpAny_to gw_obj ?_
  refine wpAny_bind (wpAny_setSlot C8 (by rw [sizeLine]; decide) fun H9 sl9 e9 k9 C9 s9 => ?_)
  have N9 := N8.at fun o e => (s9.2 _ hnC).trans e
  have e94 := six_of (by rw [e9.2, e7.2, e4.2, e3.2]; rfl) (k9 4 _ (by decide) e7.1)
  show wpAny _ _ _ _ _ ⟨H9, g, d, t, os⟩
  refine nsGetAt N9 (la5 _ (by decide +kernel)) ?_
  refine wpAny_step (fun q => wpAny_mkStr q) ?_
  refine wpAny_bind (wpAny_newObj_type ?_ (by size_fits))
  show wpAny _ _ _ _ _ ⟨H9.push { cls := .type "getset_descriptor", data := .fields #[.str "__dict__" t, .ref C, .builtin "function.__dict__", .builtin "function.__dict__#set"] }, g, d, t + 1, os⟩
  generalize hH10 : H9.push _ = H10
  have k10 : ∀ b o, H9.get? b = some o → H10.get? b = some o := fun b o e => hH10 ▸ Heap.get?_push_of_some _ e
  have D10 : H10.get? H9.objs.size = some { cls := .type "getset_descriptor", data := .fields #[.str "__dict__" t, .ref C, .builtin "function.__dict__", .builtin "function.__dict__#set"] } := by rw [← hH10]; exact Heap.get?_push_size _ rfl
  have hDn : H9.objs.size ≠ ns := fun e => by
    obtain ⟨es', m, ho', _⟩ := N9
    have := Heap.lt_size ho'
    rw [e] at this
    exact Nat.lt_irrefl _ this
  have hDC : H9.objs.size ≠ C := fun e => by
    have := Heap.lt_size C9
    rw [e] at this
    exact Nat.lt_irrefl _ this
  show wpAny _ _ (nsSet ns "__dict__" (.ref H9.objs.size) >>= _) _ _ _
  generalize hD : H9.objs.size = Da at *
  refine wpAny_bind (wpAny_nsSetL (N9.keeps k10) fun H11 N11 s11 => ?_)
  have C11 := (s11.2 C hnC.symm).trans (k10 _ _ C9)
  have D11 := (s11.2 Da hDn).trans D10
  show wpAny _ _ _ _ _ ⟨H11, g, d, t + 1 + 1, os⟩
  refine nsGetAt N11 (by rw [putP_lookup_ne (by decide +kernel), la5 _ (by decide +kernel)]) ?_
  refine wpAny_step (fun q => wpAny_mkStr q) ?_
  refine wpAny_bind (wpAny_newObj_type ?_ (by size_fits))
  show wpAny _ _ _ _ _ ⟨H11.push { cls := .type "getset_descriptor", data := .fields #[.str "__weakref__" (t + 1 + 1), .ref C, .builtin "ExceptionGroup.__weakref__", .none] }, g, d, t + 1 + 1 + 1, os⟩
  generalize hH12 : H11.push _ = H12
  have k12 : ∀ b o, H11.get? b = some o → H12.get? b = some o := fun b o e => hH12 ▸ Heap.get?_push_of_some _ e
  have W12 : H12.get? H11.objs.size = some { cls := .type "getset_descriptor", data := .fields #[.str "__weakref__" (t + 1 + 1), .ref C, .builtin "ExceptionGroup.__weakref__", .none] } := by rw [← hH12]; exact Heap.get?_push_size _ rfl
  have hWn : H11.objs.size ≠ ns := fun e => by
    obtain ⟨es', m, ho', _⟩ := N11
    have := Heap.lt_size ho'
    rw [e] at this
    exact Nat.lt_irrefl _ this
  show wpAny _ _ (nsSet ns "__weakref__" (.ref H11.objs.size) >>= _) _ _ _
  generalize hW : H11.objs.size = Wa at *
  refine wpAny_bind (wpAny_nsSetL (N11.keeps k12) fun H13 N13 s13 => ?_)
  have C13 := (s13.2 C hnC.symm).trans (k12 _ _ C11)
  have D13 := (s13.2 Da hDn).trans (k12 _ _ D11)
  have W13 := (s13.2 Wa hWn).trans W12
  show wpAny _ _ _ _ _ ⟨H13, g, d, t + 1 + 1 + 1 + 1, os⟩
  refine nsGetAt N13 (by rw [putP_lookup_ne (by decide +kernel), putP_lookup_ne (by decide +kernel), la5 _ (by decide +kernel)]) ?_
  refine wpAny_bind (wpAny_nsSetL N13 fun H14 N14 s14 => ?_)
  have C14 := (s14.2 C hnC.symm).trans C13
  have D14 := (s14.2 Da hDn).trans D13
  have W14 := (s14.2 Wa hWn).trans W13
  show wpAny _ _ _ _ _ ⟨H14, g, d, t + 1 + 1 + 1 + 1 + 1, os⟩
  refine nsGetAt N14 (by rw [putP_lookup_ne (by decide +kernel), putP_lookup_ne (by decide +kernel), putP_lookup_ne (by decide +kernel), la5 _ (by decide +kernel)]) ?_
  refine wpAny_bind (wpAny_forC (wpAny_to (noteObj C) (wpAny_pure ?_)))
  refine wpAny_forN ?_
  refine wpAny_bind (wpAny_tryCatch (wpAny_holding ?_))
  obtain ⟨es14, n14, ho14, he14⟩ := id N14
  refine wpAny_step (fun q => wpAny_dictEntries ho14 rfl q) ?_
  refine wpAny_bind ?_
  rw [List.forIn_toArray]
  refine wpAny_forIn_list _ (fun rest b s' => b = false ∧ s' = ⟨H14, g, d, t + 1 + 1 + 1 + 1 + 1, os⟩ ∧ ∀ e ∈ rest, ∃ n t, e.key = .str n t) _ ?_ ?_ es14 _ ⟨rfl, rfl, strKeys_kv he14⟩
  · rintro e rest b s' ⟨rfl, rfl, hk⟩
    obtain ⟨n, tk, hkey⟩ := hk e (List.mem_cons_self ..)
    rw [hkey]
    exact wpAny_bind (wpAny_pure (wpAny_pure ⟨rfl, rfl, fun e' he' => hk e' (List.mem_cons_of_mem _ he')⟩))
  · rintro b s' ⟨rfl, rfl, _⟩
    refine wpAny_step (fun q => wpAny_dictEntries ho14 rfl q) ?_
    refine wpAny_bind ?_
    rw [List.forIn_toArray]
    have kall : ∀ b o, b ≠ ns → b ≠ C → h.get? b = some o → H14.get? b = some o := fun b o hn hc e =>
      (s14.2 b hn).trans ((s13.2 b hn).trans (k12 b o ((s11.2 b hn).trans (k10 b o ((s9.2 b hc).trans ((s8.2 b hc).trans ((s7.2 b hc).trans ((s6.2 b hc).trans ((s5.2 b hn).trans ((s4.2 b hc).trans ((s3.2 b hc).trans (k2 b o (k1 b o e)))))))))))))
    have kold : ∀ b o, h.get? b = some o → H14.get? b = some o := fun b o e => by
      have hb := Heap.lt_size e
      rw [hns] at hb
      exact kall b o (Nat.ne_of_lt hb) (by rw [← hC]; exact Nat.ne_of_lt (Nat.lt_succ_of_lt hb)) e
    have cv14 : ∀ x ∈ putP ("__doc__" : Str) .none (putP ("__weakref__" : Str) (.ref Wa) (putP ("__dict__" : Str) (.ref Da) (dropP ("__qualname__" : Str) l))), CV H14 x.2 := fun x hx => by
      rcases mem_putP hx with e | hx
      · rw [e]; trivial
      rcases mem_putP hx with e | hx
      · rw [e]; exact ⟨_, W14, .inr (.inr (.inr rfl))⟩
      rcases mem_putP hx with e | hx
      · rw [e]; exact ⟨_, D14, .inr (.inr (.inr rfl))⟩
      exact (cv x (mem_dropP hx)).at fun b o _ e => kold b o e
    have cve : ∀ e ∈ es14, CV H14 e.val := fun e hm => by
      have : kv e ∈ es14.map kv := List.mem_map_of_mem hm
      rw [he14] at this
      obtain ⟨x, hx, hkv⟩ := List.mem_map.mp this
      rw [(kv_str hkv.symm).2]
      exact cv14 x hx
    refine wpAny_forIn_list _ (fun rest b s' => s' = ⟨H14, g, d, t + 1 + 1 + 1 + 1 + 1, os⟩ ∧ ∀ e ∈ rest, CV H14 e.val) _ ?_ ?_ es14 _ ⟨rfl, cve⟩
    · rintro e rest b s' ⟨rfl, hk⟩
      have hcv := hk e (List.mem_cons_self ..)
      rw [hcv.held]
      refine wpAny_bind (hcv.looks.at ?_)
      exact wpAny_pure ⟨rfl, fun e' he' => hk e' (List.mem_cons_of_mem _ he')⟩
    · rintro b s' ⟨rfl, _⟩
      have X14 := ClsAt.mk C14 rfl rfl N14
      refine wpAny_bind (superMake X14 fun S H15 S15 k15 => ?_)
      have X15 := X14.keeps k15
      have hst15 : H15.Ns cStatics mc := (hst.keeps kold).keeps k15
      refine wpAny_bind (wpAny_holding (sub_get X15 S15 hst15 hno ?_))
      refine wpAny_bind (sub_call (X15.keeps fun b o e => Heap.get?_push_of_some _ e) rfl (Heap.get?_push_size _ rfl) ?_)
      refine wpAny_pure (wpAny_pure ?_)
      have k16 : ∀ b o, H14.get? b = some o → (H15.push (subObj C)).get? b = some o := fun b o e => Heap.get?_push_of_some _ (k15 b o e)
      refine hq _ _ C ⟨fun b o e => k16 b o (kold b o e), ns, Da, Wa, _, _, X14.keeps k16, rfl, rfl, rfl, rfl, rfl, rfl, e94, ?_, ?_⟩
      · rw [hns, ← hC]; exact Nat.le_succ _
      · rw [hns]; exact Nat.le_refl _
end
end Mine
end
section
set_option maxRecDepth 100000
open PySem PySem.W PyProof.Rows PySem.Claim2Try PySem.Pin Builtin Builtin.ObjectAttr
namespace Mine
theorem tn_plain : plainId "type.__new__" = true := by decide +kernel
theorem ti_plain : plainId "type.__init__" = true := by decide +kernel
theorem ti_kind : builtinKind "type.__init__" = some .slot := by decide +kernel
theorem ti_split : splitId "type.__init__" = some ("type", "__init__") := by decide +kernel
theorem ti_args (a b c d : Value) : argsOk "type.__init__" ⟨[a, b, c, d], []⟩ := by unfold argsOk; kernel_rfl
theorem ti_bind (self : Value) : bindSpecial (.builtin "type.__init__") self = pure (.builtin "type.__init__", [self]) := by kernel_rfl
theorem ti_run (a b c d : Value) : Builtin.«type.__init__» ⟨[a, b, c, d], []⟩ = ret .none := by kernel_rfl
section
variable {prog : Program} {w : World} {A : Around} {E : Value → Shared → Prop} {h : Heap} {g : Array GenState} {d : Drawn} {t : Nat} {os : OsState}
set_option maxHeartbeats 1000000 in
theorem wpAny_typeCall {tn tq : Tok} {bT nsA : Addr} {l : List (Str × Value)} {Q : Value → Shared → Prop}
    (hT : h.get? bT = some { cls := .type "tuple", data := .seq #[] }) (hN : NsL h nsA l) (hsys : nsA ≠ sysModules) (lm : (l.lookup ("__module__" : Str)).isSome = true) (lq : l.lookup ("__qualname__" : Str) = some (.str "MPU" tq))
    (la : ∀ x ∈ absentNames, l.lookup x = none) (cv : ∀ x ∈ l, CV h x.2) (hlen : l.length ≤ 1000)
    {mc : Str → Option Value} (hst : h.Ns cStatics mc) (hno : mc "thirdparty.any" = none) (hq : ∀ h' tk C, NewCls h h' C l → Q (.ref C) ⟨h', g, d, tk, os⟩) :
    wpAny (model prog w) A (call (.type "type") [.str "MPU" tn, .ref bT, .ref nsA] []) Q E ⟨h, g, d, t, os⟩ := by
  refine wpAny_call (codeAny_of_tree ?_)
  show wpAny _ _ (callAny (.type "type") _) _ _ _
  refine wpAny_pure (And.intro (Code.quiet_builtin _ (by decide +kernel)) ?_)
  refine codeAny_builtin tc_entry ?_
  show wpAny _ _ (Builtin.«type.__call__» ⟨[.type "type", .str "MPU" tn, .ref bT, .ref nsA], []⟩) _ _ _
  rw [tcall_eq]
  refine wpAny_bind (wpAny_holding (wpAny_call ?_))
  refine codeAny_call_builtin tn_plain tn_entry ?_
  show wpAny _ _ (checkBuiltinCall "type.__new__" ⟨[.type "type", .str "MPU" tn, .ref bT, .ref nsA], []⟩) _ _ _
  rw [tn_check]
  refine wpAny_pure ?_
  show wpAny _ _ (Builtin.«type.__new__» ⟨[.type "type", .str "MPU" tn, .ref bT, .ref nsA], []⟩) _ _ _
  refine wpAny_typeNew hT hN hsys lm lq la cv hlen hst hno fun h' tk C nc => ?_
  obtain ⟨ns, Da, Wa, cd, sl, X, _⟩ := id nc.cls
  have T1 := looks_type (M := model prog w) (c := .type "type") X.obj rfl
  have I1 : Looks (model prog w) h' (isInstance (.ref C) (.type "type")) true := T1.andThen (looks_subIn (K := []) nilIn (by kernel_rfl))
  have P1 : Looks (model prog w) h' (specialOf (.ref C) "__init__") (some (.builtin "type.__init__")) := T1.andThen (looks_findIn (K := []) nilIn (by kernel_rfl))
  refine wpAny_bind (I1.at ?_)
  k_node
  refine wpAny_bind (wpAny_holding ?_)
  unfold callSpecial?
  refine wpAny_bind (P1.at ?_)
  refine wpAny_holding ?_
  rw [ti_bind]
  refine wpAny_bind (wpAny_pure ?_)
  refine wpAny_bind (wpAny_call ?_)
  refine codeAny_call_builtin ti_plain ti_entry ?_
  refine @check_slot (model prog w) _ _ ⟨h', g, d, tk, os⟩ "type.__init__" "type" "__init__" (.ref C) [.str "MPU" tn, .ref bT, .ref nsA] [] _ ti_kind ti_split I1 (ti_args _ _ _ _) ?_
  show wpAny _ _ (Builtin.«type.__init__» ⟨[.ref C, .str "MPU" tn, .ref bT, .ref nsA], []⟩) _ _ _
  rw [ti_run]
  refine wpAny_pure (wpAny_pure ?_)
  k_node
  exact wpAny_pure (hq h' tk C nc)
end
end Mine
end
section
set_option maxRecDepth 100000
open PySem PySem.W PyProof.Rows PySem.Claim2Try PySem.Pin Builtin Builtin.ObjectAttr
namespace Mine
/-- what the top's first steps leave, once and for all -/
structure Top0 (h0 : Heap) (mg0 : Str → Option Value) (c Pl : Addr) : Prop where
  gP : mainGlobals ≠ Pl
  gc : mainGlobals ≠ c
  sP : cStatics ≠ Pl
  b : h0.BuiltinsAt mg0 Pl
  st : h0.Ns cStatics (fun _ => none)
  blt : ∃ mb, h0.Ns builtinsNs mb ∧ mb "__build_class__" = some (.builtin "__build_class__")
  bP : builtinsNs ≠ Pl
  sys : sysModules < h0.objs.size
  lt : mainGlobals < h0.objs.size
  Plt : Pl < h0.objs.size
noncomputable abbrev upd (mg : Str → Option Value) (x : Str) (v : Value) : Str → Option Value := fun y => if y = x then some v else mg y
/-- the state between two statements of the top -/
structure Mid (h0 h : Heap) (mg0 mg : Str → Option Value) (c Pl : Addr) (L : Nat) : Prop where
  old : ∀ b o, b ≠ mainGlobals → b ≠ Pl → h0.get? b = some o → h.get? b = some o
  g : h.Ns mainGlobals mg
  code : ∃ ps, h.IsCode c Pl ps ∧ LinesBelow L ps.toList
  sz : h0.objs.size ≤ h.objs.size
  bl : mg "__builtins__" = mg0 "__builtins__"
theorem Mid.b {h0 h : Heap} {mg0 mg : Str → Option Value} {c Pl : Addr} {L : Nat} (T : Top0 h0 mg0 c Pl) (m : Mid h0 h mg0 mg c Pl L) : h.BuiltinsAt mg Pl := by
  obtain ⟨bm, o, h1, h2, h3, h4, h5, h6⟩ := T.b
  exact ⟨bm, o, m.bl.trans h1, h2, h3, h4, m.old _ _ h3 h4 h5, h6⟩
section
variable {M : Model} {A : Around} {E : Value → Shared → Prop} {s : Shared} {prog : Program} {c Pl F : Addr} {h0 : Heap} {mg0 mg : Str → Option Value} {L : Nat}
theorem mid_bind {h : Heap} {x : Str} {v : Value} {Q : Unit → Shared → Prop} (T : Top0 h0 mg0 c Pl) (m : Mid h0 s.heap mg0 mg c Pl L) (hloc : prog.main.scope.names.lookup x = some .local) (hmod : prog.main.scope.kind = .module) (hx : x ≠ "__builtins__")
    (h : ∀ h' tk, Mid h0 h' mg0 (upd mg x v) c Pl L → (∀ b o, b ≠ mainGlobals → s.heap.get? b = some o → h'.get? b = some o) → h'.objs.size = s.heap.objs.size → Q () { s with heap := h', toks := tk }) :
    wpAny M A (storeName (mainEnv prog c F) x v) Q E s := by
  refine wpAny_storeName_local (env := mainEnv prog c F) hloc m.g (fun h' hg' hs' => ?_) (by show (prog.main.scope.kind == .class || (prog.main.scope.kind == .module && mainGlobals != mainGlobals)) = false; rw [hmod]; rfl)
  obtain ⟨ps, hc, hl⟩ := m.code
  refine h h' _ ⟨fun b o h1 h2 e => (hs'.2 b h1).trans (m.old b o h1 h2 e), hg', ⟨ps, hc.sameBut hs' T.gc.symm T.gP.symm, hl⟩, Nat.le_trans m.sz (Nat.le_of_eq hs'.1.symm), ?_⟩ (fun b o hb e => (hs'.2 b hb).trans e) hs'.1
  show (if _ then _ else _) = _
  rw [if_neg hx.symm]; exact m.bl
theorem mid_assign {x v : Str} {p q r : Pos} {k : Nat} {Q : Flow → Shared → Prop} (T : Top0 h0 mg0 c Pl) (m : Mid h0 s.heap mg0 mg c Pl L) (hloc : prog.main.scope.names.lookup x = some .local) (hmod : prog.main.scope.kind = .module) (hx : x ≠ "__builtins__")
    (h : ∀ t h' tk, Mid h0 h' mg0 (upd mg x (.str v t)) c Pl L → (∀ b o, b ≠ mainGlobals → s.heap.get? b = some o → h'.get? b = some o) → h'.objs.size = s.heap.objs.size → Q .next { s with heap := h', toks := tk }) :
    wpAny M A (exec (.Assign [.Name x p] (.Constant (.str v) k q) r) (mainEnv prog c F)) Q E s := by
  refine wpAny_Assign_Name (wpAny_eval_const rfl fun w tk hv => ?_)
  obtain ⟨t, rfl⟩ := hv
  exact mid_bind (s := { s with toks := tk }) (h := h0) T m hloc hmod hx fun h' tk' m' k' z' => h t h' tk' m' k' z'
theorem mid_def {name : Str} {params : Arguments} {body : List Stmt} {scope : Scope} {pos : Pos} {Q : Flow → Shared → Prop} (T : Top0 h0 mg0 c Pl) (m : Mid h0 s.heap mg0 mg c Pl L) (hloc : prog.main.scope.names.lookup name = some .local) (hmod : prog.main.scope.kind = .module) (hx : name ≠ "__builtins__")
    (ok : defOkB params scope = true) (hp : L ≤ pos.line)
    (h : ∀ v h' tk, FnAt h' s.heap.objs.size v name (qualnameIn (mainEnv prog c F) name name) params body scope → Mid h0 h' mg0 (upd mg name v) c Pl (pos.line + 1) → (∀ b o, b ≠ mainGlobals → b ≠ Pl → s.heap.get? b = some o → h'.get? b = some o) → s.heap.objs.size ≤ h'.objs.size → Q .next { s with heap := h', toks := tk }) :
    wpAny M A (exec (.FunctionDef name params body [] none [] scope none name pos) (mainEnv prog c F)) Q E s := by
  obtain ⟨ps, hc, hl⟩ := m.code
  refine wpAny_defAny (defOk_of ok) rfl m.g rfl hc (codeAmong_below hp _ hl) T.gP (m.b T) fun v c' h' tk hf hx' hsz hok' => ?_
  have m1 : Mid h0 h' mg0 mg c Pl (pos.line + 1) := ⟨fun b o h1 h2 e => hx' b o h2 (m.old b o h1 h2 e), m.g.at fun o => hx' _ o T.gP, ⟨_, hok', by
    rw [Array.toList_append]; exact LinesBelow.snoc (Nat.lt_succ_self _) (hl.mono (Nat.le_succ_of_le hp))⟩, Nat.le_trans m.sz hsz, m.bl⟩
  refine wpAny_bindName (mid_bind (s := { s with heap := h', toks := tk }) (h := h0) T m1 hloc hmod hx fun h'' tk' m' k' z' => ?_)
  exact h v h'' tk' (hf.keeps fun b o hb e => k' b o (Nat.ne_of_gt (Nat.lt_of_lt_of_le (Nat.lt_of_lt_of_le T.lt m.sz) hb)) e) m' (fun b o h1 h2 e => k' b o h1 (hx' b o h2 e)) (Nat.le_trans hsz (Nat.le_of_eq z'.symm))
end
end Mine
end
section
set_option maxRecDepth 100000
open PySem PySem.W PyProof.Rows PySem.Claim2Try PySem.Pin Builtin Builtin.ObjectAttr
namespace Mine
theorem putP_length {name : Str} {v : Value} : ∀ l : List (Str × Value), (putP name v l).length ≤ l.length + 1
  | [] => Nat.le_refl _
  | x :: r => by
    unfold putP
    split
    · exact Nat.le_succ _
    · exact Nat.succ_le_succ (putP_length r)
theorem BodyMade.length {h : Heap} {lo : Nat} {qual : Str} : ∀ {b : List Stmt} {l l' : List (Str × Value)}, BodyMade h lo qual l b l' → l'.length ≤ l.length + b.length
  | [], _, _, x => by cases x; exact Nat.le_refl _
  | st :: r, l, l', ⟨v, _, x⟩ => by
    have h1 := BodyMade.length x
    have h2 := putP_length (name := nameOf st) (v := v) l
    rw [List.length_cons]
    omega
theorem BodyMade.ne {h : Heap} {lo : Nat} {qual x : Str} : ∀ {b : List Stmt} {l l' : List (Str × Value)}, BodyMade h lo qual l b l' → (b.all fun st => nameOf st != x) = true → l'.lookup x = l.lookup x
  | [], _, _, e, _ => by cases e; rfl
  | st :: r, l, l', ⟨v, _, e⟩, hx => by
    rw [List.all_cons, Bool.and_eq_true] at hx
    rw [BodyMade.ne e hx.2, putP_lookup_ne]
    have := hx.1
    simp at this
    exact fun q => this q.symm
theorem Made.lower {h : Heap} {lo lo' : Nat} {qual : Str} {l : List (Str × Value)} {st : Stmt} {v : Value} (hl : lo' ≤ lo) (x : Made h lo qual l st v) : Made h lo' qual l st v := by
  cases x with
  | asg x => exact .asg x
  | lst ha g i => exact .lst (Nat.le_trans hl ha) g i
  | fn x => exact .fn (x.lower hl)
theorem BodyMade.lower {h : Heap} {lo lo' : Nat} {qual : Str} (hl : lo' ≤ lo) : ∀ {b : List Stmt} {l l' : List (Str × Value)}, BodyMade h lo qual l b l' → BodyMade h lo' qual l b l'
  | [], _, _, x => x
  | _ :: _, _, _, ⟨v, m, r⟩ => ⟨v, m.lower hl, BodyMade.lower hl r⟩
/-- the class stands: its list, its record -/
inductive ClsM (h : Heap) (lo : Nat) (C : Addr) (body : List Stmt) : Prop
  | mk (ns Da Wa ft : Addr) (cd : ClassData) (sl : Array (Option Value)) (nm : Str) (tm tq tf : Tok) (fl : Int) (l' : List (Str × Value)) (X : ClsAt h C ns (putP "__doc__" .none (putP "__weakref__" (.ref Wa) (putP "__dict__" (.ref Da) (dropP "__qualname__" (putP "__static_attributes__" (.ref ft) l'))))) cd sl)
    (c1 : cd.name = "MPU") (c2 : cd.abstract = false) (c3 : cd.hasDel = false) (c4 : cd.hasDict = true) (c5 : cd.slotNames = []) (c6 : cd.bases = [.type "object"]) (c7 : ∃ k0 k1 k2 k3 k5, sl = #[k0, k1, k2, k3, some (.builtin "object.__new__"), k5]) (c8 : lo ≤ C) (c9 : lo ≤ ns)
    (b : BodyMade h lo "MPU" [(("__module__" : Str), .str nm tm), (("__qualname__" : Str), .str "MPU" tq), (("__firstlineno__" : Str), .int fl tf)] body l') : ClsM h lo C body
structure ClsMade (h : Heap) (lo : Nat) (C : Addr) (body : List Stmt) : Prop where
  made : ClsM h lo C body
noncomputable def clsAbsent : List Str := "__qualname__" :: "__module__" :: "__static_attributes__" :: absentNames
structure ClsMore (body : List Stmt) : Prop where
  abs : ∀ x ∈ clsAbsent, (body.all fun st => nameOf st != x) = true
  len : body.length ≤ 900
section
variable {prog : Program} {w : World} {A : Around} {E : Value → Shared → Prop} {s : Shared} {c Pl F : Addr} {h0 : Heap} {mg0 mg : Str → Option Value} {L : Nat}
theorem mid_class {body : List Stmt} {scope : Scope} {statics : List Str} {pos : Pos} {x1 : Option Scope} {nm : Str} {tm : Tok} {Q : Flow → Shared → Prop} (T : Top0 h0 mg0 c Pl) (m : Mid h0 s.heap mg0 mg c Pl L) (hloc : prog.main.scope.names.lookup ("MPU" : Str) = some .local) (hmod : prog.main.scope.kind = .module)
    (ok : ClsOk scope body statics 0) (more : ClsMore body) (hp : L ≤ pos.line) (hd : A.depth < recursionLimit) (hnm : mg "__name__" = some (.str nm tm))
    (h : ∀ C h' tk, ClsMade h' s.heap.objs.size C body → Mid h0 h' mg0 (upd mg "MPU" (.ref C)) c Pl (pos.line + 1) → (∀ b o, b ≠ mainGlobals → b ≠ Pl → s.heap.get? b = some o → h'.get? b = some o) → s.heap.objs.size ≤ h'.objs.size → Q .next { s with heap := h', toks := tk }) :
    wpAny (model prog w) A (exec (.ClassDef "MPU" [] [] body [] [] scope x1 "MPU" statics pos) (mainEnv prog c F)) Q E s := by
  obtain ⟨ps, hc, hl⟩ := m.code
  obtain ⟨mb, hmb, hbc⟩ := T.blt
  rw [arm_exec_ClassDef]
  refine wpAny_bind (wpAny_pure ?_)
  refine wpAny_bind (wpAny_standAt ?_)
  refine wpAny_bind ?_
  unfold buildClassGuard
  refine wpAny_bind (wpAny_nsGet (a := builtinsNs) (hmb.at fun o => m.old _ o (by decide) T.bP) ?_)
  rw [hbc]
  refine wpAny_pure ?_
  refine wpAny_bind (wpAny_holding ?_)
  refine wpAny_bind (wpAny_pure ?_)
  refine wpAny_bind (wpAny_standAt ?_)
  refine wpAny_holding ?_
  have hq : qualnameIn (mainEnv prog c F) "MPU" "MPU" = "MPU" := by
    show (if (prog.main.scope.names.lookup ("MPU" : Str) == some NameKind.globalExplicit) = true then _ else _) = _
    rw [hloc]; rfl
  rw [hq]
  show wpAny _ _ (buildClass "MPU" "MPU" [] [] body scope statics pos.line (mainEnv prog c F) pos none) _ _ _
  have hst : s.heap.Ns cStatics (fun _ => none) := T.st.at fun o => m.old _ o (by decide) T.sP
  refine wpAny_buildClass ok m.g (m.b T) T.gP hc (codeAmong_below hp _ hl) ⟨_, hst, rfl⟩ T.sP hd (Nat.lt_of_lt_of_le T.sys m.sz) ⟨_, hnm⟩ ?_
  intro h' tk nm' nsA bT l l' ft items lo tn tq tf e1 hn hT hbT hN hft el hlo hnlo bm old cod hsz
  rw [hnm] at e1
  cases e1
  have ab : ∀ x ∈ clsAbsent, l'.lookup x = l.lookup x := fun x hx => bm.ne (more.abs x hx)
  have sa : ∀ x ∈ absentNames, x ≠ ("__static_attributes__" : Str) := by decide +kernel
  have sl3 : ∀ x ∈ absentNames, x ≠ ("__module__" : Str) ∧ x ≠ ("__qualname__" : Str) ∧ x ≠ ("__firstlineno__" : Str) := by decide +kernel
  have hl0 : ∀ x ∈ absentNames, l.lookup x = none := fun x hx => by
    obtain ⟨q1, q2, q3⟩ := sl3 x hx
    rw [el]
    simp only [List.lookup, beq_eq_false_iff_ne.mpr q1, beq_eq_false_iff_ne.mpr q2, beq_eq_false_iff_ne.mpr q3]
  show wpAny _ _ _ _ _ ⟨h', s.gens, s.drawn, tk, s.os⟩
  refine wpAny_typeCall (tq := tq) hT hN (Nat.ne_of_gt (Nat.lt_of_lt_of_le T.sys (Nat.le_trans m.sz hn))) ?_ ?_ ?_ ?_ ?_ (hst.at fun o => old _ o T.sP) rfl ?_
  · rw [putP_lookup_ne (by decide +kernel), ab _ (by decide +kernel), el]; rfl
  · rw [putP_lookup_ne (by decide +kernel), ab _ (by decide +kernel), el]
    have e1 : (("__qualname__" : Str) == ("__module__" : Str)) = false := by decide +kernel
    have e2 : (("__qualname__" : Str) == ("__qualname__" : Str)) = true := by decide +kernel
    simp only [List.lookup, e1, e2]
  · intro x hx
    rw [putP_lookup_ne (sa x hx), ab x (List.mem_cons_of_mem _ (List.mem_cons_of_mem _ (List.mem_cons_of_mem _ hx))), hl0 x hx]
  · intro x hx
    rcases mem_putP hx with e | hx
    · rw [e]; exact ⟨_, hft, .inr (.inr (.inl rfl))⟩
    · refine CV.of_body ok.stmts bm (fun y hy => ?_) x hx
      rw [el] at hy
      simp only [List.mem_cons, List.not_mem_nil, or_false] at hy
      rcases hy with rfl | rfl | rfl <;> trivial
  · have h1 := putP_length (name := "__static_attributes__") (v := .ref ft) l'
    have h2 := bm.length
    have h3 := more.len
    have h4 : l.length = 3 := by rw [el]; rfl
    omega
  intro h2 tk2 C nc
  obtain ⟨ns, Da, Wa, cd, sl, X, c1, c2, c3, c4, c5, c6, c7, c8, c9⟩ := nc.cls
  refine wpAny_bind (wpAny_pure ?_)
  refine wpAny_bind (wpAny_standAt ?_)
  have sz2 : s.heap.objs.size ≤ h2.objs.size := Nat.le_trans hsz (Nat.le_trans c8 (Nat.le_of_lt (Heap.lt_size X.obj)))
  obtain ⟨c', cod'⟩ := cod
  have m1 : Mid h0 h2 mg0 mg c Pl (pos.line + 1) := ⟨fun b o h1 h2 e => nc.keep _ _ (old b o h2 (m.old b o h1 h2 e)), m.g.at fun o e => nc.keep _ _ (old _ o T.gP e), ⟨_, cod'.keeps nc.keep, by
    rw [Array.toList_append]; exact LinesBelow.snoc (Nat.lt_succ_self _) (hl.mono (Nat.le_succ_of_le hp))⟩, Nat.le_trans m.sz sz2, m.bl⟩
  refine wpAny_bind (wpAny_bindName (mid_bind (s := ⟨h2, s.gens, s.drawn, tk2, s.os⟩) (h := h0) T m1 hloc hmod (by decide +kernel) fun h3 tk' m' k' z' => wpAny_pure ?_))
  have hg : ∀ b, s.heap.objs.size ≤ b → b ≠ mainGlobals := fun b hb => Nat.ne_of_gt (Nat.lt_of_lt_of_le (Nat.lt_of_lt_of_le T.lt m.sz) hb)
  refine h C h3 tk' ⟨ns, Da, Wa, ft, cd, sl, nm, tm, tq, tf, pos.line, l', ?_, c1, c2, c3, c4, c5, c6, c7, Nat.le_trans hsz c8, Nat.le_trans hsz c9, ?_⟩ m' (fun b o h1 h2 e => k' b o h1 (nc.keep _ _ (old b o h2 e))) (Nat.le_trans sz2 (Nat.le_of_eq z'.symm))
  · exact ⟨k' _ _ (hg _ (Nat.le_trans hsz c8)) X.obj, X.mro, X.at_, X.names.at fun o => k' _ o (hg _ (Nat.le_trans hsz c9))⟩
  · rw [← el]
    exact (bm.lower hlo).keeps fun b o hb e => k' b o (hg b hb) (nc.keep _ _ e)
end
end Mine
end
section
set_option maxRecDepth 100000
open PySem PySem.W PyProof.Rows PySem.Claim2Try PySem.Pin Builtin Builtin.ObjectAttr
namespace Mine
noncomputable def topName : Stmt → Str
  | .Assign [.Name n _] _ _ => n
  | .FunctionDef n _ _ _ _ _ _ _ _ _ => n
  | .ClassDef n _ _ _ _ _ _ _ _ _ _ => n
  | _ => Str.empty
noncomputable def topLine : Stmt → Nat
  | .FunctionDef _ _ _ _ _ _ _ _ _ p => p.line
  | .ClassDef _ _ _ _ _ _ _ _ _ _ p => p.line
  | _ => 0
noncomputable def topStmtB : Stmt → Bool
  | .Assign [.Name x _] (.Constant (.str _) _ _) _ => decide (x = "__name__")
  | .FunctionDef n params _ [] none [] scope none m _ => decide (n = m) && defOkB params scope && decide (n ≠ "__name__")
  | .ClassDef n [] [] _ [] [] _ _ m _ _ => decide (n = "MPU") && decide (m = "MPU")
  | _ => false
inductive TopOne (h : Heap) (lo : Nat) : Stmt → Value → Prop
  | asg {n : Str} {p : Pos} {s : Str} {k : Nat} {r q : Pos} {t : Tok} : TopOne h lo (.Assign [.Name n p] (.Constant (.str s) k r) q) (.str s t)
  | fn {n : Str} {params : Arguments} {body : List Stmt} {d1 : List Expr} {d2 : Option Expr} {d3 : List TypeParam} {scope : Scope} {d4 : Option Scope} {d5 : Str} {d6 : Pos} {v : Value} (x : FnAt h lo v n n params body scope) : TopOne h lo (.FunctionDef n params body d1 d2 d3 scope d4 d5 d6) v
  | cls {n : Str} {d1 : List Expr} {d2 : List Keyword} {body : List Stmt} {d3 : List Expr} {d4 : List TypeParam} {d5 : Scope} {d6 : Option Scope} {d7 : Str} {d8 : List Str} {d9 : Pos} {C : Addr} (x : ClsMade h lo C body) : TopOne h lo (.ClassDef n d1 d2 body d3 d4 d5 d6 d7 d8 d9) (.ref C)
noncomputable def TopMade (h : Heap) (lo : Nat) : (Str → Option Value) → List Stmt → (Str → Option Value) → Prop
  | mg, [], mg' => mg' = mg
  | mg, st :: r, mg' => ∃ v, TopOne h lo st v ∧ TopMade h lo (upd mg (topName st) v) r mg'
theorem ClsMade.keeps {h h' : Heap} {lo : Nat} {C : Addr} {body : List Stmt} (k : ∀ b o, lo ≤ b → h.get? b = some o → h'.get? b = some o) (x : ClsMade h lo C body) : ClsMade h' lo C body := by
  obtain ⟨ns, Da, Wa, ft, cd, sl, nm, tm, tq, tf, fl, l', X, c1, c2, c3, c4, c5, c6, c7, c8, c9, b⟩ := x.made
  exact ⟨ns, Da, Wa, ft, cd, sl, nm, tm, tq, tf, fl, l', ⟨k _ _ c8 X.obj, X.mro, X.at_, X.names.at fun o => k _ o c9⟩, c1, c2, c3, c4, c5, c6, c7, c8, c9, b.keeps k⟩
theorem ClsMade.lower {h : Heap} {lo lo' : Nat} {C : Addr} {body : List Stmt} (hl : lo' ≤ lo) (x : ClsMade h lo C body) : ClsMade h lo' C body := by
  obtain ⟨ns, Da, Wa, ft, cd, sl, nm, tm, tq, tf, fl, l', X, c1, c2, c3, c4, c5, c6, c7, c8, c9, b⟩ := x.made
  exact ⟨ns, Da, Wa, ft, cd, sl, nm, tm, tq, tf, fl, l', X, c1, c2, c3, c4, c5, c6, c7, Nat.le_trans hl c8, Nat.le_trans hl c9, b.lower hl⟩
theorem TopOne.keeps {h h' : Heap} {lo : Nat} {st : Stmt} {v : Value} (k : ∀ b o, lo ≤ b → h.get? b = some o → h'.get? b = some o) (x : TopOne h lo st v) : TopOne h' lo st v := by
  cases x with
  | asg => exact .asg
  | fn x => exact .fn (x.keeps k)
  | cls x => exact .cls (x.keeps k)
theorem TopMade.keeps {h h' : Heap} {lo : Nat} (k : ∀ b o, lo ≤ b → h.get? b = some o → h'.get? b = some o) : ∀ {b : List Stmt} {l l' : Str → Option Value}, TopMade h lo l b l' → TopMade h' lo l b l'
  | [], _, _, x => x
  | _ :: _, _, _, ⟨v, m, r⟩ => ⟨v, m.keeps k, TopMade.keeps k r⟩
theorem TopMade.snoc {h : Heap} {lo : Nat} {st : Stmt} {v : Value} (y : TopOne h lo st v) : ∀ {b : List Stmt} {l l' : Str → Option Value}, TopMade h lo l b l' → TopMade h lo l (b ++ [st]) (upd l' (topName st) v)
  | [], _, _, x => by cases x; exact ⟨v, y, rfl⟩
  | _ :: _, _, _, ⟨u, m, r⟩ => ⟨u, m, TopMade.snoc y r⟩
theorem TopMade.ne {h : Heap} {lo : Nat} {x : Str} : ∀ {b : List Stmt} {l l' : Str → Option Value}, TopMade h lo l b l' → (b.all fun st => topName st != x) = true → l' x = l x
  | [], _, _, e, _ => by cases e; rfl
  | st :: r, l, l', ⟨v, _, e⟩, hx => by
    rw [List.all_cons, Bool.and_eq_true] at hx
    rw [TopMade.ne e hx.2]
    have := hx.1
    simp at this
    exact if_neg fun q => this q.symm
noncomputable def topUp : Nat → List Stmt → Bool
  | _, [] => true
  | L, st :: r => match st with
    | .Assign .. => topUp L r
    | st => decide (L ≤ topLine st) && topUp (topLine st + 1) r
noncomputable def ClassesOk : List Stmt → Prop
  | [] => True
  | .ClassDef _ _ _ body _ _ scope _ _ statics _ :: r => (ClsOk scope body statics 0 ∧ ClsMore body) ∧ ClassesOk r
  | _ :: r => ClassesOk r
inductive TopV : Stmt → Prop
  | asg (p : Pos) (v : Str) (k : Nat) (q z : Pos) : TopV (.Assign [.Name "__name__" p] (.Constant (.str v) k q) z)
  | fn (n : Str) (params : Arguments) (body : List Stmt) (scope : Scope) (pos : Pos) (hok : defOkB params scope = true) (hne : n ≠ "__name__") : TopV (.FunctionDef n params body [] none [] scope none n pos)
  | cls (body : List Stmt) (scope : Scope) (x1 : Option Scope) (statics : List Str) (pos : Pos) : TopV (.ClassDef "MPU" [] [] body [] [] scope x1 "MPU" statics pos)
theorem topStmt_cases {st : Stmt} (h : topStmtB st = true) : TopV st := by
  cases st with
  | Assign ts e p =>
    cases ts with
    | nil => cases h
    | cons t ts =>
      cases t with
      | Name x q =>
        cases ts with
        | cons _ _ => cases h
        | nil =>
          cases e with
          | Constant c k r =>
            cases c with
            | str v =>
              obtain rfl := of_decide_eq_true h
              exact .asg _ _ _ _ _
            | _ => exact absurd h Bool.false_ne_true
          | _ => exact absurd h Bool.false_ne_true
      | _ => exact absurd h Bool.false_ne_true
  | FunctionDef n params b ds r tp scope ts m p =>
    cases ds with
    | cons _ _ => cases h
    | nil =>
      cases r with
      | some _ => cases h
      | none =>
        cases tp with
        | cons _ _ => cases h
        | nil =>
          cases ts with
          | some _ => cases h
          | none =>
            have h : (decide (n = m) && defOkB params scope && decide (n ≠ "__name__")) = true := h
            rw [Bool.and_eq_true, Bool.and_eq_true] at h
            obtain rfl := of_decide_eq_true h.1.1
            exact .fn _ _ _ _ _ h.1.2 (of_decide_eq_true h.2)
  | ClassDef n bs ks b ds tp scope x1 m statics p =>
    cases bs with
    | cons _ _ => cases h
    | nil =>
      cases ks with
      | cons _ _ => cases h
      | nil =>
        cases ds with
        | cons _ _ => cases h
        | nil =>
          cases tp with
          | cons _ _ => cases h
          | nil =>
            have h : (decide (n = "MPU") && decide (m = "MPU")) = true := h
            rw [Bool.and_eq_true] at h
            obtain rfl := of_decide_eq_true h.1
            obtain rfl := of_decide_eq_true h.2
            exact .cls _ _ _ _ _
  | _ => exact absurd h Bool.false_ne_true
theorem empty_append (n : Str) : Str.empty ++ n = n := by
  cases n
  show (⟨#[] ++ _⟩ : Str) = _
  rw [Array.empty_append]
section
variable {prog : Program} {w : World} {A : Around} {E : Value → Shared → Prop} {c Pl F : Addr} {h0 : Heap} {mg0 : Str → Option Value}
theorem execs_top (T : Top0 h0 mg0 c Pl) (hmod : prog.main.scope.kind = .module) (hd : A.depth < recursionLimit) : ∀ (b done : List Stmt) (s : Shared) (mg : Str → Option Value) (L : Nat) (Q : Flow → Shared → Prop), b.all topStmtB = true → (∀ st ∈ b, prog.main.scope.names.lookup (topName st) = some .local ∧ topName st ≠ "__builtins__") →
    topUp L b = true → ClassesOk b → (∃ nm tm, mg "__name__" = some (.str nm tm)) → Mid h0 s.heap mg0 mg c Pl L → TopMade s.heap h0.objs.size mg0 done mg →
    (∀ mg' h' tk L', Mid h0 h' mg0 mg' c Pl L' → TopMade h' h0.objs.size mg0 (done ++ b) mg' → Q .next { s with heap := h', toks := tk }) →
    wpAny (model prog w) A (execs b (mainEnv prog c F)) Q E s
  | [], done, s, mg, L, Q, _, _, _, _, _, m, tm, h => wpAny_execs_nil (h mg s.heap s.toks L m (by rw [List.append_nil]; exact tm))
  | st :: r, done, s, mg, L, Q, ok, loc, up, cls, ⟨nm, tm, hn⟩, m, made, h => by
    rw [List.all_cons, Bool.and_eq_true] at ok
    have loc' := loc st (List.mem_cons_self ..)
    have locr : ∀ st ∈ r, prog.main.scope.names.lookup (topName st) = some .local ∧ topName st ≠ "__builtins__" := fun x hx => loc x (List.mem_cons_of_mem _ hx)
    have happ : done ++ st :: r = (done ++ [st]) ++ r := by simp
    have hlo : ∀ b, h0.objs.size ≤ b → b ≠ mainGlobals ∧ b ≠ Pl := fun b hb => ⟨Nat.ne_of_gt (Nat.lt_of_lt_of_le T.lt hb), Nat.ne_of_gt (Nat.lt_of_lt_of_le T.Plt hb)⟩
    rw [happ] at h
    refine wpAny_execs_cons ?_
    obtain ⟨p, v, k, q, z⟩ | ⟨n, params, body, scope, pos, hok, hne⟩ | ⟨body, scope, x1, statics, pos⟩ := topStmt_cases ok.1
    · refine mid_assign T m loc'.1 hmod loc'.2 fun t h' tk m' k' z' => ?_
      exact execs_top T hmod hd r _ { s with heap := h', toks := tk } _ L Q ok.2 locr up cls ⟨v, t, if_pos rfl⟩ m' ((made.keeps fun b o hb e => k' b o (hlo b hb).1 e).snoc (show TopOne h' h0.objs.size (.Assign [.Name "__name__" p] (.Constant (.str v) k q) z) (.str v t) from .asg)) fun mg' h'' tk' L' m'' made' => h mg' h'' tk' L' m'' made'
    · have up : (decide (L ≤ pos.line) && topUp (pos.line + 1) r) = true := up
      rw [Bool.and_eq_true] at up
      refine mid_def T m loc'.1 hmod loc'.2 hok (of_decide_eq_true up.1) fun v h' tk hf m' k' z' => ?_
      have hq : qualnameIn (mainEnv prog c F) n n = n := by
        show (if (prog.main.scope.names.lookup n == some NameKind.globalExplicit) = true then n else Str.empty ++ n) = n
        have : prog.main.scope.names.lookup n = some .local := loc'.1
        rw [this]
        exact empty_append n
      rw [hq] at hf
      refine execs_top T hmod hd r _ { s with heap := h', toks := tk } _ _ Q ok.2 locr up.2 cls ⟨nm, tm, (if_neg hne.symm).trans hn⟩ m' ((made.keeps fun b o hb e => k' b o (hlo b hb).1 (hlo b hb).2 e).snoc (show TopOne h' h0.objs.size (.FunctionDef n params body [] none [] scope none n pos) v from .fn (hf.lower m.sz))) fun mg' h'' tk' L' m'' made' => h mg' h'' tk' L' m'' made'
    · have up : (decide (L ≤ pos.line) && topUp (pos.line + 1) r) = true := up
      rw [Bool.and_eq_true] at up
      refine mid_class T m loc'.1 hmod cls.1.1 cls.1.2 (of_decide_eq_true up.1) hd hn fun C h' tk hf m' k' z' => ?_
      refine execs_top T hmod hd r _ { s with heap := h', toks := tk } _ _ Q ok.2 locr up.2 cls.2 ⟨nm, tm, (if_neg (by decide +kernel)).trans hn⟩ m' ((made.keeps fun b o hb e => k' b o (hlo b hb).1 (hlo b hb).2 e).snoc (show TopOne h' h0.objs.size (.ClassDef "MPU" [] [] body [] [] scope x1 "MPU" statics pos) (.ref C) from .cls (hf.lower m.sz))) fun mg' h'' tk' L' m'' made' => h mg' h'' tk' L' m'' made'
end
end Mine
end
section
set_option maxRecDepth 100000
open PySem PySem.W PyProof.Rows PySem.Claim2Try PySem.Pin Builtin Builtin.ObjectAttr
namespace Mine
/-- what the top leaves: the boot's objects, and every name of the text bound -/
inductive TopS (p : Program) (h : Heap) : Prop
  | mk (hb : Heap) (mb mg : Str → Option Value) (c Pl : Addr) (mg' : Str → Option Value) (lo : Nat) (b : BootLeft9 (opening p) hb mb mg c Pl) (h1 : hb.objs.size ≤ lo) (h2 : lo ≤ h.objs.size) (h3 : ∀ b o, b ≠ mainGlobals → hb.get? b = some o → h.get? b = some o) (g : h.Ns mainGlobals mg') (m : TopMade h lo mg (behindTheImports p) mg') : TopS p h
structure TopState (p : Program) (h : Heap) : Prop where
  st : TopS p h
structure TopOk (p : Program) : Prop where
  kind : p.main.scope.kind = .module
  stmts : (behindTheImports p).all topStmtB = true
  loc : ∀ st ∈ behindTheImports p, p.main.scope.names.lookup (topName st) = some .local ∧ topName st ≠ "__builtins__"
  up : topUp 0 (behindTheImports p) = true
  cls : ClassesOk (behindTheImports p)
  laid : ∀ x ∈ laidNames, ((behindTheImports p).all fun st => topName st != x) = true
  ann : hasAnns (behindTheImports p) = false
  doc : docOf (behindTheImports p) = none
theorem mem_of_lookup {x : Str} {k : NameKind} : ∀ {l : List (Str × NameKind)}, l.lookup x = some k → (x, k) ∈ l
  | [], h => by cases h
  | (y, z) :: r, h => by
    rw [List.lookup_cons] at h
    split at h
    · rename_i e; cases h; rw [beq_iff_eq.mp e]; exact List.mem_cons_self ..
    · exact List.mem_cons_of_mem _ (mem_of_lookup h)
theorem bound_of {p : Program} {x : Str} (h : p.main.scope.names.lookup x = some .local) : x ∈ p.boundNames := by
  unfold Program.boundNames
  exact List.mem_map.mpr ⟨(x, .local), List.mem_filter.mpr ⟨mem_of_lookup h, rfl⟩, rfl⟩
theorem build_bound : bootBuiltins "__build_class__" = some (.builtin "__build_class__") := by decide +kernel
theorem TopMade.names {h : Heap} {lo : Nat} {x : Str} {v : Value} : ∀ {b : List Stmt} {l l' : Str → Option Value}, TopMade h lo l b l' → l' x = some v → l x = some v ∨ ∃ st ∈ b, topName st = x
  | [], _, _, e, hx => by cases e; exact .inl hx
  | st :: r, l, l', ⟨u, _, e⟩, hx => by
    rcases TopMade.names e hx with q | ⟨y, hy, q⟩
    · by_cases hxx : x = topName st
      · exact .inr ⟨st, List.mem_cons_self .., hxx.symm⟩
      · exact .inl (by rw [← q]; exact (if_neg hxx).symm)
    · exact .inr ⟨y, List.mem_cons_of_mem _ hy, q⟩
theorem top_of {p : Program} (ok : TopOk p) (w : World) (h : Heap) (tk : Nat) (mb mg : Str → Option Value) (c Pl : Addr) (os : OsState) (B : BootLeft9 (opening p) h mb mg c Pl) :
    wpAny (model p w) callerA (topStub p).cur (fun fin s' => ∃ f, fin = .done f ∧ ((∃ mg', AfterTop p h s'.heap mg mg') ∧ TopState p s'.heap ∧ s'.os = os) ∧ s'.gens = #[]) (fun _ _ => False) ⟨h, #[], {}, tk, os⟩ := by
  unfold topStub
  refine wpAny_bind (wpAny_moduleCode fun c' P' h1 tk1 k1 hc hP hcode => ?_)
  dsimp only at k1 hc hP
  unfold newBodyFrame
  have g1 : h1.Ns mainGlobals mg := B.g.keeps k1
  refine wpAny_bind (wpAny_bind (wpAny_nsGet g1 (wpAny_alloc ?_)))
  dsimp only
  generalize hH2 : h1.push _ = h2
  generalize h1.objs.size = F
  have k2 : ∀ b o, h1.get? b = some o → h2.get? b = some o := fun b o e => hH2 ▸ Heap.get?_push_of_some _ e
  have k02 : ∀ b o, h.get? b = some o → h2.get? b = some o := fun b o e => k2 b o (k1 b o e)
  have hcode2 : h2.IsCode c' P' #[] := hcode.keeps k2
  have ltb : ∀ {b o}, h.get? b = some o → b ≠ P' := fun e => Nat.ne_of_lt (Nat.lt_of_lt_of_le (Heap.lt_size e) hP)
  have T : Top0 h2 mg c' P' := by
    refine ⟨Nat.ne_of_lt (Nat.lt_of_lt_of_le B.g.lt hP), Nat.ne_of_lt (Nat.lt_of_lt_of_le B.g.lt hc), Nat.ne_of_lt (Nat.lt_of_lt_of_le B.statics.lt hP), ?_, B.statics.keeps k02, ⟨mb, B.b.keeps k02, ?_⟩, Nat.ne_of_lt (Nat.lt_of_lt_of_le B.b.lt hP), ?_, (B.g.keeps k02).lt, hcode2.lt.2⟩
    · obtain ⟨bm, o, q1, q2, q3, q4, q5, q6⟩ := B.bmod
      exact ⟨bm, o, q1, q2, q3, ltb q5, k02 _ _ q5, q6⟩
    · rw [B.builtins _ (by decide +kernel)]; exact build_bound
    · obtain ⟨mm, hm, _⟩ := B.noPylong
      exact (hm.keeps k02).lt
  have m0 : Mid h2 h2 mg mg c' P' 0 := ⟨fun _ _ _ _ e => e, B.g.keeps k02, ⟨#[], hcode2, .nil⟩, Nat.le_refl _, rfl⟩
  refine wpAny_bind (wpAny_run (codeAny_body (env := mainEnv p c' F) ok.ann ok.doc ?_))
  refine execs_top T ok.kind (by show 1 + claimMargin + 1 < recursionLimit; decide +kernel) (behindTheImports p) [] _ mg 0 _ ok.stmts ok.loc ok.up ok.cls (by obtain ⟨t, e⟩ := B.name; exact ⟨_, t, e⟩) m0 rfl fun mg' h' tk' L' m' made => ?_
  refine wpAny_pure ⟨_, rfl, ⟨⟨mg', ?_⟩, ⟨h, mb, mg, c, Pl, mg', h2.objs.size, B, ?_, m'.sz, ?_, m'.g, made⟩, rfl⟩, rfl⟩
  · refine ⟨fun b o e h1 h2 => m'.old b o h1 (ltb e) (k02 b o e), m'.g, ⟨fun _ => none, T.st.at fun o => m'.old _ o (by decide) T.sP, fun _ _ q => nomatch q⟩, fun x v hx => ?_, fun x hx => made.ne (ok.laid x hx), m'.bl⟩
    rcases made.names hx with q | ⟨st, hst, rfl⟩
    · refine .inl (Classical.byContradiction fun hn => ?_)
      rw [B.others x hn] at q; cases q
    · exact .inr (bound_of (ok.loc st hst).1)
  · exact Nat.le_trans hc (Nat.le_of_lt hcode2.lt.1)
  · exact fun b o hb e => m'.old b o hb (ltb e) (k02 b o e)
end Mine
end
section
set_option maxRecDepth 100000
open PySem PySem.W PyProof.Rows PySem.Claim2Try PySem.Pin Builtin Builtin.ObjectAttr
namespace Mine
/-- a number for a name: equal names have equal numbers -/
noncomputable def codeS (s : Str) : Nat := s.cps.toList.foldl (fun a c => a * 2097152 + c + 1) 0
noncomputable def isClass : ScopeKind → Bool
  | .class => true
  | _ => false
noncomputable def isModule : ScopeKind → Bool
  | .module => true
  | _ => false
noncomputable def isLocal : NameKind → Bool
  | .local => true
  | _ => false
noncomputable def memB (x : Str) : List Str → Bool
  | [] => false
  | y :: r => match Nat.beq (codeS x) (codeS y) with
    | true => decide (x = y) || memB x r
    | false => memB x r
theorem memB_mem {x : Str} : ∀ {l : List Str}, memB x l = true → x ∈ l
  | [], h => by cases h
  | y :: r, h => by
    unfold memB at h
    split at h
    · rw [Bool.or_eq_true, decide_eq_true_eq] at h
      rcases h with rfl | h
      · exact List.mem_cons_self ..
      · exact List.mem_cons_of_mem _ (memB_mem h)
    · exact List.mem_cons_of_mem _ (memB_mem h)
noncomputable def readsB (known : List Str) : List Stmt → Bool
  | [] => true
  | st :: r => (namesRead st).all (fun x => memB x known) && readsB (nameOf st :: known) r
theorem reads_of : ∀ {b : List Stmt} {known : List Str}, readsB known b = true → readsOk known b
  | [], _, _ => trivial
  | st :: r, known, h => by
    have h : ((namesRead st).all (fun x => memB x known) && readsB (nameOf st :: known) r) = true := h
    rw [Bool.and_eq_true, List.all_eq_true] at h
    exact ⟨fun x hx => memB_mem (h.1 x hx), reads_of h.2⟩
noncomputable def namesB : List (Str × NameKind) → List Stmt → Bool
  | [], [] => true
  | (x, k) :: l, st :: r => isLocal k && decide (x = nameOf st) && namesB l r
  | _, _ => false
theorem names_of : ∀ {l : List (Str × NameKind)} {b : List Stmt}, namesB l b = true → (∀ st ∈ b, l.lookup (nameOf st) = some .local) ∧ (∀ x ∈ l, x.2 = .local) ∧ ∀ y, (b.all fun st => nameOf st != y) = true → l.lookup y = none
  | [], [], _ => by refine ⟨?_, ?_, ?_⟩ <;> first | (intro _ h; cases h; done) | (intro _ _; rfl)
  | [], _ :: _, h => by cases h
  | _ :: _, [], h => by cases h
  | (x, k) :: l, st :: r, h => by
    have h : (isLocal k && decide (x = nameOf st) && namesB l r) = true := h
    rw [Bool.and_eq_true, Bool.and_eq_true, decide_eq_true_eq] at h
    obtain ⟨⟨hk, rfl⟩, hr⟩ := h
    have hk' : k = .local := by cases k <;> first | rfl | cases hk
    subst hk'
    obtain ⟨i1, i2, i3⟩ := names_of hr
    refine ⟨fun s hs => ?_, fun y hy => ?_, fun y hy => ?_⟩
    · rw [List.lookup_cons]
      split
      · rfl
      · rename_i e
        rcases List.mem_cons.mp hs with rfl | hs
        · simp at e
        · exact i1 s hs
    · rcases List.mem_cons.mp hy with rfl | hy
      · rfl
      · exact i2 y hy
    · rw [List.all_cons, Bool.and_eq_true] at hy
      rw [List.lookup_cons]
      have : (y == nameOf st) = false := by
        rw [beq_eq_false_iff_ne]; intro e; have := hy.1; simp at this; exact this e.symm
      rw [this]
      exact i3 y hy.2
noncomputable def notIn (b : List Stmt) (xs : List Str) : Bool := xs.all fun x => b.all fun st => nameOf st != x
noncomputable def clsOkB (scope : Scope) (body : List Stmt) : Bool :=
  isClass scope.kind && namesB scope.names body && body.all clsStmtB && readsB [] body && linesUp 0 body && notIn body compilersOwnNames && notIn body ["__class__", "__classdict__"] && !hasAnns body && (docOf body).isNone && notIn body clsAbsent && Nat.ble body.length 900
theorem notIn_of {b : List Stmt} {xs : List Str} (h : notIn b xs = true) : ∀ x ∈ xs, (b.all fun st => nameOf st != x) = true := List.all_eq_true.mp h
theorem clsOk_of {scope : Scope} {body : List Stmt} {statics : List Str} (h : clsOkB scope body = true) : ClsOk scope body statics 0 ∧ ClsMore body := by
  simp only [clsOkB, Bool.and_eq_true] at h
  obtain ⟨⟨⟨⟨⟨⟨⟨⟨⟨⟨h1, h2⟩, h3⟩, h4⟩, h5⟩, h6⟩, h7⟩, h8⟩, h9⟩, h10⟩, h11⟩ := h
  obtain ⟨n1, n2, n3⟩ := names_of h2
  refine ⟨⟨?_, n1, h3, reads_of h4, h5, fun x hx => by rw [n2 x hx]; decide, fun x hx => n3 x (notIn_of h6 x (by simpa using hx)), ⟨n3 _ (notIn_of h7 _ (by simp)), n3 _ (notIn_of h7 _ (by simp))⟩, by simpa using h8, by simpa using h9⟩, notIn_of h10, Nat.le_of_ble_eq_true h11⟩
  cases e : scope.kind <;> rw [e] at h1 <;> first | rfl | cases h1
noncomputable def classesB : List Stmt → Bool
  | [] => true
  | .ClassDef _ _ _ body _ _ scope _ _ _ _ :: r => clsOkB scope body && classesB r
  | _ :: r => classesB r
theorem classes_of : ∀ {l : List Stmt}, classesB l = true → ClassesOk l
  | [], _ => trivial
  | st :: r, h => by
    cases st <;> first | exact classes_of (l := r) h | skip
    rename_i body _ _ scope _ _ _ _
    have h : (clsOkB scope body && classesB r) = true := h
    rw [Bool.and_eq_true] at h
    exact ⟨clsOk_of h.1, classes_of h.2⟩
noncomputable def topOkB (p : Program) : Bool :=
  let b := behindTheImports p
  isModule p.main.scope.kind && b.all topStmtB && b.all (fun st => (p.main.scope.names.lookup (topName st)).elim false isLocal && decide (topName st ≠ "__builtins__")) && topUp 0 b && classesB b && (laidNames.all fun x => b.all fun st => topName st != x) && !hasAnns b && (docOf b).isNone
theorem topOk_of {p : Program} (h : topOkB p = true) : TopOk p := by
  simp only [topOkB, Bool.and_eq_true] at h
  obtain ⟨⟨⟨⟨⟨⟨⟨h1, h2⟩, h3⟩, h4⟩, h5⟩, h6⟩, h7⟩, h8⟩ := h
  refine ⟨?_, h2, fun st hst => ?_, h4, classes_of h5, List.all_eq_true.mp h6, by simpa using h7, by simpa using h8⟩
  · cases e : p.main.scope.kind <;> rw [e] at h1 <;> first | rfl | cases h1
  · have := List.all_eq_true.mp h3 st hst
    rw [Bool.and_eq_true, decide_eq_true_eq] at this
    refine ⟨?_, this.2⟩
    cases e : p.main.scope.names.lookup (topName st) with
    | none => rw [e] at this; cases this.1
    | some k => rw [e] at this; cases k <;> first | rfl | cases this.1
end Mine
end
section
set_option maxRecDepth 100000
open PySem PySem.W PyProof.Rows PySem.Claim2Try PySem.Pin Builtin Builtin.ObjectAttr
namespace Mine
/-- the last def of a name in a list of statements -/
noncomputable def lastOne (n : Str) (r : List Stmt) : Stmt → Option (Arguments × List Stmt × Scope)
  | .FunctionDef m pa bo _ _ _ sc _ _ _ => if m = n ∧ (r.all fun st => topName st != n) = true then some (pa, bo, sc) else none
  | _ => none
noncomputable def lastDef (n : Str) : List Stmt → Option (Arguments × List Stmt × Scope)
  | [] => none
  | st :: r => match lastDef n r with
    | some x => some x
    | none => lastOne n r st
theorem TopMade.fn {h : Heap} {lo : Nat} {n : Str} {pa : Arguments} {bo : List Stmt} {sc : Scope} : ∀ {b : List Stmt} {l l' : Str → Option Value}, TopMade h lo l b l' → lastDef n b = some (pa, bo, sc) → ∃ v, l' n = some v ∧ FnAt h lo v n n pa bo sc
  | [], _, _, _, e => by cases e
  | st :: r, l, l', ⟨u, o, x⟩, e => by
    have ih := fun y => TopMade.fn (n := n) (pa := pa) (bo := bo) (sc := sc) x y
    cases hl : lastDef n r with
    | some y =>
      have e2 : (match lastDef n r with | some x => some x | none => lastOne n r st) = some (pa, bo, sc) := e
      rw [hl] at e2; exact ih (hl.trans e2)
    | none =>
      have e2 : (match lastDef n r with | some x => some x | none => lastOne n r st) = some (pa, bo, sc) := e
      rw [hl] at e2
      clear e
      have e : lastOne n r st = some (pa, bo, sc) := e2
      cases o with
      | @fn m pa' bo' d1 d2 d3 sc' d4 d5 d6 _ o =>
        have e : (if m = n ∧ (r.all fun st => topName st != n) = true then some (pa', bo', sc') else none) = some (pa, bo, sc) := e
        by_cases hc : m = n ∧ (r.all fun st => topName st != n) = true
        · rw [if_pos hc] at e
          cases e
          obtain ⟨rfl, hne⟩ := hc
          exact ⟨u, by rw [x.ne hne]; exact if_pos rfl, o⟩
        · rw [if_neg hc] at e; cases e
      | asg => cases e
      | cls _ => cases e
theorem pin_of {p : Program} {h : Heap} {n : Str} {pa : Arguments} {bo : List Stmt} {sc : Scope} (T : TopState p h) (e : lastDef n (behindTheImports p) = some (pa, bo, sc)) (e2 : p.theDef n = some (pa, bo, sc)) (hd : pa.defaults = []) (hk : pa.kwonlyargs = []) (hk2 : pa.kw_defaults = []) : isTheDefsW p h n := by
  obtain ⟨hb, mb, mg, c, Pl, mg', lo, B, h1, h2, h3, g, made⟩ := T.st
  obtain ⟨v, hv, a, dV, pm, c', doc, P, dv, rfl, q1, q2, q3, q4, q5, q6, q7, q8, q9⟩ := made.fn e
  refine ⟨a, _, _, pa, bo, sc, (globalOf_of_ns g n).trans hv, q4, rfl, e2, rfl, rfl, rfl, rfl, rfl, rfl, rfl, rfl, .inl ⟨hd, ?_⟩, [], ?_, .inl ⟨rfl, rfl⟩⟩
  · rw [hd] at q9
    have : dv = [] := by cases dv with
      | nil => rfl
      | cons _ _ => cases q9
    rcases q8 with ⟨_, r⟩ | ⟨r, _⟩
    · exact r
    · exact (r this).elim
  · rw [hk, hk2]; rfl
theorem bare_of {p : Program} (h : TablesWhole.wModule TablesWhole.holds p.main = true) (h1 : p.modules = []) (h2 : p.parses = []) (h3 : p.absent = []) (h4 : p.harvested = [])
    (h5 : p.given = { argv := [], stdin := [], environ := some Program.claimEnviron, cwd := none, tree := none, leftOut := [], nothingAt := [] }) : p.bare := by
  refine ⟨h1, h2, h3, h4, h5, ?_⟩
  show TablesWhole.wProgram TablesWhole.holds p = true
  unfold TablesWhole.wProgram
  rw [h, h1, h2, h4]
  rfl
theorem fence_of {p : Program} (h1 : importedModules p.main.body = []) (h2 : p.main.body.any namesNumpy = false) (s : Shared) : fenceModules? p s = some s := by
  unfold fenceModules?
  rw [h1, h2]
  rfl
theorem row_of {l : OpenLaw} (said : l.row.wellSaid = true) (hbare : l.prog.bare) (ho : opensWell l.prog = true) (hpr : l.row.toRowW.promised) (hw : l.writes = false)
    (fence : ∀ s, fenceModules? l.prog s = some s) (hbody : (opening l.prog).main.body = []) (hmore : (opening l.prog).main.more = [])
    (tok : TopOk l.prog) (pin : ∀ h, TopState l.prog h → isTheDefsW l.prog h l.name)
    (call : ∀ w s s₁ args vs as, TopState l.prog s.heap → l.row.toRowW.claim.pre args = true → WData.layableAll args = true → Laid [] w s s₁ args vs as →
      ∃ f mg, s₁.heap.Ns mainGlobals mg ∧ mg l.name = some f ∧ wpAny (model l.prog w) callerA (PySem.call f vs) (fun v s' => GoodWG l.row.toRowW.claim (classAt s.heap) (ExcName.means s.heap) args s₁ (.ok (.ret v)) s') (fun _ _ => False) s₁) : l.row.Holds :=
  holds_of said hbare ho hpr hw fence hbody hmore (fun _ s => TopState l.prog s.heap) (fun w h tk mb mg c Pl os B => top_of tok w h tk mb mg c Pl os B) (fun _ s => pin s.heap) call
end Mine
end
section
set_option Elab.async false
set_option maxRecDepth 100000
open PySem PySem.W PyProof.Rows PySem.Claim2Try PySem.Pin Builtin Builtin.ObjectAttr
namespace Mine
open PySem.Challenge
theorem whole09 : TablesWhole.wModule TablesWhole.holds pw_lq0009_09.main = true :=
  (congrFun (congrFun (congrFun Fast.te6116379765354995101 Bool) TablesWhole.holds) pw_lq0009_09.main).trans (by kernel_rfl)
theorem said09 : OpenLaw.wellSaid rw_lq0009_09 = true :=
  (congrFun Fast.te9446332074065402090 rw_lq0009_09).trans (by kernel_rfl)
theorem bare09 : pw_lq0009_09.bare := bare_of whole09 rfl rfl rfl rfl rfl
theorem ok09 : topOkB pw_lq0009_09 = true := by decide +kernel
theorem opens09 : opensWell pw_lq0009_09 = true := by decide +kernel
theorem imps09 : importedModules pw_lq0009_09.main.body = [] := by decide +kernel
theorem nump09 : pw_lq0009_09.main.body.any namesNumpy = false := by decide +kernel
end Mine
end
section
set_option Elab.async false
set_option maxRecDepth 100000
open PySem PySem.W PyProof.Rows PySem.Claim2Try PySem.Pin Builtin Builtin.ObjectAttr
namespace Mine
open PySem.Challenge
theorem def09 : lastDef ("law" : Str) (behindTheImports pw_lq0009_09) = pw_lq0009_09.theDef ("law" : Str) := by kernel_rfl
theorem body09 : (opening pw_lq0009_09).main.body = [] := by kernel_rfl
theorem more09 : (opening pw_lq0009_09).main.more = [] := by kernel_rfl
theorem pin09 (h : Heap) (T : TopState pw_lq0009_09 h) : isTheDefsW pw_lq0009_09 h ("law" : Str) := by
  have e : ((pw_lq0009_09.theDef ("law" : Str)).elim false fun x => x.1.defaults.isEmpty && x.1.kwonlyargs.isEmpty && x.1.kw_defaults.isEmpty) = true := by decide +kernel
  have e0 := def09
  generalize hx : pw_lq0009_09.theDef ("law" : Str) = x at e e0
  cases x with
  | none => cases e
  | some y =>
    obtain ⟨pa, bo, sc⟩ := y
    simp only [Option.elim, Bool.and_eq_true, List.isEmpty_iff] at e
    exact pin_of T e0 hx e.1.1 e.1.2 e.2
end Mine
end
section
set_option Elab.async false
set_option maxRecDepth 100000
open PySem PySem.W PyProof.Rows PySem.Claim2Try PySem.Pin Builtin Builtin.ObjectAttr
namespace Mine
open PySem.Challenge
theorem prom09 : rw_lq0009_09.row.toRowW.promised := ⟨[.list []], by decide +kernel, by decide +kernel⟩
theorem head09 (said : rw_lq0009_09.row.wellSaid = true)
    (call : ∀ w s s₁ args vs as, TopState rw_lq0009_09.prog s.heap → rw_lq0009_09.row.toRowW.claim.pre args = true → WData.layableAll args = true → Laid [] w s s₁ args vs as →
      ∃ f mg, s₁.heap.Ns mainGlobals mg ∧ mg rw_lq0009_09.name = some f ∧ wpAny (model rw_lq0009_09.prog w) callerA (PySem.call f vs) (fun v s' => GoodWG rw_lq0009_09.row.toRowW.claim (classAt s.heap) (ExcName.means s.heap) args s₁ (.ok (.ret v)) s') (fun _ _ => False) s₁) : rw_lq0009_09.row.Holds :=
  row_of said bare09 opens09 prom09 rfl (fence_of imps09 nump09) body09 more09 (topOk_of ok09) pin09 call
end Mine
end
section
set_option maxRecDepth 100000
open PySem PySem.W PyProof.Rows PySem.Claim2Try PySem.Pin
namespace Mine

/-- names are compared by their signs -/
noncomputable def eqS (x y : Str) : Bool := x.cps.toList == y.cps.toList
theorem eqS_iff {x y : Str} : eqS x y = true ↔ x = y := by
  unfold eqS
  constructor
  · intro h
    have h := eq_of_beq h
    obtain ⟨⟨a⟩⟩ := x
    obtain ⟨⟨b⟩⟩ := y
    simp at h
    rw [h]
  · rintro rfl; exact beq_self_eq_true _
theorem eqS_ne {x y : Str} (h : eqS x y = false) : x ≠ y := fun e => by
  rw [eqS_iff.mpr e] at h; cases h
theorem eqS_self (x : Str) : eqS x x = true := eqS_iff.mpr rfl
noncomputable def lookS {α : Type} (x : Str) : List (Str × α) → Option α
  | [] => none
  | (y, v) :: r => cond (eqS x y) (some v) (lookS x r)
noncomputable def putS {α : Type} (x : Str) (v : α) : List (Str × α) → List (Str × α)
  | [] => [(x, v)]
  | (y, u) :: r => cond (eqS x y) ((y, v) :: r) ((y, u) :: putS x v r)
theorem lookS_putS {α : Type} (x y : Str) (v : α) : ∀ l : List (Str × α), lookS y (putS x v l) = if y = x then some v else lookS y l
  | [] => by
    show cond (eqS y x) (some v) none = _
    cases h : eqS y x with
    | true => rw [if_pos (eqS_iff.mp h)]; rfl
    | false => rw [if_neg (eqS_ne h)]; rfl
  | (z, u) :: r => by
    show lookS y (cond (eqS x z) ((z, v) :: r) ((z, u) :: putS x v r)) = _
    cases h : eqS x z with
    | true =>
      have e := eqS_iff.mp h
      subst e
      show cond (eqS y x) (some v) (lookS y r) = _
      cases h2 : eqS y x with
      | true => rw [if_pos (eqS_iff.mp h2)]; rfl
      | false => rw [if_neg (eqS_ne h2)]; show lookS y r = cond (eqS y x) (some u) (lookS y r); rw [h2]; rfl
    | false =>
      show cond (eqS y z) (some u) (lookS y (putS x v r)) = _
      rw [lookS_putS x y v r]
      cases h2 : eqS y z with
      | true =>
        have e := eqS_iff.mp h2
        subst e
        have hne : y ≠ x := fun q => eqS_ne h q.symm
        rw [if_neg hne, if_neg hne]
        show some u = cond (eqS y y) (some u) (lookS y r)
        rw [eqS_self]; rfl
      | false =>
        show (if y = x then some v else lookS y r) = if y = x then some v else cond (eqS y z) (some u) (lookS y r)
        rw [h2]; rfl

/-- values, told without tokens and addresses -/
inductive AV where
  | none
  | bool (b : Bool)
  | int (i : Int)
  | str (s : Str)
  | loc (n : Nat)
  | tup (vs : List AV)
  | bm (x : Str) (self : Nat)
  | fn (x : Str)
  | mth (x : Str)
  | cls
  | clst (x : Str)
  | bi (id : String)
  | ty (id : String)
  | given
  | rng (a b : Int)
  | lam (a : Addr) (cl : List (Str × Addr)) (pa : Arguments) (lb : Expr) (lsc : Scope)
  | fnum (n : Nat) (f : Nat → Int)
/-- objects that the call has made -/
inductive AObj where
  | nums (n : Nat) (f : Nat → Int)
  | list (vs : List AV)
  | inst (at_ : List (Str × AV))
  | idict (ep : Option Nat) (es : List (Int × AV))
  | tab (pos : Pos)
noncomputable abbrev Hp := List AObj
noncomputable abbrev Loc := List (Str × AV)
inductive AF where
  | next | brk | cont
  | ret (v : AV)
noncomputable abbrev Rho := List (Addr × Addr)

/-- what stands when the call starts -/
structure Bs where
  hb : Heap
  h0 : Heap
  os : OsState
  mg : Str → Option Value
  mb : Str → Option Value
  C : Addr
  N : Addr
  l : List (Str × Value)
  scr : Addr
  cw : Addr
  tb : Addr
  wq : Str

noncomputable def NotOwn (ρ : Rho) (a : Addr) : Prop := ∀ p ∈ ρ, a ≠ p.1 ∧ a ≠ p.2
noncomputable abbrev tupObj (its : Array Value) (e : Nat) : Obj := { cls := .type "tuple", data := .seq its e }
noncomputable abbrev rngObj (a b : Int) (t u v : Tok) : Obj := { cls := .type "range", dict := none, data := .fields #[.int a t, .int b u, .int 1 v], slots := #[] }
noncomputable abbrev lamObj (name qual : Str) (pa : Arguments) (lb : Expr) (lsc : Scope) (cl : List (Str × Addr)) (pm : Value) (c : Addr) (ct : Value) : Obj := kla_obj name qual pa lb lsc cl pm c ct
mutual
inductive RepV (B : Bs) (h : Heap) (ρ : Rho) : AV → Value → Prop
  | none : RepV B h ρ .none .none
  | bool (b : Bool) : RepV B h ρ (.bool b) (.bool b)
  | int (i : Int) (t : Tok) : RepV B h ρ (.int i) (.int i t)
  | str (s : Str) (t : Tok) : RepV B h ρ (.str s) (.str s t)
  | loc (n : Nat) (p : Addr × Addr) : ρ[n]? = some p → RepV B h ρ (.loc n) (.ref p.1)
  | tup (vs : List AV) (a : Addr) (its : Array Value) (e : Nat) : NotOwn ρ a → h.get? a = some (tupObj its e) → RepVs B h ρ vs its.toList → RepV B h ρ (.tup vs) (.ref a)
  | bm (x : Str) (n : Nat) (a f : Addr) (p : Addr × Addr) : NotOwn ρ a → h.get? a = some (methodObj (.ref f) (.ref p.1)) → B.l.lookup x = some (.ref f) → ρ[n]? = some p → RepV B h ρ (.bm x n) (.ref a)
  | fn (x : Str) (v : Value) : B.mg x = some v → RepV B h ρ (.fn x) v
  | mth (x : Str) (v : Value) : B.l.lookup x = some v → RepV B h ρ (.mth x) v
  | cls : RepV B h ρ .cls (.ref B.C)
  | clst (x : Str) (v : Value) : B.l.lookup x = some v → RepV B h ρ (.clst x) v
  | bi (id : String) : RepV B h ρ (.bi id) (.builtin id)
  | ty (id : String) : RepV B h ρ (.ty id) (.type id)
  | given : RepV B h ρ .given (.ref B.scr)
  | rng (a b : Int) (r : Addr) (t u v : Tok) : NotOwn ρ r → h.get? r = some (rngObj a b t u v) → RepV B h ρ (.rng a b) (.ref r)
  | lam (a : Addr) (cl : List (Str × Addr)) (pa : Arguments) (lb : Expr) (lsc : Scope) (name qual : Str) (pm ct : Value) (c : Addr) : NotOwn ρ a → h.get? a = some (lamObj name qual pa lb lsc cl pm c ct) → NotOwn ρ c → h.CodeRec (.ref c) qual → RepV B h ρ (.lam a cl pa lb lsc) (.ref a)
  | fnum (n : Nat) (f : Nat → Int) (a : Addr) (its : Array Value) (e : Nat) : NotOwn ρ a → h.get? a = some (listOf its e) → its.size = n → n ≤ 1000000 → (∀ i, i < n → ∃ t, its[i]? = some (.int (f i) t)) → RepV B h ρ (.fnum n f) (.ref a)
inductive RepVs (B : Bs) (h : Heap) (ρ : Rho) : List AV → List Value → Prop
  | nil : RepVs B h ρ [] []
  | cons {v : AV} {w : Value} {vs : List AV} {ws : List Value} : RepV B h ρ v w → RepVs B h ρ vs ws → RepVs B h ρ (v :: vs) (w :: ws)
end

/-- what a run may change: the objects of ρ, and X -/
structure Ex (X : List Addr) (h : Heap) (ρ : Rho) (h' : Heap) (ρ' : Rho) : Prop where
  pre : ∃ r, ρ' = ρ ++ r ∧ ∀ p ∈ r, h.get? p.1 = none ∧ h.get? p.2 = none
  keep : ∀ b o, NotOwn ρ b → b ∉ X → h.get? b = some o → h'.get? b = some o
/-- and nothing is gone -/
structure Ext (X : List Addr) (h : Heap) (ρ : Rho) (h' : Heap) (ρ' : Rho) : Prop extends Ex X h ρ h' ρ' where
  there : ∀ b o, h.get? b = some o → ∃ o', h'.get? b = some o'
/-- an object that no value tells of -/
noncomputable def Hid (h : Heap) (q : Addr) : Prop := ∀ o, h.get? q = some o → (∀ its e, o ≠ tupObj its e) ∧ (∀ f x, o ≠ methodObj f x) ∧ (∀ a b t u v, o ≠ rngObj a b t u v) ∧ (∀ f, o.data ≠ .func f) ∧ (∀ vs q t, o.data = .fields vs → vs[1]? ≠ some (.str q t)) ∧ ∀ its e, o ≠ listOf its e
theorem Ex.at {X : List Addr} {h h' : Heap} {ρ ρ' : Rho} (e : Ex X h ρ h' ρ') {n : Nat} {p : Addr × Addr} (hp : ρ[n]? = some p) : ρ'[n]? = some p := by
  obtain ⟨r, rfl, _⟩ := e.pre
  rw [List.getElem?_append_left]
  · exact hp
  · exact (List.getElem?_eq_some_iff.mp hp).1
theorem Ex.notOwn {X : List Addr} {h h' : Heap} {ρ ρ' : Rho} (e : Ex X h ρ h' ρ') {a : Addr} {o : Obj} (hn : NotOwn ρ a) (ha : h.get? a = some o) : NotOwn ρ' a := by
  obtain ⟨r, rfl, hr⟩ := e.pre
  intro p hp
  rcases List.mem_append.mp hp with hp | hp
  · exact hn p hp
  · obtain ⟨h1, h2⟩ := hr p hp
    exact ⟨fun q => (by rw [q, h1] at ha; cases ha), fun q => (by rw [q, h2] at ha; cases ha)⟩
theorem Ext.refl (X : List Addr) (h : Heap) (ρ : Rho) : Ext X h ρ h ρ := ⟨⟨⟨[], by simp, fun _ hp => nomatch hp⟩, fun _ _ _ _ e => e⟩, fun _ o e => ⟨o, e⟩⟩
theorem Ext.fresh {X : List Addr} {h h' : Heap} {ρ ρ' : Rho} (a : Ext X h ρ h' ρ') {b : Addr} (e : h'.get? b = none) : h.get? b = none := by
  cases hb : h.get? b with
  | none => rfl
  | some o => obtain ⟨o', h'⟩ := a.there b o hb; rw [e] at h'; cases h'
theorem Ext.trans {X : List Addr} {h h' h'' : Heap} {ρ ρ' ρ'' : Rho} (a : Ext X h ρ h' ρ') (b : Ext X h' ρ' h'' ρ'') : Ext X h ρ h'' ρ'' := by
  obtain ⟨r, e1, h1⟩ := a.pre
  obtain ⟨r2, e2, h2⟩ := b.pre
  refine ⟨⟨⟨r ++ r2, by rw [e2, e1, List.append_assoc], fun p hp => ?_⟩, fun c o hn hx e => ?_⟩, fun c o e => let ⟨o1, e1⟩ := a.there c o e; b.there c o1 e1⟩
  · rcases List.mem_append.mp hp with hp | hp
    · exact h1 p hp
    · exact ⟨a.fresh (h2 p hp).1, a.fresh (h2 p hp).2⟩
  · exact b.keep c o (a.notOwn hn e) hx (a.keep c o hn hx e)
theorem Ext.mono {X Y : List Addr} {h h' : Heap} {ρ ρ' : Rho} (a : Ext X h ρ h' ρ') (s : ∀ x ∈ X, x ∈ Y) : Ext Y h ρ h' ρ' :=
  ⟨⟨a.pre, fun b o hn hx e => a.keep b o hn (fun q => hx (s b q)) e⟩, a.there⟩
/-- what was fresh at the start is no loss -/
theorem Ext.drop {X Y : List Addr} {h h' : Heap} {ρ ρ' : Rho} (a : Ext X h ρ h' ρ') (s : ∀ x ∈ X, x ∈ Y ∨ h.get? x = none) : Ext Y h ρ h' ρ' :=
  ⟨⟨a.pre, fun b o hn hx e => a.keep b o hn (fun q => (s b q).elim hx fun q2 => by rw [q2] at e; cases e) e⟩, a.there⟩
theorem Ext.of_keep {X : List Addr} {h h' : Heap} {ρ : Rho} (k : ∀ b o, b ∉ X → h.get? b = some o → h'.get? b = some o) (t : ∀ x ∈ X, ∃ o, h'.get? x = some o) : Ext X h ρ h' ρ :=
  ⟨⟨⟨[], by simp, fun _ hp => nomatch hp⟩, fun b o _ hx e => k b o hx e⟩, fun b o e => by
    by_cases hb : b ∈ X
    · exact t b hb
    · exact ⟨o, k b o hb e⟩⟩
theorem Ex.of_keep {X : List Addr} {h h' : Heap} {ρ : Rho} (k : ∀ b o, b ∉ X → h.get? b = some o → h'.get? b = some o) : Ex X h ρ h' ρ := ⟨⟨[], by simp, fun _ hp => nomatch hp⟩, fun b o _ hx e => k b o hx e⟩
theorem Ext.grow {X : List Addr} {h h' : Heap} {ρ : Rho} (k : ∀ b o, h.get? b = some o → h'.get? b = some o) : Ext X h ρ h' ρ :=
  ⟨⟨⟨[], by simp, fun _ hp => nomatch hp⟩, fun b o _ hx e => k b o e⟩, fun b o e => ⟨o, k b o e⟩⟩
theorem Ext.push {X : List Addr} {h : Heap} {ρ : Rho} (o : Obj) : Ext X h ρ (h.push o) ρ := .grow fun _ _ e => Heap.get?_push_of_some _ e
theorem get?_size (h : Heap) : h.get? h.objs.size = none := by
  cases hb : h.get? h.objs.size with
  | none => rfl
  | some o => exact absurd (Heap.lt_size hb) (Nat.lt_irrefl _)

theorem _root_.PySem.Heap.CodeRec.ex {X : List Addr} {h h' : Heap} {ρ ρ' : Rho} {c : Addr} {q : Str} (r : h.CodeRec (.ref c) q) (e : Ex X h ρ h' ρ') (hx : ∀ x ∈ X, Hid h x) (hc : NotOwn ρ c) : h'.CodeRec (.ref c) q := by
  obtain ⟨c', o, vs, t, e1, e2, e3, e4⟩ := r
  cases e1
  exact ⟨_, o, vs, t, rfl, e.keep _ _ hc (fun z => (hx _ z _ e2).2.2.2.2.1 vs q t e3 e4) e2, e3, e4⟩
theorem _root_.PySem.Heap.CodeRec.notOwn {X : List Addr} {h h' : Heap} {ρ ρ' : Rho} {c : Addr} {q : Str} (r : h.CodeRec (.ref c) q) (e : Ex X h ρ h' ρ') (hc : NotOwn ρ c) : NotOwn ρ' c := by
  obtain ⟨c', o, vs, t, e1, e2, e3, e4⟩ := r
  cases e1
  exact e.notOwn hc e2
section
variable {B : Bs} {X : List Addr} {h h' : Heap} {ρ ρ' : Rho}
theorem RepV.ex (e : Ex X h ρ h' ρ') (hx : ∀ x ∈ X, Hid h x) {v : AV} {w : Value} (r : RepV B h ρ v w) : RepV B h' ρ' v w := by
  induction r using RepV.rec (motive_2 := fun vs ws _ => RepVs B h' ρ' vs ws) with
  | none => exact .none
  | bool b => exact .bool b
  | int i t => exact .int i t
  | str s t => exact .str s t
  | loc n p hp => exact .loc n p (e.at hp)
  | tup vs a its ep hn ho hr ih => exact .tup vs a its ep (e.notOwn hn ho) (e.keep _ _ hn (fun q => (hx _ q _ ho).1 _ _ rfl) ho) ih
  | bm x n a f p hn ho hl hp => exact .bm x n a f p (e.notOwn hn ho) (e.keep _ _ hn (fun q => (hx _ q _ ho).2.1 _ _ rfl) ho) hl (e.at hp)
  | fn x v q => exact .fn x v q
  | mth x v q => exact .mth x v q
  | cls => exact .cls
  | clst x v q => exact .clst x v q
  | bi id => exact .bi id
  | ty id => exact .ty id
  | given => exact .given
  | rng a b r t u v hn ho => exact .rng a b r t u v (e.notOwn hn ho) (e.keep _ _ hn (fun q => (hx _ q _ ho).2.2.1 _ _ _ _ _ rfl) ho)
  | lam a cl pa lb lsc name qual pm ct c hn ho hc hr => exact .lam a cl pa lb lsc name qual pm ct c (e.notOwn hn ho) (e.keep _ _ hn (fun q => (hx _ q _ ho).2.2.2.1 _ rfl) ho) (hr.notOwn e hc) (hr.ex e hx hc)
  | fnum n f a its ep hn ho h1 h2 h3 => exact .fnum n f a its ep (e.notOwn hn ho) (e.keep _ _ hn (fun q => (hx _ q _ ho).2.2.2.2.2 _ _ rfl) ho) h1 h2 h3
  | nil => exact .nil
  | cons a b iha ihb => exact .cons iha ihb
theorem RepVs.ex (e : Ex X h ρ h' ρ') (hx : ∀ x ∈ X, Hid h x) : ∀ {vs : List AV} {ws : List Value}, RepVs B h ρ vs ws → RepVs B h' ρ' vs ws
  | [], _, r => by cases r; exact .nil
  | _ :: _, _, r => by cases r with | cons a b => exact .cons (a.ex e hx) (RepVs.ex e hx b)
theorem RepV.ext (e : Ext X h ρ h' ρ') (hx : ∀ x ∈ X, Hid h x) {v : AV} {w : Value} (r : RepV B h ρ v w) : RepV B h' ρ' v w := r.ex e.toEx hx
theorem RepVs.ext (e : Ext X h ρ h' ρ') (hx : ∀ x ∈ X, Hid h x) {v : List AV} {w : List Value} (r : RepVs B h ρ v w) : RepVs B h' ρ' v w := r.ex e.toEx hx
theorem RepV.ext0 (e : Ext [] h ρ h' ρ') {v : AV} {w : Value} (r : RepV B h ρ v w) : RepV B h' ρ' v w := r.ext e fun _ q => nomatch q
theorem RepVs.ext0 (e : Ext [] h ρ h' ρ') {v : List AV} {w : List Value} (r : RepVs B h ρ v w) : RepVs B h' ρ' v w := r.ext e fun _ q => nomatch q
end
end Mine
end
section
set_option maxRecDepth 100000
set_option linter.unusedVariables false
open PySem PySem.W PyProof.Rows PySem.Claim2Try PySem.Pin
namespace Mine

/-- the pairs of a dict -/
inductive RepPs (B : Bs) (h : Heap) (ρ : Rho) : List (Int × AV) → List (Int × Value) → Prop
  | nil : RepPs B h ρ [] []
  | cons {k : Int} {v : AV} {u : Value} {r : List (Int × AV)} {r' : List (Int × Value)} : RepV B h ρ v u → RepPs B h ρ r r' → RepPs B h ρ ((k, v) :: r) ((k, u) :: r')
theorem RepPs.ex {B : Bs} {X : List Addr} {h h' : Heap} {ρ ρ' : Rho} {es : List (Int × AV)} {kvs : List (Int × Value)} (e : Ex X h ρ h' ρ') (hx : ∀ x ∈ X, Hid h x) (r : RepPs B h ρ es kvs) : RepPs B h' ρ' es kvs := by
  induction r with
  | nil => exact .nil
  | cons a _ ih => exact .cons (a.ex e hx) ih
inductive NumsO (h : Heap) (p : Addr × Addr) (n : Nat) (f : Nat → Int) : Prop
  | mk (e1 : p.2 = p.1) (its : Array Value) (e : Nat) (ho : h.get? p.1 = some (listOf its e)) (hs : its.size = n) (hl : n ≤ 1000000) (hf : ∀ i, i < n → ∃ t, its[i]? = some (.int (f i) t)) : NumsO h p n f
inductive ListO (B : Bs) (h : Heap) (ρ : Rho) (p : Addr × Addr) (vs : List AV) : Prop
  | mk (e1 : p.2 = p.1) (hl : vs.length ≤ 1000000) (its : Array Value) (e : Nat) (ho : h.get? p.1 = some (listOf its e)) (hr : RepVs B h ρ vs its.toList) : ListO B h ρ p vs
inductive InstO (B : Bs) (h : Heap) (ρ : Rho) (p : Addr × Addr) (at_ : List (Str × AV)) : Prop
  | mk (e1 : p.2 ≠ p.1) (ox : Obj) (m : Str → Option Value) (ho : h.get? p.1 = some ox) (hc : ox.cls = .ref B.C) (hd : ∀ c, ox.data ≠ .cls c) (hdi : ox.dict = some p.2) (hns : h.Ns1 p.2 m)
    (hm : ∀ x, match lookS x at_ with
        | some v => ∃ w, m x = some w ∧ RepV B h ρ v w
        | none => m x = none) : InstO B h ρ p at_
inductive DictO (B : Bs) (h : Heap) (ρ : Rho) (p : Addr × Addr) (ep : Option Nat) (es : List (Int × AV)) : Prop
  | mk (e1 : p.2 = p.1) (e2 : p.1 ≠ sysModules) (hl : es.length ≤ 1000000) (kvs : List (Int × Value)) (hk : ∃ ep', (∀ e, ep = some e → ep' = e) ∧ ∀ prog w, h.DictAt (intKind prog w) p.1 kvs ep') (hr : RepPs B h ρ es kvs) : DictO B h ρ p ep es
noncomputable def RepO (B : Bs) (h : Heap) (ρ : Rho) (p : Addr × Addr) : AObj → Prop
  | .nums n f => NumsO h p n f
  | .list vs => ListO B h ρ p vs
  | .inst at_ => InstO B h ρ p at_
  | .idict ep es => DictO B h ρ p ep es
  | .tab pos => p.2 = p.1 ∧ p.1 = B.tb ∧ (h.get? p.1 = some (tabObj #[]) ∨ ∃ c, h.get? p.1 = some (tabObj #[rawInt pos.line, rawInt pos.col, .ref c]) ∧ NotOwn ρ c ∧ h.CodeRec (.ref c) B.wq)

structure St (B : Bs) (ρ : Rho) (σ : Hp) (s : Shared) : Prop where
  keep : ∀ b o, B.hb.get? b = some o → s.heap.get? b = some o
  len : ρ.length = σ.length
  obj : ∀ (n : Nat) p o, ρ[n]? = some p → σ[n]? = some o → RepO B s.heap ρ p o
  apart : ∀ (i j : Nat) p q, i ≠ j → ρ[i]? = some p → ρ[j]? = some q → p.1 ≠ q.1 ∧ p.1 ≠ q.2 ∧ p.2 ≠ q.1 ∧ p.2 ≠ q.2
  above : ∀ p ∈ ρ, B.hb.get? p.1 = none ∧ B.hb.get? p.2 = none
  below : ∀ p ∈ ρ, (∃ o, s.heap.get? p.1 = some o) ∧ ∃ o, s.heap.get? p.2 = some o
  gens : s.gens = #[]
  os : s.os = B.os

section
variable {B : Bs} {X : List Addr} {h h' : Heap} {ρ ρ' : Rho} {σ : Hp} {s : Shared}
theorem RepO.ex {p : Addr × Addr} {o : AObj} (e : Ex X h ρ h' ρ') (hx : ∀ x ∈ X, Hid h x) (k1 : ∀ o, h.get? p.1 = some o → h'.get? p.1 = some o) (k2 : ∀ o, h.get? p.2 = some o → h'.get? p.2 = some o) (r : RepO B h ρ p o) : RepO B h' ρ' p o := by
  cases o with
  | nums n f =>
    obtain ⟨e1, its, ep, ho, hs, hl, hr⟩ := r
    exact ⟨e1, its, ep, k1 _ ho, hs, hl, hr⟩
  | list vs =>
    obtain ⟨e1, hl, its, ep, ho, hr⟩ := r
    exact ⟨e1, hl, its, ep, k1 _ ho, hr.ex e hx⟩
  | inst a =>
    obtain ⟨e1, ox, m, ho, hc, hd, hdi, hns, hm⟩ := r
    refine ⟨e1, ox, m, k1 _ ho, hc, hd, hdi, hns.at k2, fun x => ?_⟩
    have := hm x
    split at this
    · rename_i v hv
      obtain ⟨w, hw, rw_⟩ := this
      exact ⟨w, hw, rw_.ex e hx⟩
    · exact this
  | idict ep es =>
    obtain ⟨e1, e2, hl, kvs, ⟨ep', h1, h2⟩, h4⟩ := r
    exact ⟨e1, e2, hl, kvs, ⟨ep', h1, fun prog w => let ⟨o, es, ho, q⟩ := h2 prog w; ⟨o, es, k1 o ho, q⟩⟩, h4.ex e hx⟩
  | tab pos =>
    obtain ⟨e1, e2, q⟩ := r
    refine ⟨e1, e2, q.imp (k1 _) fun q => ?_⟩
    obtain ⟨c, h1, h2, h3⟩ := q
    exact ⟨c, k1 _ h1, h3.notOwn e h2, h3.ex e hx h2⟩
theorem RepO.ext {p : Addr × Addr} {o : AObj} (e : Ext X h ρ h' ρ') (hx : ∀ x ∈ X, Hid h x) (k1 : ∀ o, h.get? p.1 = some o → h'.get? p.1 = some o) (k2 : ∀ o, h.get? p.2 = some o → h'.get? p.2 = some o) (r : RepO B h ρ p o) : RepO B h' ρ' p o := r.ex e.toEx hx k1 k2
theorem St.own_apart (S : St B ρ σ s) {n m : Nat} {p q : Addr × Addr} (hn : ρ[n]? = some p) (hm : ρ[m]? = some q) (hne : n ≠ m) : (q.1 ≠ p.1 ∧ q.1 ≠ p.2) ∧ (q.2 ≠ p.1 ∧ q.2 ≠ p.2) := by
  obtain ⟨a, b, c, d⟩ := S.apart n m p q hne hn hm
  exact ⟨⟨a.symm, c.symm⟩, ⟨b.symm, d.symm⟩⟩
theorem mem_of_at {p : Addr × Addr} {n : Nat} (h : ρ[n]? = some p) : p ∈ ρ := List.mem_of_getElem? h
/-- a change that touches nothing told -/
theorem St.keeps (S : St B ρ σ s) {tk : Nat} {d : Drawn} (k : ∀ b o, b ∉ X → s.heap.get? b = some o → h'.get? b = some o)
    (hx : ∀ x ∈ X, Hid s.heap x ∧ NotOwn ρ x ∧ B.hb.get? x = none) : St B ρ σ ⟨h', s.gens, d, tk, s.os⟩ where
  keep b o e := k b o (fun q => by rw [(hx b q).2.2] at e; cases e) (S.keep b o e)
  len := S.len
  obj n p o hp ho := (S.obj n p o hp ho).ex (Ex.of_keep (X := X) k) (fun x q => (hx x q).1)
    (fun o e => k _ _ (fun q => ((hx _ q).2.1 p (mem_of_at hp)).1 rfl) e) (fun o e => k _ _ (fun q => ((hx _ q).2.1 p (mem_of_at hp)).2 rfl) e)
  apart := S.apart
  above := S.above
  below p hp := ⟨let ⟨o, e⟩ := (S.below p hp).1; ⟨o, k _ _ (fun q => ((hx _ q).2.1 p hp).1 rfl) e⟩, let ⟨o, e⟩ := (S.below p hp).2; ⟨o, k _ _ (fun q => ((hx _ q).2.1 p hp).2 rfl) e⟩⟩
  gens := S.gens
  os := S.os
theorem St.grows (S : St B ρ σ s) {tk : Nat} {d : Drawn} (k : ∀ b o, s.heap.get? b = some o → h'.get? b = some o) : St B ρ σ ⟨h', s.gens, d, tk, s.os⟩ :=
  S.keeps (X := []) (fun b o _ e => k b o e) fun _ q => nomatch q
theorem St.push (S : St B ρ σ s) {tk : Nat} {d : Drawn} (o : Obj) : St B ρ σ ⟨s.heap.push o, s.gens, d, tk, s.os⟩ :=
  S.grows fun _ _ e => Heap.get?_push_of_some _ e
theorem St.toks (S : St B ρ σ s) {tk : Nat} : St B ρ σ { s with toks := tk } := ⟨S.keep, S.len, S.obj, S.apart, S.above, S.below, S.gens, S.os⟩
theorem St.notOwn (S : St B ρ σ s) {a : Addr} (ha : s.heap.get? a = none) : NotOwn ρ a := fun p hp => by
  obtain ⟨⟨o, h1⟩, ⟨o', h2⟩⟩ := S.below p hp
  exact ⟨fun q => (by rw [← q, ha] at h1; cases h1), fun q => (by rw [← q, ha] at h2; cases h2)⟩
/-- an object more -/
theorem St.new (S : St B ρ σ s) {tk : Nat} {d : Drawn} {p : Addr × Addr} {o : AObj} (k : ∀ b o, s.heap.get? b = some o → h'.get? b = some o)
    (h1 : s.heap.get? p.1 = none) (h2 : s.heap.get? p.2 = none) (b1 : ∃ o, h'.get? p.1 = some o) (b2 : ∃ o, h'.get? p.2 = some o) (r : RepO B h' (ρ ++ [p]) p o) :
    St B (ρ ++ [p]) (σ ++ [o]) ⟨h', s.gens, d, tk, s.os⟩ ∧ Ext [] s.heap ρ h' (ρ ++ [p]) := by
  have E : Ext [] s.heap ρ h' (ρ ++ [p]) := ⟨⟨⟨[p], rfl, fun q hq => by rw [List.mem_singleton.mp hq]; exact ⟨h1, h2⟩⟩, fun b o _ _ e => k b o e⟩, fun b o e => ⟨o, k b o e⟩⟩
  have base : ∀ a, s.heap.get? a = none → B.hb.get? a = none := fun a ha => by
    cases hb : B.hb.get? a with
    | none => rfl
    | some o => rw [S.keep a o hb] at ha; cases ha
  refine ⟨⟨fun b o e => k b o (S.keep b o e), by rw [List.length_append, List.length_append, S.len]; rfl, fun n q ob hq hob => ?_, fun i j q q' hij hi hj => ?_, fun q hq => ?_, fun q hq => ?_, S.gens, S.os⟩, E⟩
  · rcases Nat.lt_or_ge n ρ.length with hl | hl
    · rw [List.getElem?_append_left hl] at hq
      rw [List.getElem?_append_left (by rw [← S.len]; exact hl)] at hob
      exact (S.obj n q ob hq hob).ext E (fun _ q => nomatch q) (fun _ e => k _ _ e) fun _ e => k _ _ e
    · rw [List.getElem?_append_right hl] at hq
      rw [List.getElem?_append_right (by rw [← S.len]; exact hl), ← S.len] at hob
      have hz : n - ρ.length = 0 := by
        rcases Nat.eq_zero_or_pos (n - ρ.length) with e | e
        · exact e
        · rw [List.getElem?_eq_none (by show 1 ≤ _; exact e)] at hq; cases hq
      rw [hz] at hq hob
      cases hq
      cases hob
      exact r
  · have old : ∀ {n : Nat} {q : Addr × Addr}, (ρ ++ [p])[n]? = some q → (n < ρ.length ∧ ρ[n]? = some q) ∨ (n = ρ.length ∧ q = p) := by
      intro n q hq
      rcases Nat.lt_or_ge n ρ.length with hl | hl
      · rw [List.getElem?_append_left hl] at hq; exact .inl ⟨hl, hq⟩
      · rw [List.getElem?_append_right hl] at hq
        have hz : n - ρ.length = 0 := by
          rcases Nat.eq_zero_or_pos (n - ρ.length) with e | e
          · exact e
          · rw [List.getElem?_eq_none (by show 1 ≤ _; exact e)] at hq; cases hq
        rw [hz] at hq
        cases hq
        exact .inr ⟨by omega, rfl⟩
    have n1 := S.notOwn h1
    have n2 := S.notOwn h2
    rcases old hi with ⟨_, gi⟩ | ⟨gi, rfl⟩
    · rcases old hj with ⟨_, gj⟩ | ⟨gj, rfl⟩
      · exact S.apart i j q q' hij gi gj
      · have m := mem_of_at gi
        exact ⟨(n1 q m).1.symm, (n2 q m).1.symm, (n1 q m).2.symm, (n2 q m).2.symm⟩
    · rcases old hj with ⟨_, gj⟩ | ⟨gj, rfl⟩
      · have m := mem_of_at gj
        exact ⟨(n1 q' m).1, (n1 q' m).2, (n2 q' m).1, (n2 q' m).2⟩
      · exact absurd (gi.trans gj.symm) hij
  · rcases List.mem_append.mp hq with hq | hq
    · exact S.above q hq
    · rw [List.mem_singleton.mp hq]; exact ⟨base _ h1, base _ h2⟩
  · rcases List.mem_append.mp hq with hq | hq
    · exact ⟨let ⟨o, e⟩ := (S.below q hq).1; ⟨o, k _ _ e⟩, let ⟨o, e⟩ := (S.below q hq).2; ⟨o, k _ _ e⟩⟩
    · rw [List.mem_singleton.mp hq]; exact ⟨b1, b2⟩
/-- an object turned -/
theorem St.set (S : St B ρ σ s) {tk : Nat} {d : Drawn} {n : Nat} {p : Addr × Addr} {o : AObj} (hp : ρ[n]? = some p) (k : ∀ b o, b ≠ p.1 → b ≠ p.2 → s.heap.get? b = some o → h'.get? b = some o)
    (b1 : ∃ o, h'.get? p.1 = some o) (b2 : ∃ o, h'.get? p.2 = some o) (r : RepO B h' ρ p o) : St B ρ (σ.set n o) ⟨h', s.gens, d, tk, s.os⟩ ∧ Ext [] s.heap ρ h' ρ := by
  have hpm := mem_of_at hp
  have E : Ext [] s.heap ρ h' ρ := ⟨⟨⟨[], by simp, fun _ q => nomatch q⟩, fun b o hn _ e => k b o (hn p hpm).1 (hn p hpm).2 e⟩, fun b o e => by
    by_cases h1 : b = p.1
    · rw [h1]; exact b1
    · by_cases h2 : b = p.2
      · rw [h2]; exact b2
      · exact ⟨o, k b o h1 h2 e⟩⟩
  refine ⟨⟨fun b o e => ?_, by rw [List.length_set, S.len], fun m q ob hq hob => ?_, S.apart, S.above, fun q hq => ⟨let ⟨o, e⟩ := (S.below q hq).1; E.there _ _ e, let ⟨o, e⟩ := (S.below q hq).2; E.there _ _ e⟩, S.gens, S.os⟩, E⟩
  · exact k b o (fun q => by rw [q, (S.above p hpm).1] at e; cases e) (fun q => by rw [q, (S.above p hpm).2] at e; cases e) (S.keep b o e)
  · rcases Nat.decEq n m with hne | rfl
    · rw [List.getElem?_set_ne hne] at hob
      obtain ⟨⟨a1, a2⟩, a3, a4⟩ := S.own_apart hp hq hne
      exact (S.obj m q ob hq hob).ext E (fun _ q => nomatch q) (fun o e => k _ _ a1 a2 e) (fun o e => k _ _ a3 a4 e)
    · rw [hp] at hq
      cases hq
      have hl : n < σ.length := by rw [← S.len]; exact (List.getElem?_eq_some_iff.mp hp).1
      rw [List.getElem?_set_self hl] at hob
      cases hob
      exact r
theorem St.at_ (S : St B ρ σ s) {n : Nat} {o : AObj} (ho : σ[n]? = some o) : ∃ p, ρ[n]? = some p ∧ RepO B s.heap ρ p o := by
  have hl : n < ρ.length := by rw [S.len]; exact (List.getElem?_eq_some_iff.mp ho).1
  exact ⟨ρ[n], List.getElem?_eq_getElem hl, S.obj n _ o (List.getElem?_eq_getElem hl) ho⟩

/-- the objects of a frame: its names, its cells -/
noncomputable def fr (env : Env) : List Addr := env.locals :: env.cells.filterMap fun p => env.cells.lookup p.1
theorem mem_fr {env : Env} {x : Addr} (h : x ∈ fr env) : x = env.locals ∨ ∃ n, env.cells.lookup n = some x := by
  rcases List.mem_cons.mp h with h | h
  · exact .inl h
  · obtain ⟨p, _, e⟩ := List.mem_filterMap.mp h
    exact .inr ⟨p.1, e⟩
theorem fr_locals {env : Env} : env.locals ∈ fr env := List.mem_cons_self ..
theorem fr_cell {env : Env} {n : Str} {c : Addr} (h : env.cells.lookup n = some c) : c ∈ fr env :=
  List.mem_cons_of_mem _ (List.mem_filterMap.mpr ⟨(n, c), PySem.mem_of_lookup h, h⟩)
/-- a lambda is called in its own frame alone -/
noncomputable def lamOk (env : Env) : AV → Prop
  | .lam _ cl _ _ lsc => (∀ n c, cl.lookup n = some c → env.cells.lookup n = some c) ∧ ∀ y ∈ lsc.names, y.2 = .free → ∃ c, cl.lookup y.1 = some c
  | _ => True
noncomputable def notLam : AV → Bool
  | .lam _ _ _ _ _ => false
  | _ => true
theorem lamOk_of {env : Env} {v : AV} (h : notLam v = true) : lamOk env v := by cases v <;> first | trivial | cases h
/-- the one scope with a lambda -/
noncomputable def isW (sc : Scope) : Bool := sc.names.any fun x => eqS x.1 "wrap"
/-- the names of a frame -/
structure Lo (B : Bs) (env : Env) (L : Loc) (ρ : Rho) (h : Heap) : Prop where
  ns : ∃ m, h.Ns env.locals m ∧ ∀ x v, lookS x L = some v → env.kindOf x = some .local → ∃ w, m x = some w ∧ RepV B h ρ v w
  cell : ∀ x v, lookS x L = some v → env.kindOf x ≠ some .local → ∃ c w, env.cells.lookup x = some c ∧ h.IsCell c (some w) ∧ RepV B h ρ v w
  cok : ∀ n c, env.cells.lookup n = some c → (∃ v, h.IsCell c v) ∧ c ≠ env.locals
  apart : ∀ n n' c, env.cells.lookup n = some c → env.cells.lookup n' = some c → n = n'
  cells : ∀ x, env.kindOf x = some .cell → ∃ c, env.cells.lookup x = some c
  own : ∀ x ∈ fr env, NotOwn ρ x ∧ B.hb.get? x = none
  lam : ∀ x v, lookS x L = some v → lamOk env v
  code : isW env.scope = true → env.code = .ref B.cw ∧ env.qual ++ "<lambda>" = B.wq
theorem ns_hid {m : Str → Option Value} {a : Addr} (n : h.Ns a m) : Hid h a := by
  obtain ⟨o, es, ep, ho, hd, _⟩ := n
  intro o' ho'
  rw [ho] at ho'
  cases ho'
  refine ⟨fun its e q => ?_, fun f x q => ?_, fun a b t u v q => ?_, fun f q => ?_, fun vs q t e => ?_, fun its e q => ?_⟩ <;> first | (rw [q] at hd; cases hd) | (rw [e] at hd; cases hd)
theorem cell_hid {v : Option Value} {a : Addr} (n : h.IsCell a v) : Hid h a := by
  obtain ⟨o, ho, hd⟩ := n
  intro o' ho'
  rw [ho] at ho'
  cases ho'
  refine ⟨fun its e q => ?_, fun f x q => ?_, fun a b t u v q => ?_, fun f q => ?_, fun vs q t e => ?_, fun its e q => ?_⟩ <;> first | (rw [q] at hd; cases hd) | (rw [e] at hd; cases hd)
theorem Lo.hid {env : Env} {L : Loc} (l : Lo B env L ρ h) : ∀ x ∈ fr env, Hid h x ∧ ∃ o, h.get? x = some o := fun x hx => by
  rcases mem_fr hx with rfl | ⟨n, e⟩
  · obtain ⟨_, n, _⟩ := l.ns
    exact ⟨ns_hid n, let ⟨o, _, _, ho, _⟩ := n; ⟨o, ho⟩⟩
  · obtain ⟨⟨v, c⟩, _⟩ := l.cok n x e
    exact ⟨cell_hid c, let ⟨o, ho, _⟩ := c; ⟨o, ho⟩⟩
/-- a run that leaves the frame alone -/
theorem Lo.ex {env : Env} {L : Loc} (l : Lo B env L ρ h) (e : Ex X h ρ h' ρ') (hx : ∀ x ∈ X, Hid h x) (hl : ∀ x ∈ fr env, x ∉ X) : Lo B env L ρ' h' := by
  have kp : ∀ x ∈ fr env, ∀ o, h.get? x = some o → h'.get? x = some o := fun x hx o ho => e.keep _ _ (l.own x hx).1 (hl x hx) ho
  have kc : ∀ n c v, env.cells.lookup n = some c → h.IsCell c v → h'.IsCell c v := fun n c v e ⟨o, ho, hd⟩ => ⟨o, kp c (fr_cell e) o ho, hd⟩
  refine ⟨?_, fun x v hv hk => ?_, fun n c hc => ?_, l.apart, l.cells, fun x hx => ⟨let ⟨_, q⟩ := (l.hid x hx).2; e.notOwn (l.own x hx).1 q, (l.own x hx).2⟩, l.lam, l.code⟩
  · obtain ⟨m, hn, hm⟩ := l.ns
    refine ⟨m, hn.at fun o ho => kp _ fr_locals o ho, fun x v hv hk => ?_⟩
    obtain ⟨w, hw, r⟩ := hm x v hv hk
    exact ⟨w, hw, r.ex e hx⟩
  · obtain ⟨c, w, h1, h2, h3⟩ := l.cell x v hv hk
    exact ⟨c, w, h1, kc x c _ h1 h2, h3.ex e hx⟩
  · obtain ⟨⟨v, h1⟩, h2⟩ := l.cok n c hc
    exact ⟨⟨v, kc n c v hc h1⟩, h2⟩
theorem Lo.ext {env : Env} {L : Loc} (l : Lo B env L ρ h) (e : Ext X h ρ h' ρ') (hx : ∀ x ∈ X, Hid h x) (hl : ∀ x ∈ fr env, x ∉ X) : Lo B env L ρ' h' := l.ex e.toEx hx hl
theorem Lo.ext0 {env : Env} {L : Loc} (l : Lo B env L ρ h) (e : Ext [] h ρ h' ρ') : Lo B env L ρ' h' := l.ext e (fun _ q => nomatch q) (fun _ _ q => nomatch q)
end
end Mine
end
section
set_option maxRecDepth 100000
set_option linter.unusedVariables false
open PySem PySem.W PyProof.Rows PySem.Claim2Try PySem.Pin
namespace Mine

noncomputable def locK (vs : List AV) (K : Nat → Prop) : Prop := match vs with
  | [.loc n] => K n
  | _ => False
noncomputable def numK (vs : List AV) (K : Int → Prop) : Prop := match vs with
  | [.int n] => K n
  | _ => False
noncomputable def someK {α : Type} (o : Option α) (K : α → Prop) : Prop := match o with
  | some x => K x
  | none => False
/-- the text: the statements of the top and of the class -/
structure Pg where
  top : List Stmt
  body : List Stmt
  slen : Nat
  scr : Nat → Int
noncomputable def clsFind (n : Str) : List Stmt → Option Stmt
  | [] => none
  | st :: r => cond (eqS (nameOf st) n) (some st) (clsFind n r)
noncomputable def topFind (n : Str) : List Stmt → Option Stmt
  | [] => none
  | st :: r => cond (eqS (topName st) n) (some st) (topFind n r)
/-- the names that an object bears -/
noncomputable def ivars : List Str := ["name", "byteMask", "addrMask", "addrHighMask", "spBase", "excycles", "addcycles", "processorCycles", "memory", "start_pc", "pc", "sp", "a", "x", "y", "p"]
noncomputable def memS (x : Str) : List Str → Bool
  | [] => false
  | y :: r => cond (eqS x y) true (memS x r)
noncomputable def nth {α : Type} : List α → Nat → Option α
  | [], _ => none
  | x :: _, 0 => some x
  | _ :: r, n + 1 => nth r n
noncomputable def setN {α : Type} : List α → Nat → α → List α
  | [], _, _ => []
  | _ :: r, 0, y => y :: r
  | x :: r, n + 1, y => x :: setN r n y
noncomputable def isTop : NameKind → Bool
  | .globalImplicit => true
  | _ => false
noncomputable def kindS (x : Str) (sc : Scope) : Option NameKind := lookS x sc.names
/-- a number that is no giant -/
noncomputable def small (a : Int) : Bool := decide (a.natAbs < 18446744073709551616)

noncomputable def constI (c : Const) (K : AV → Prop) : Prop := match c with
  | .none => K .none
  | .bool b => K (.bool b)
  | .int i => K (.int i)
  | .str s => K (.str s)
  | _ => False
noncomputable def defOf : Option Stmt → Option (Arguments × List Stmt × Scope)
  | some (.FunctionDef _ pa bo _ _ _ sc _ _ _) => some (pa, bo, sc)
  | _ => none
noncomputable def isClsO : Option Stmt → Bool
  | some (.ClassDef _ _ _ _ _ _ _ _ _ _ _) => true
  | _ => false
noncomputable def globB (x : Str) (K : AV → Prop) : Prop := cond (eqS x "len") (K (.bi "len")) (cond (eqS x "range") (K (.ty "range")) (cond (eqS x "enumerate") (K (.ty "enumerate")) False))
noncomputable def globI (G : Pg) (x : Str) (K : AV → Prop) : Prop := cond (defOf (topFind x G.top)).isSome (K (.fn x)) (cond (isClsO (topFind x G.top)) (K .cls) (cond (topFind x G.top).isNone (globB x K) False))
noncomputable def debugName : Str := "__debug__"
noncomputable def localI (x : Str) (o : Option AV) (K : AV → Prop) : Prop := match o with
  | some v => cond (eqS x debugName) False (K v)
  | none => False
noncomputable def classdictName : Str := "__classdict__"
noncomputable def nameI (G : Pg) (sc : Scope) (x : Str) (L : Loc) (K : AV → Prop) : Prop := match kindS x sc with
  | some .local => localI x (lookS x L) K
  | some .cell => localI x (lookS x L) K
  | some .free => cond (eqS x classdictName) False (localI x (lookS x L) K)
  | some .globalImplicit => cond (eqS x debugName) False (globI G x K)
  | _ => False
noncomputable def intsOf : List AV → Option (List Int)
  | [] => some []
  | .int i :: r => (match intsOf r with
    | some l => some (i :: l)
    | none => none)
  | _ :: _ => none
noncomputable def getI (l : List Int) (i : Nat) : Int := l.getD i 0
noncomputable def mkList (vs : List AV) : AObj := match intsOf vs with
  | some l => .nums l.length (getI l)
  | none => .list vs
noncomputable def appF (m : Nat) (f g : Nat → Int) (i : Nat) : Int := cond (Nat.blt i m) (f i) (g (i - m))
noncomputable def repF (m : Nat) (f : Nat → Int) (i : Nat) : Int := f (i % m)
noncomputable def setF (f : Nat → Int) (j : Nat) (v : Int) (i : Nat) : Int := cond (Nat.beq i j) v (f i)
noncomputable def cutF (a : Nat) (f : Nat → Int) (i : Nat) : Int := f (a + i)
/-- an operation of two numbers -/
noncomputable def arithI (op : Operator) (x y : Int) (K : Int → Prop) : Prop := match op with
  | .Add => K (x + y)
  | .Sub => K (x - y)
  | .Mult => cond (small x && small y) (K (x * y)) False
  | .BitAnd => K (Builtin.bitAnd x y)
  | .BitOr => K (Builtin.bitOr x y)
  | .BitXor => K (Builtin.bitXor x y)
  | .LShift => cond (decide (0 ≤ y) && decide (y ≤ 1000000) && small x) (K (x * 2 ^ y.toNat)) False
  | .RShift => cond (decide (0 ≤ y)) (K (x.fdiv (2 ^ y.toNat))) False
  | .FloorDiv => cond (decide (y = 0) || !decide (y.natAbs < 1073741824)) False (K (x.fdiv y))
  | .Mod => cond (decide (y = 0)) False (K (x.fmod y))
  | .Pow => cond (decide (0 ≤ y) && decide (y ≤ 1000000) && small x) (K (x ^ y.toNat)) False
  | _ => False
noncomputable def intK (a b : AV) (K : Int → Int → Prop) : Prop := match a with
  | .int x => (match b with | .int y => K x y | _ => False)
  | _ => False
/-- two lists of numbers -/
noncomputable def numsK (σ : Hp) (a : AV) (K : Nat → Nat → (Nat → Int) → Prop) : Prop := match a with
  | .loc m => (match nth σ m with | some (.nums p f) => K m p f | _ => False)
  | _ => False
/-- a list of numbers to be read: one of the call's, or a frozen one -/
noncomputable def readK (σ : Hp) (a : AV) (K : Nat → (Nat → Int) → Prop) : Prop := match a with
  | .loc m => (match nth σ m with | some (.nums p f) => K p f | _ => False)
  | .fnum p f => K p f
  | _ => False
noncomputable def sameLoc (m : Nat) : AV → Bool
  | .loc n => Nat.beq m n
  | _ => false
noncomputable def lmulI (p : Nat) (f : Nat → Int) (b : AV) (σ : Hp) (K : AV → Hp → Prop) : Prop := match b with
  | .int k => cond (decide (0 ≤ k) && decide (k ≤ 1000000) && decide (p * k.toNat ≤ 1000000)) (K (.loc σ.length) (σ ++ [.nums (p * k.toNat) (repF p f)])) False
  | _ => False
noncomputable def isInt : AV → Bool
  | .int _ => true
  | _ => false
noncomputable def binI (op : Operator) (a b : AV) (σ : Hp) (K : AV → Hp → Prop) : Prop := cond (isInt a) (intK a b fun x y => arithI op x y fun z => K (.int z) σ) (match op with
  | .Add => readK σ a fun p f => readK σ b fun q g => cond (decide (p + q ≤ 1000000)) (K (.loc σ.length) (σ ++ [.nums (p + q) (appF p f g)])) False
  | .Mult => numsK σ a fun _ p f => lmulI p f b σ K
  | _ => False)
/-- in place: numbers by the plain operation, a list grows -/
noncomputable def iarithI (op : Operator) (x y : Int) (K : Int → Prop) : Prop := match op with
  | .Add => K (x + y)
  | .Sub => K (x - y)
  | .BitAnd => K (Builtin.bitAnd x y)
  | .BitOr => K (Builtin.bitOr x y)
  | .BitXor => K (Builtin.bitXor x y)
  | _ => False
noncomputable def inplI (op : Operator) (a b : AV) (σ : Hp) (K : AV → Hp → Prop) : Prop := cond (isInt a) (intK a b fun x y => iarithI op x y fun z => K (.int z) σ) (match op with
  | .Add => numsK σ a fun m p f => readK σ b fun q g => cond (sameLoc m b) False (cond (decide (p + q ≤ 1000000)) (K (.loc m) (setN σ m (.nums (p + q) (appF p f g)))) False)
  | _ => False)
noncomputable def unI (op : UnaryOp) (a : AV) (K : AV → Prop) : Prop := match op, a with
  | .Invert, .int x => K (.int (Builtin.bitNot x))
  | .USub, .int x => K (.int (-x))
  | _, _ => False
noncomputable def eqTo (f g : Nat → Int) : Nat → Bool
  | 0 => true
  | n + 1 => cond (decide (f n = g n)) (eqTo f g n) false
noncomputable def isNoneK (a b : AV) (K : Bool → Prop) : Prop := match b with
  | .none => (match a with
    | .int _ => K false
    | .bm _ _ => K false
    | .loc _ => K false
    | _ => False)
  | _ => False
noncomputable def cmpI (op : CmpOp) (a b : AV) (σ : Hp) (K : Bool → Prop) : Prop := match op with
  | .Eq => cond (isInt a) (intK a b fun x y => K (decide (x = y))) (numsK σ a fun _ p f => numsK σ b fun _ q g => K (cond (Nat.beq p q) (eqTo f g p) false))
  | .NotEq => intK a b fun x y => K (!decide (x = y))
  | .Lt => intK a b fun x y => K (decide (x < y))
  | .LtE => intK a b fun x y => K (decide (x ≤ y))
  | .Gt => intK a b fun x y => K (decide (y < x))
  | .GtE => intK a b fun x y => K (decide (y ≤ x))
  | .Is => isNoneK a b K
  | _ => False
noncomputable def truthI (v : AV) (K : Bool → Prop) : Prop := match v with
  | .none => K false
  | .bool b => K b
  | .int i => K (!decide (i = 0))
  | _ => False
noncomputable def plainAV : AV → Bool
  | .none => true
  | .bool _ => true
  | .int _ => true
  | .str _ => true
  | .loc _ => true
  | .tup _ => true
  | .bm _ _ => true
  | _ => false
noncomputable def ClsAttr (a : Str) (n : Nat) (K : AV → Prop) : Stmt → Prop
  | .Assign [.Name _ _] (.Constant (.int i) _ _) _ => K (.int i)
  | .Assign [.Name _ _] (.Constant (.str s) _ _) _ => K (.str s)
  | .Assign [.Name _ _] (.List _ _) _ => K (.clst a)
  | .FunctionDef _ _ _ _ _ _ _ _ _ _ => cond (eqS a "__init__") False (K (.bm a n))
  | _ => False
noncomputable def attrO (a : Str) (cf : Option Stmt) (n : Nat) (K : AV → Prop) : Option AV → Prop
  | some v => cond (memS a ivars && plainAV v) (K v) False
  | none => (match cf with
    | some st => ClsAttr a n K st
    | none => False)
noncomputable def attrL (G : Pg) (n : Nat) (a : Str) (o : Option AObj) (K : AV → Prop) : Prop := match o with
  | some (.inst at_) => attrO a (clsFind a G.body) n K (lookS a at_)
  | _ => False
noncomputable def attrI (G : Pg) (v : AV) (a : Str) (σ : Hp) (K : AV → Prop) : Prop := match v with
  | .loc n => attrL G n a (nth σ n) K
  | _ => False
noncomputable def instK (σ : Hp) (v : AV) (K : Nat → List (Str × AV) → Prop) : Prop := match v with
  | .loc n => (match nth σ n with
    | some (.inst at_) => K n at_
    | _ => False)
  | _ => False
noncomputable def setAttrI (v : AV) (a : Str) (u : AV) (σ : Hp) (K : Hp → Prop) : Prop := instK σ v fun n at_ => cond (memS a ivars && decide (at_.length ≤ 1000)) (K (setN σ n (.inst (putS a u at_)))) False
noncomputable def itemAt (σ : Hp) (n i : Nat) : Option (Option AV) := match nth σ n with
  | some (.nums N f) => some (cond (Nat.blt i N) (some (.int (f i))) none)
  | some (.list vs) => some (nth vs i)
  | _ => none
noncomputable def lenAt (σ : Hp) (n : Nat) : Option Nat := match nth σ n with
  | some (.nums N _) => some N
  | some (.list vs) => some vs.length
  | _ => none
noncomputable def eltI (e : Option Expr) (K : AV → Prop) : Prop := match e with
  | some (.Constant (.int i) _ _) => K (.int i)
  | some (.Name y _) => K (.mth y)
  | _ => False
noncomputable def oneK (o : Option AV) (K : AV → Prop) : Prop := match o with
  | some u => K u
  | none => False
noncomputable def lstOf : Option Stmt → List Expr
  | some (.Assign _ (.List es _) _) => es
  | _ => []
noncomputable def lookK (k : Int) : List (Int × AV) → Option AV
  | [] => none
  | (j, v) :: r => cond (decide (j = k)) (some v) (lookK k r)
noncomputable def hasK (k : Int) : List (Int × AV) → Bool
  | [] => false
  | (j, _) :: r => cond (decide (j = k)) true (hasK k r)
noncomputable def turnK (k : Int) (v : AV) : List (Int × AV) → List (Int × AV)
  | [] => []
  | (j, u) :: r => cond (decide (j = k)) ((j, v) :: turnK k v r) ((j, u) :: turnK k v r)
/-- a dict with a pair stored -/
noncomputable def putK (k : Int) (v : AV) (es : List (Int × AV)) : List (Int × AV) := cond (hasK k es) (turnK k v es) (es ++ [(k, v)])
noncomputable def dictAtK (σ : Hp) (v : AV) (K : Nat → List (Int × AV) → Prop) : Prop := match v with
  | .loc n => (match nth σ n with
    | some (.idict _ es) => K n es
    | _ => False)
  | _ => False
noncomputable def objAt (o : Option AObj) (i : Int) (K : AV → Prop) : Prop := match o with
  | some (.nums N f) => cond (decide (0 ≤ i) && decide (i < N)) (K (.int (f i.toNat))) False
  | some (.list vs) => cond (decide (0 ≤ i)) (oneK (nth vs i.toNat) K) False
  | some (.idict _ es) => oneK (lookK i es) K
  | _ => False
noncomputable def itemJ (G : Pg) (v : AV) (i : Int) (σ : Hp) (K : AV → Prop) : Prop := match v with
  | .loc n => objAt (nth σ n) i K
  | .fnum N f => cond (decide (0 ≤ i) && decide (i < N)) (K (.int (f i.toNat))) False
  | .tup vs => cond (decide (0 ≤ i) && decide (i ≤ 1000000)) (oneK (nth vs i.toNat) K) False
  | .clst x => cond (decide (0 ≤ i) && decide (i ≤ 1000000)) (eltI (nth (lstOf (clsFind x G.body)) i.toNat) K) False
  | _ => False
noncomputable def itemI (G : Pg) (v w : AV) (σ : Hp) (K : AV → Prop) : Prop := match w with
  | .int i => itemJ G v i σ K
  | _ => False
noncomputable def isDict (σ : Hp) : AV → Bool
  | .loc n => (match nth σ n with
    | some (.idict _ _) => true
    | _ => false)
  | _ => false
noncomputable def intArg (w : AV) (K : Int → Prop) : Prop := match w with
  | .int i => K i
  | _ => False
noncomputable def setItemI (v w u : AV) (σ : Hp) (K : Hp → Prop) : Prop := cond (isDict σ v)
  (dictAtK σ v fun n es => intArg w fun k => cond (decide (es.length ≤ 1000)) (K (setN σ n (.idict none (putK k u es)))) False)
  (numsK σ v fun n N f => intK w u fun i x => cond (decide (0 ≤ i) && decide (i < N)) (K (setN σ n (.nums N (setF f i.toNat x)))) False)
noncomputable abbrev KV := AV → Hp → Prop
noncomputable abbrev KF := AF → Loc → Hp → Prop
/-- an interpreter -/
structure In where
  ev : Scope → Expr → Loc → Hp → KV → Prop
  ts : Scope → Expr → Loc → Hp → (Bool → Hp → Prop) → Prop
  ca : AV → List AV → List (Str × AV) → Hp → KV → Prop
  ex : Scope → Stmt → Loc → Hp → KF → Prop
noncomputable def inFail : In := ⟨fun _ _ _ _ _ => False, fun _ _ _ _ _ => False, fun _ _ _ _ _ => False, fun _ _ _ _ _ => False⟩
noncomputable def seqI (ev : Expr → Hp → KV → Prop) : List Expr → Hp → (List AV → Hp → Prop) → Prop
  | [], σ, K => K [] σ
  | e :: r, σ, K => ev e σ fun v σ1 => seqI ev r σ1 fun vs σ2 => K (v :: vs) σ2
noncomputable def kwI (ev : Expr → Hp → KV → Prop) : List Keyword → Hp → (List (Str × AV) → Hp → Prop) → Prop
  | [], σ, K => K [] σ
  | ⟨some x, e, _⟩ :: r, σ, K => ev e σ fun v σ1 => kwI ev r σ1 fun vs σ2 => K ((x, v) :: vs) σ2
  | ⟨none, _, _⟩ :: _, _, _ => False
noncomputable def optI (ev : Expr → Hp → KV → Prop) : Option Expr → Hp → KV → Prop
  | none, σ, K => K .none σ
  | some e, σ, K => ev e σ K
noncomputable def stmtsI (ex : Stmt → Loc → Hp → KF → Prop) : List Stmt → Loc → Hp → KF → Prop
  | [], L, σ, K => K .next L σ
  | st :: r, L, σ, K => ex st L σ fun fl L1 σ1 => match fl with
    | .next => stmtsI ex r L1 σ1 K
    | fl => K fl L1 σ1
/-- the bounds of a slice of n items -/
noncomputable def boundI (n : Nat) (dflt : Nat) : AV → Option Nat
  | .none => some dflt
  | .int i => cond (decide (0 ≤ i)) (some (min i.toNat n)) none
  | _ => none
noncomputable def minLen (n : Nat) (k : Nat) : Nat := min k n
noncomputable def sliceI (G : Pg) (v a b : AV) (σ : Hp) (K : KV) : Prop := match v with
  | .given => (match boundI G.slen 0 a, boundI G.slen G.slen b with
      | some i, some j => K (.loc σ.length) (σ ++ [.nums (j - i) (cutF i G.scr)])
      | _, _ => False)
  | .loc m => (match nth σ m with
    | some (.nums N f) => (match boundI N 0 a, boundI N N b with
      | some i, some j => K (.loc σ.length) (σ ++ [.nums (j - i) (cutF i f)])
      | _, _ => False)
    | _ => False)
  | _ => False
noncomputable def spliceF (i j M : Nat) (f g : Nat → Int) (k : Nat) : Int := cond (Nat.blt k i) (f k) (cond (Nat.blt k (i + M)) (g (k - i)) (f (j + (k - (i + M)))))
/-- l[a:b] = m -/
noncomputable def setSliceI (v a b z : AV) (σ : Hp) (K : Hp → Prop) : Prop := numsK σ v fun m N f => readK σ z fun M g => cond (sameLoc m z) False
  (someK (boundI N 0 a) fun i => someK (boundI N N b) fun j => cond (decide (i ≤ j) && decide (i + M + (N - j) ≤ 1000000)) (K (setN σ m (.nums (i + M + (N - j)) (spliceF i j M f g)))) False)
noncomputable def genLoop (src : Hp → Nat → Option (Option AV)) (bd : Loc → Hp → KF → Prop) (asg : AV → Loc → Hp → (Loc → Hp → Prop) → Prop) : Nat → Nat → Loc → Hp → KF → Prop
  | 0, i, L, σ, K => (match src σ i with
    | some none => K .next L σ
    | _ => False)
  | k + 1, i, L, σ, K => (match src σ i with
    | none => False
    | some none => K .next L σ
    | some (some v) => asg v L σ fun L1 σ1 => bd L1 σ1 fun fl L2 σ2 => match fl with
      | .next => genLoop src bd asg k (i + 1) L2 σ2 K
      | .cont => genLoop src bd asg k (i + 1) L2 σ2 K
      | .brk => K .next L2 σ2
      | .ret v => K (.ret v) L2 σ2)
/-- names without one of them -/
noncomputable def delS {α : Type} (x : Str) : List (Str × α) → List (Str × α)
  | [] => []
  | (y, v) :: r => cond (eqS x y) (delS x r) ((y, v) :: delS x r)
/-- a loop's body; its target is given up behind it -/
noncomputable def bodyD (x : Str) (bd : Loc → Hp → KF → Prop) (L : Loc) (σ : Hp) (K : KF) : Prop := bd L σ fun fl L2 σ2 => K fl (delS x L2) σ2
noncomputable def whileLoop (ts : Loc → Hp → (Bool → Hp → Prop) → Prop) (bd : Loc → Hp → KF → Prop) : Nat → Loc → Hp → KF → Prop
  | 0, _, _, _ => False
  | n + 1, L, σ, K => ts L σ fun b σ1 => cond b (bd L σ1 fun fl L2 σ2 => match fl with
      | .next => whileLoop ts bd n L2 σ2 K
      | .cont => whileLoop ts bd n L2 σ2 K
      | .brk => K .next L2 σ2
      | .ret v => K (.ret v) L2 σ2) (K .next L σ1)
noncomputable def rangeSrc (N : Nat) (a : Int) (_ : Hp) (i : Nat) : Option (Option AV) := some (cond (Nat.blt i N) (some (.int (a + i))) none)
noncomputable def keySrc (n ep N : Nat) (σ : Hp) (i : Nat) : Option (Option AV) := match nth σ n with
  | some (.idict (some e) es) => cond (Nat.beq e ep && Nat.beq es.length N) (some ((nth es i).map fun x => .int x.1)) none
  | _ => none
/-- what is iterated: its items, how many; a dict bears its mark meanwhile -/
noncomputable def srcK (σ : Hp) (v : AV) (K : (Hp → Nat → Option (Option AV)) → Nat → Hp → Prop) : Prop := match v with
  | .loc n => cond (isDict σ (.loc n)) (dictAtK σ (.loc n) fun n es => ∀ ep, K (keySrc n ep es.length) es.length (setN σ n (.idict (some ep) es)))
    (someK (lenAt σ n) fun k => K (fun σ i => itemAt σ n i) k σ)
  | .rng a b => cond (decide (0 ≤ a) && decide (a ≤ 1000000) && decide (0 ≤ b) && decide (b ≤ 1000000)) (K (rangeSrc (b - a).toNat a) (b - a).toNat σ) False
  | _ => False
/-- a value more on a list -/
noncomputable def intOf : AV → Int
  | .int i => i
  | _ => 0
noncomputable def pushO (o : AObj) (v : AV) : Option AObj := match o with
  | .nums N f => cond (isInt v) (cond (decide (N ≤ 1000)) (some (.nums (N + 1) (setF f N (intOf v)))) none) (cond (Nat.beq N 0) (some (.list [v])) none)
  | .list vs => cond (decide (vs.length ≤ 1000)) (some (.list (vs ++ [v]))) none
  | _ => none
noncomputable def appendI (n : Nat) (v : AV) (σ : Hp) (K : Hp → Prop) : Prop := someK (nth σ n) fun o => someK (pushO o v) fun o' => K (setN σ n o')
/-- a comprehension -/
noncomputable def compLoop (src : Hp → Nat → Option (Option AV)) (ev : AV → Hp → KV → Prop) (acc : Nat) : Nat → Nat → Hp → (Hp → Prop) → Prop
  | 0, i, σ, K => (match src σ i with
    | some none => K σ
    | _ => False)
  | k + 1, i, σ, K => (match src σ i with
    | none => False
    | some none => K σ
    | some (some v) => ev v σ fun u σ1 => appendI acc u σ1 fun σ2 => compLoop src ev acc k (i + 1) σ2 K)
noncomputable def nodupS : List Str → Bool
  | [] => true
  | x :: r => cond (memS x r) false (nodupS r)
noncomputable def bindI (pa : Arguments) (vs : List AV) : Option Loc :=
  cond (pa.posonlyargs.isEmpty && pa.kwonlyargs.isEmpty && pa.vararg.isNone && pa.kwarg.isNone && pa.defaults.isEmpty && Nat.beq pa.args.length vs.length && nodupS (pa.args.map (·.arg)))
    (some ((pa.args.map (·.arg)).zip vs)) none
noncomputable def nSelf : Str := "self"
noncomputable def nMemory : Str := "memory"
noncomputable def nPc : Str := "pc"
/-- the one call of the class: its two names by keyword -/
noncomputable def args3 : List Arg → Bool
  | [a, b, c] => eqS a.arg nSelf && eqS b.arg nMemory && eqS c.arg nPc
  | _ => false
noncomputable def okC (pa : Arguments) (x y : Str) : Bool := pa.posonlyargs.isEmpty && pa.kwonlyargs.isEmpty && pa.vararg.isNone && pa.kwarg.isNone && Nat.beq pa.defaults.length 2 && eqS x nMemory && eqS y nPc && args3 pa.args
noncomputable def bindC (pa : Arguments) (s : AV) (vs : List AV) (ks : List (Str × AV)) : Option Loc := match vs with
  | [] => (match ks with
    | [(x, m), (y, p)] => cond (okC pa x y) (some [(nSelf, s), (nMemory, m), (nPc, p)]) none
    | _ => none)
  | _ => none
noncomputable def plainScope (sc : Scope) : Bool := (match sc.kind with | .function => true | _ => false) && !sc.isGenerator && !sc.isCoroutine && sc.names.all fun x => match x.2 with
  | .local => true
  | .globalImplicit => true
  | .cell => true
  | _ => false
noncomputable def ownName (sc : Scope) (x : Str) : Bool := match kindS x sc with
  | some .local => true
  | some .cell => true
  | _ => false
/-- the objects made since are given up: what of them is told still is frozen -/
noncomputable def optV (o : Option AV) (a : Prop) (f : AV → Prop) : Prop := match o with
  | none => a
  | some x => f x
noncomputable def mapO (f : AV → Option AV) : List AV → Option (List AV)
  | [] => some []
  | v :: r => (match f v with
    | some u => (match mapO f r with
      | some t => some (u :: t)
      | none => none)
    | none => none)
noncomputable def frzO : Option AObj → Option AV
  | some (.nums N g) => some (.fnum N g)
  | _ => none
noncomputable def frz (σ : Hp) (k : Nat) : Nat → AV → Option AV
  | 0, _ => none
  | n + 1, v => (match v with
    | .loc m => cond (Nat.blt m k) (some (.loc m)) (frzO (nth σ m))
    | .tup vs => (mapO (frz σ k n) vs).map .tup
    | .bm x m => cond (Nat.blt m k) (some (.bm x m)) none
    | .lam _ _ _ _ _ => none
    | v => some v)
noncomputable def inB (k : Nat) : Nat → AV → Bool
  | 0, _ => false
  | n + 1, v => (match v with
    | .loc m => Nat.blt m k
    | .bm _ m => Nat.blt m k
    | .tup vs => vs.all (inB k n)
    | _ => true)
noncomputable def objB (k : Nat) : AObj → Bool
  | .nums _ _ => true
  | .list vs => vs.all (inB k 100)
  | .inst at_ => at_.all fun x => inB k 100 x.2
  | .idict _ es => es.all fun x => inB k 100 x.2
  | .tab _ => true
noncomputable def gcV (k : Nat) (K : KV) (v : AV) (σ : Hp) : Prop := cond ((σ.take k).all (objB k)) (optV (frz σ k 100 v) (K v σ) fun u => K u (σ.take k)) (K v σ)
noncomputable def gcK (k : Nat) (K : KV) : KV := fun v σ => cond (Nat.beq σ.length k) (K v σ) (gcV k K v σ)
noncomputable def retK (K : KV) : KF := fun fl _ σ1 => match fl with
  | .next => K .none σ1
  | .ret v => K v σ1
  | _ => False
noncomputable def bodyI (I : In) (L0 : Option Loc) (bo : List Stmt) (sc : Scope) (σ : Hp) (K : KV) : Prop :=
  match L0 with
  | some L => cond (plainScope sc && (L.all fun x => ownName sc x.1 && notLam x.2)) (stmtsI (I.ex sc) bo L σ (retK (gcK σ.length K))) False
  | none => False
noncomputable def initName : Str := "__init__"
noncomputable def fnI (I : In) (d : Option (Arguments × List Stmt × Scope)) (vs : List AV) (ks : List (Str × AV)) (σ : Hp) (K : KV) : Prop := match d with
  | some (pa, bo, sc) => cond ks.isEmpty (bodyI I (bindI pa vs) bo sc σ K) False
  | none => False
noncomputable def clsI (I : In) (d : Option (Arguments × List Stmt × Scope)) (vs : List AV) (ks : List (Str × AV)) (σ : Hp) (K : KV) : Prop := match d with
  | some (pa, bo, sc) => bodyI I (bindC pa (.loc σ.length) vs ks) bo sc (σ ++ [.inst []]) fun r σ1 => match r with
      | .none => K (.loc σ.length) σ1
      | _ => False
  | none => False
noncomputable def oneArg (vs : List AV) (K : AV → Prop) : Prop := match vs with
  | [v] => K v
  | _ => False
noncomputable def lenOf (σ : Hp) : AV → Option Nat
  | .loc n => lenAt σ n
  | .fnum n _ => some n
  | _ => none
noncomputable def appK (vs : List AV) (σ : Hp) (K : KV) : Prop := match vs with
  | [.loc n, v] => appendI n v σ fun σ1 => K .none σ1
  | _ => False
noncomputable def dgetK (vs : List AV) (σ : Hp) (K : KV) : Prop := match vs with
  | [d, .int k, u] => dictAtK σ d fun _ es => K ((lookK k es).getD u) σ
  | _ => False
noncomputable def biI (id : String) (vs : List AV) (σ : Hp) (K : KV) : Prop := cond (id == "len") (oneArg vs fun v => someK (lenOf σ v) fun k => K (.int k) σ)
  (cond (id == "list.append") (appK vs σ K) (cond (id == "dict.get") (dgetK vs σ K) False))
noncomputable def caB (G : Pg) (I : In) (f : AV) (vs : List AV) (ks : List (Str × AV)) (σ : Hp) (K : KV) : Prop := match f with
  | .fn x => fnI I (defOf (topFind x G.top)) vs ks σ K
  | .mth x => fnI I (defOf (clsFind x G.body)) vs ks σ K
  | .bm x n => fnI I (defOf (clsFind x G.body)) (.loc n :: vs) ks σ K
  | .cls => clsI I (defOf (clsFind initName G.body)) vs ks σ K
  | .bi id => cond ks.isEmpty (biI id vs σ K) False
  | .ty id => cond (id == "range" && ks.isEmpty) (numK vs fun b => cond (decide (0 ≤ b) && decide (b ≤ 1000000)) (K (.rng 0 b) σ) False) False
  | _ => False
/-- what «o.m(..)» calls -/
noncomputable def isLst (σ : Hp) : AV → Bool
  | .loc n => (match nth σ n with
    | some (.nums _ _) => true
    | some (.list _) => true
    | _ => false)
  | _ => false
noncomputable def calleeI (G : Pg) (v : AV) (m : Str) (σ : Hp) (K : AV → List AV → Prop) : Prop := cond (isLst σ v) (cond (eqS m "append") (K (.bi "list.append") [v]) False)
  (cond (isDict σ v) (cond (eqS m "get") (K (.bi "dict.get") [v]) False)
    (instK σ v fun _ at_ => cond ((lookS m at_).isNone && (defOf (clsFind m G.body)).isSome) (K (.mth m) [v]) False))
noncomputable def andI (ts : Expr → Hp → (Bool → Hp → Prop) → Prop) (op : BoolOp) : List Expr → Hp → (Bool → Hp → Prop) → Prop
  | [], σ, K => K (match op with | .And => true | .Or => false) σ
  | e :: r, σ, K => ts e σ fun b σ1 => match op with
    | .And => cond b (andI ts op r σ1 K) (K false σ1)
    | .Or => cond b (K true σ1) (andI ts op r σ1 K)
/-- a chain of and | or as a value: tests of booleans alone -/
noncomputable def chainI (ev : Expr → Hp → KV → Prop) (op : BoolOp) : List Expr → Hp → KV → Prop
  | [], _, _ => False
  | [e], σ, K => ev e σ K
  | e :: r, σ, K => ev e σ fun v σ1 => truthI v fun b => match op with
    | .And => cond b (chainI ev op r σ1 K) (K v σ1)
    | .Or => cond b (K v σ1) (chainI ev op r σ1 K)
/-- the scope of a comprehension, inside another -/
noncomputable def relI (scope sc : Scope) : Scope := { scope with names := scope.names.map fun (n, k) => cond (k == .free && kindS n sc == some .cell) (n, .cell) (n, k) }
noncomputable def freeL (scope : Scope) (L : Loc) : Loc := scope.names.filterMap fun (n, k) => cond (k == .free) ((lookS n L).map (n, ·)) none
noncomputable def compEv (I : In) (sc : Scope) (scope : Scope) (elt : Expr) (x : Str) (L : Loc) (u : AV) (σ : Hp) (K : KV) : Prop := cond (notLam u) (I.ev (relI scope sc) elt (putS x u (freeL scope L)) σ K) False
noncomputable def noLams (L : Loc) : Bool := L.all fun y => notLam y.2
noncomputable def compI (I : In) (sc : Scope) (elt : Expr) (x : Str) (scope : Scope) (v : AV) (L : Loc) (σ : Hp) (K : KV) : Prop :=
  srcK σ v fun src k σ1 => compLoop src (compEv I sc scope elt x L) σ1.length k 0 (σ1 ++ [.nums 0 (fun _ => 0)]) fun σ2 => K (.loc σ1.length) σ2
noncomputable def isLocalO : Option NameKind → Bool
  | some .local => true
  | _ => false
/-- a comprehension's scope: its own names, free names that the outer frame holds in cells -/
noncomputable def compScope (scope sc : Scope) (x : Str) : Bool := !isW scope && (match scope.kind with | .function => true | _ => false) && isLocalO (kindS x scope) && nodupS (scope.names.map (·.1)) && scope.names.all fun y => match y.2 with
  | .local => true
  | .globalImplicit => true
  | .free => (match kindS y.1 sc with | some .cell => true | _ => false)
  | _ => false
noncomputable def noSet : Expr → Bool
  | .Set _ _ _ => false
  | _ => true
noncomputable def plainBase : Expr → Bool
  | .Name _ _ => true
  | .Attribute _ _ _ => true
  | .Subscript _ _ _ => true
  | _ => false
noncomputable def kwNamed (k : Keyword) : Bool := k.arg.isSome
noncomputable def noStar : Expr → Bool
  | .Starred _ _ => false
  | _ => true
noncomputable def isNameE : Expr → Bool
  | .Name _ _ => true
  | _ => false
noncomputable def nmOf : Expr → Str
  | .Name x _ => x
  | _ => Str.empty
noncomputable def compPat : List Comprehension → Option (Str × Expr)
  | [g] => cond (isNameE g.target && g.ifs.isEmpty && decide (g.is_async = 0)) (some (nmOf g.target, g.iter)) none
  | _ => none
/-- a lambda's one argument -/
noncomputable def lamArgs (pa : Arguments) : Option Str := cond (pa.posonlyargs.isEmpty && pa.kwonlyargs.isEmpty && pa.vararg.isNone && pa.kwarg.isNone && pa.defaults.isEmpty && pa.kw_defaults.isEmpty) (match pa.args with
  | [a] => some a.arg
  | _ => none) none
noncomputable def lamSc (lsc sc : Scope) (x : Str) : Bool := compScope lsc sc x && !lsc.isGenerator && !lsc.isCoroutine
noncomputable def isLamO : Option AV → Bool
  | some (.lam _ _ _ _ _) => true
  | _ => false
noncomputable def isLamF (f : Expr) (L : Loc) : Bool := match f with
  | .Name x _ => isLamO (lookS x L)
  | _ => false
noncomputable def lamK (o : Option AV) (K : Arguments → Expr → Scope → Prop) : Prop := match o with
  | some (.lam _ _ pa lb lsc) => K pa lb lsc
  | _ => False
/-- the call of a lambda, in its own frame -/
noncomputable def lamC (I : In) (sc : Scope) (f : Expr) (args : List Expr) (kws : List Keyword) (L : Loc) (σ : Hp) (K : KV) : Prop :=
  cond (args.all noStar && kws.isEmpty && isLocalO (kindS (nmOf f) sc) && !eqS (nmOf f) debugName) (lamK (lookS (nmOf f) L) fun pa lb lsc => seqI (fun e σ1 K1 => I.ev sc e L σ1 K1) args σ fun vs σ1 =>
    someK (lamArgs pa) fun x => oneArg vs fun v => cond (lamSc lsc sc x && notLam v && noLams (freeL lsc L)) (I.ev lsc lb ((x, v) :: freeL lsc L) σ1 K) False) False
noncomputable def tabAt (pos : Pos) (σ : Hp) : Bool := match nth σ 0 with
  | some (.tab p) => decide (p.line = pos.line) && decide (p.col = pos.col)
  | _ => false
/-- a lambda is made -/
noncomputable def lamI (sc : Scope) (t e : Expr) (L : Loc) (σ : Hp) (K : KF) : Prop := match e with
  | .Lambda pa lb lsc pos => someK (lamArgs pa) fun x => cond (isNameE t && isLocalO (kindS (nmOf t) sc) && isW sc && lamSc lsc sc x && tabAt pos σ) (∀ a cl, K .next (putS (nmOf t) (.lam a cl pa lb lsc) L) σ) False
  | _ => False
noncomputable def isLamE : Expr → Bool
  | .Lambda _ _ _ _ => true
  | _ => false
noncomputable def evB (G : Pg) (I : In) (sc : Scope) (e : Expr) (L : Loc) (σ : Hp) (K : KV) : Prop := match e with
  | .Constant c _ _ => constI c fun v => K v σ
  | .Name x _ => nameI G sc x L fun v => K v σ
  | .BinOp l op r _ => I.ev sc l L σ fun a σ1 => I.ev sc r L σ1 fun b σ2 => binI op a b σ2 K
  | .UnaryOp op x _ => I.ev sc x L σ fun a σ1 => unI op a fun v => K v σ1
  | .Compare l [op] [r] _ => cond (behindInMarks op r) False (I.ev sc l L σ fun a σ1 => I.ev sc r L σ1 fun b σ2 => cmpI op a b σ2 fun t => K (.bool t) σ2)
  | .IfExp t a b _ => I.ts sc t L σ fun c σ1 => cond c (I.ev sc a L σ1 K) (I.ev sc b L σ1 K)
  | .BoolOp op es _ => chainI (fun e σ1 K1 => I.ev sc e L σ1 K1) op es σ K
  | .Attribute o a _ => cond (plainBase o) (I.ev sc o L σ fun v σ1 => attrI G v a σ1 fun u => K u σ1) False
  | .Subscript o (.Slice lo hi none _) _ => I.ev sc o L σ fun v σ1 => optI (fun e σ1 K1 => I.ev sc e L σ1 K1) lo σ1 fun a σ2 => optI (fun e σ1 K1 => I.ev sc e L σ1 K1) hi σ2 fun b σ3 => sliceI G v a b σ3 K
  | .Subscript o i _ => I.ev sc o L σ fun v σ1 => I.ev sc i L σ1 fun w σ2 => itemI G v w σ2 fun u => K u σ2
  | .List es _ => cond (es.all noStar && Nat.blt es.length 1000) (seqI (fun e σ1 K1 => I.ev sc e L σ1 K1) es σ fun vs σ1 => K (.loc σ1.length) (σ1 ++ [mkList vs])) False
  | .Dict [] [] _ => K (.loc σ.length) (σ ++ [.idict none []])
  | .Tuple es _ _ => cond (es.all noStar && Nat.blt es.length 1000) (seqI (fun e σ1 K1 => I.ev sc e L σ1 K1) es σ fun vs σ1 => K (.tup vs) σ1) False
  | .Call (.Attribute o m ap) args kws pos => cond (plainBase o && kws.isEmpty && Nat.beq ap.endLine pos.line && Nat.blt args.length 20 && args.all noStar) (I.ev sc o L σ fun v σ1 => calleeI G v m σ1 fun f first => seqI (fun e σ1 K1 => I.ev sc e L σ1 K1) args σ1 fun vs σ2 => I.ca f (first ++ vs) [] σ2 K) False
  | .Call f args kws _ => cond (isLamF f L) (lamC I sc f args kws L σ K) <| cond (args.all noStar && kws.all kwNamed) ( I.ev sc f L σ fun v σ1 => seqI (fun e σ1 K1 => I.ev sc e L σ1 K1) args σ1 fun vs σ2 => kwI (fun e σ1 K1 => I.ev sc e L σ1 K1) kws σ2 fun ks σ3 => I.ca v vs ks σ3 K) False
  | .ListComp elt gens scope _ => someK (compPat gens) fun q => cond (compScope scope sc q.1 && noSet q.2 && noLams (freeL scope L)) (I.ev sc q.2 L σ fun v σ1 => compI I sc elt q.1 scope v L σ1 K) False
  | _ => False
noncomputable def tsB (G : Pg) (I : In) (sc : Scope) (e : Expr) (L : Loc) (σ : Hp) (K : Bool → Hp → Prop) : Prop := match e with
  | .UnaryOp .Not x _ => I.ts sc x L σ fun b σ1 => K (!b) σ1
  | .BoolOp op es _ => andI (fun e σ1 K1 => I.ts sc e L σ1 K1) op es σ K
  | .IfExp t a b _ => I.ts sc t L σ fun c σ1 => cond c (I.ts sc a L σ1 K) (I.ts sc b L σ1 K)
  | .Compare l [op] [r] _ => cond (behindInMarks op r) False (I.ev sc l L σ fun a σ1 => I.ev sc r L σ1 fun b σ2 => cmpI op a b σ2 fun t => K t σ2)
  | .Compare _ _ _ _ => False
  | e => I.ev sc e L σ fun v σ1 => truthI v fun b => K b σ1
noncomputable def storeI (sc : Scope) (x : Str) (v : AV) (L : Loc) (K : Loc → Prop) : Prop := cond (notLam v) (match kindS x sc with
  | some .local => K (putS x v L)
  | some .cell => K (putS x v L)
  | _ => False) False
noncomputable def tupVK (v : AV) (K : List AV → Prop) : Prop := match v with
  | .tup vs => K vs
  | _ => False
noncomputable def asg1 (I : In) (sc : Scope) (t : Expr) (v : AV) (L : Loc) (σ : Hp) (K : Loc → Hp → Prop) : Prop := match t with
  | .Name x _ => storeI sc x v L fun L1 => K L1 σ
  | .Attribute o a _ => I.ev sc o L σ fun u σ1 => setAttrI u a v σ1 fun σ2 => K L σ2
  | .Subscript o (.Slice lo hi none _) _ => I.ev sc o L σ fun u σ1 => optI (fun e σ1 K1 => I.ev sc e L σ1 K1) lo σ1 fun a σ2 => optI (fun e σ1 K1 => I.ev sc e L σ1 K1) hi σ2 fun b σ3 => setSliceI u a b v σ3 fun σ4 => K L σ4
  | .Subscript _ (.Slice _ _ _ _) _ => False
  | .Subscript o i _ => I.ev sc o L σ fun u σ1 => I.ev sc i L σ1 fun w σ2 => setItemI u w v σ2 fun σ3 => K L σ3
  | _ => False
noncomputable def asgs (I : In) (sc : Scope) : List Expr → List AV → Loc → Hp → (Loc → Hp → Prop) → Prop
  | [], [], L, σ, K => K L σ
  | t :: ts, v :: vs, L, σ, K => asg1 I sc t v L σ fun L1 σ1 => asgs I sc ts vs L1 σ1 K
  | _, _, _, _, _ => False
noncomputable def noStarT : Expr → Bool
  | .Starred _ _ => false
  | _ => true
noncomputable def asgI (I : In) (sc : Scope) (t : Expr) (v : AV) (L : Loc) (σ : Hp) (K : Loc → Hp → Prop) : Prop := match t with
  | .Tuple ts _ _ => tupVK v fun vs => cond (ts.all noStarT && Nat.beq ts.length vs.length) (asgs I sc ts vs L σ K) False
  | t => asg1 I sc t v L σ K
noncomputable def forI (I : In) (sc : Scope) (t : Expr) (bo : List Stmt) (v : AV) (L : Loc) (σ : Hp) (K : KF) : Prop :=
  srcK σ v fun src k σ1 => genLoop src (bodyD (nmOf t) (stmtsI (I.ex sc) bo)) (asgI I sc t) k 0 L σ1 K
noncomputable def callish : Expr → Bool
  | .Call _ _ _ _ => true
  | _ => false
noncomputable def noComp : Expr → Bool
  | .ListComp _ _ _ _ => false
  | .SetComp _ _ _ _ => false
  | .DictComp _ _ _ _ _ => false
  | _ => true
noncomputable def isName : Expr → Bool
  | .Name _ _ => true
  | _ => false
noncomputable def noSwap : Expr → Expr → Bool
  | .Tuple (t :: _) _ _, .Tuple _ _ _ => !isName t
  | .List _ _, _ => false
  | _, _ => true
noncomputable def isTup : Expr → Bool
  | .Tuple _ _ _ => true
  | _ => false
noncomputable def isStar : Expr → Bool
  | .Starred _ _ => true
  | _ => false
noncomputable def locAt (kd : Str → Option NameKind) (line : Nat) : Expr → Option Str
  | .Name id pos => if kd id == some .local && pos.line == line then some id else none
  | _ => none
noncomputable def namesAt (kd : Str → Option NameKind) (ts : List Expr) : List Str := ts.filterMap (locAt kd ((ts.head?.map (·.pos.line)).getD 0))
noncomputable def swapL (sc : Scope) (ts vs : List Expr) : Option (List Str) :=
  cond (!(ts.length == 2 || ts.length == 3) || vs.length != ts.length) none (cond (vs.any isStar) none (cond ((namesAt (fun n => kindS n sc) ts).length != ts.length || (namesAt (fun n => kindS n sc) ts).eraseDups.length != (namesAt (fun n => kindS n sc) ts).length) none
    (cond (vs.all (foldedForSure 8)) none (cond (vs.all (constantsAlone 8)) none (some (namesAt (fun n => kindS n sc) ts))))))
/-- the names of «a, b = x, y» that are stored from behind -/
noncomputable def swapN (sc : Scope) (t e : Expr) : Option (List Str) := match t with
  | .Tuple ts _ _ => (match e with
    | .Tuple vs _ _ => swapL sc ts vs
    | _ => none)
  | _ => none
noncomputable def optK {α : Type} (o : Option α) (a : Prop) (f : α → Prop) : Prop := match o with
  | none => a
  | some x => f x
noncomputable def storesI (sc : Scope) : List Str → List AV → Loc → (Loc → Prop) → Prop
  | [], [], L, K => K L
  | x :: r, v :: s, L, K => storeI sc x v L fun L1 => storesI sc r s L1 K
  | _, _, _, _ => False
noncomputable def exB (G : Pg) (I : In) (sc : Scope) (st : Stmt) (L : Loc) (σ : Hp) (K : KF) : Prop := match st with
  | .Expr e _ => cond (callish e) (I.ev sc e L σ fun _ σ1 => K .next L σ1) False
  | .Pass _ => K .next L σ
  | .Break _ => K .brk L σ
  | .Return (some e) _ => I.ev sc e L σ fun v σ1 => K (.ret v) L σ1
  | .Return none _ => K (.ret .none) L σ
  | .Assign [t] e _ => cond (noComp e && noStarT t) (cond (isLamE e) (lamI sc t e L σ K) <| optK (swapN sc t e) (cond (noSwap t e) (I.ev sc e L σ fun v σ1 => asgI I sc t v L σ1 fun L1 σ2 => K .next L1 σ2) False)
      fun ns => I.ev sc e L σ fun v σ1 => tupVK v fun vs => storesI sc ns.reverse vs.reverse L fun L1 => K .next L1 σ1) False
  | .AugAssign (.Name x _) op e _ => nameI G sc x L fun a => I.ev sc e L σ fun b σ1 => inplI op a b σ1 fun v σ2 => storeI sc x v L fun L1 => K .next L1 σ2
  | .AugAssign (.Attribute o a _) op e _ => I.ev sc o L σ fun u σ1 => attrI G u a σ1 fun v => I.ev sc e L σ1 fun w σ2 => inplI op v w σ2 fun r σ3 => setAttrI u a r σ3 fun σ4 => K .next L σ4
  | .If t b o _ => I.ts sc t L σ fun c σ1 => cond c (stmtsI (I.ex sc) b L σ1 K) (stmtsI (I.ex sc) o L σ1 K)
  | .While t bo [] _ => whileLoop (fun L σ K => I.ts sc t L σ K) (stmtsI (I.ex sc) bo) 1000 L σ K
  | .For t it bo [] _ => cond (isName t && noSet it) (I.ev sc it L σ fun v σ1 => forI I sc t bo v L σ1 K) False
  | _ => False
noncomputable def mkIn (G : Pg) (I : In) : In := ⟨evB G I, tsB G I, caB G I, exB G I⟩
noncomputable def inN (G : Pg) : Nat → In
  | 0 => inFail
  | n + 1 => mkIn G (inN G n)
end Mine
end
section
set_option maxRecDepth 100000
set_option linter.unusedVariables false
open PySem PySem.W PyProof.Rows PySem.Claim2Try PySem.Pin
namespace Mine

noncomputable def no : Value → Shared → Prop := fun _ _ => False
noncomputable def PV (B : Bs) (ρ : Rho) (h : Heap) (K : KV) : Value → Shared → Prop := fun w s' => ∃ v σ' ρ', RepV B s'.heap ρ' v w ∧ St B ρ' σ' s' ∧ Ext [] h ρ s'.heap ρ' ∧ K v σ'
noncomputable def PB (B : Bs) (ρ : Rho) (h : Heap) (K : Bool → Hp → Prop) : Bool → Shared → Prop := fun b s' => ∃ σ' ρ', St B ρ' σ' s' ∧ Ext [] h ρ s'.heap ρ' ∧ K b σ'
inductive RepF (B : Bs) (h : Heap) (ρ : Rho) : AF → Flow → Prop
  | next : RepF B h ρ .next .next
  | brk : RepF B h ρ .brk .brk
  | cont : RepF B h ρ .cont .cont
  | ret {v : AV} {w : Value} : RepV B h ρ v w → RepF B h ρ (.ret v) (.ret w)
noncomputable def PF (B : Bs) (ρ : Rho) (h : Heap) (env : Env) (K : KF) : Flow → Shared → Prop := fun f s' => ∃ fl L' σ' ρ', RepF B s'.heap ρ' fl f ∧ St B ρ' σ' s' ∧ Lo B env L' ρ' s'.heap ∧ Ext (fr env) h ρ s'.heap ρ' ∧ K fl L' σ'
noncomputable def PU (B : Bs) (ρ : Rho) (h : Heap) (env : Env) (K : Loc → Hp → Prop) : Unit → Shared → Prop := fun _ s' => ∃ L' σ' ρ', St B ρ' σ' s' ∧ Lo B env L' ρ' s'.heap ∧ Ext (fr env) h ρ s'.heap ρ' ∧ K L' σ'

/-- room for d more calls -/
structure AOk (d : Nat) (A : Around) : Prop where
  depth : A.depth + 2 * d ≤ 900
  units : A.units + 8 * d ≤ 9000
  handled : A.handled = none
structure EnvOk (env : Env) (sc : Scope) : Prop where
  scope : env.scope = sc
  kind : sc.kind = .function
  glob : env.globals = mainGlobals
  blt : env.builtins = builtinsNs
theorem EnvOk.kindOf {env : Env} {sc : Scope} (x : EnvOk env sc) (n : Str) : env.kindOf n = kindS n sc := by
  unfold Env.kindOf kindS
  rw [x.scope]
  induction sc.names with
  | nil => rfl
  | cons y r ih =>
    obtain ⟨y, k⟩ := y
    show List.lookup n ((y, k) :: r) = cond (eqS n y) (some k) (lookS n r)
    rw [List.lookup_cons]
    cases h : eqS n y with
    | true => rw [eqS_iff.mp h]; simp
    | false => rw [show (n == y) = false from beq_eq_false_iff_ne.mpr (eqS_ne h)]; exact ih
theorem ne_debug {x : Str} (h : eqS x debugName = false) : (x == ("__debug__" : Str)) = false := beq_eq_false_iff_ne.mpr (eqS_ne h)

/-- what the class has under a name -/
noncomputable abbrev ClsFact (B : Bs) : Stmt → Value → Prop := Made B.h0 0 "MPU" B.l
/-- the one function with a lambda: its code -/
noncomputable def FnW (B : Bs) (v : Value) : Prop := ∃ a fd, v = .ref a ∧ B.h0.get? a = some { cls := .type "function", data := .func fd } ∧ fd.code = .ref B.cw ∧ (fd.qualname ++ ".<locals>.") ++ "<lambda>" = B.wq
inductive ClsC (B : Bs) (o : Option Obj) : Prop
  | mk (nm q : Str) (sub : List Value) (col : Option Bool) (k0 k1 k2 k3 k5 : Option Value) (e : o = some (excClassObj nm q B.C B.N [.type "object"] [.type "object"] true [] sub false col none k0 k1 k2 k3 k5 "object.__new__")) : ClsC B o
structure Ok (B : Bs) (G : Pg) : Prop where
  glob : B.hb.Ns mainGlobals B.mg
  blt : B.hb.Ns builtinsNs B.mb
  lim : B.hb.NoLimit
  fn : ∀ x pa bo sc, defOf (topFind x G.top) = some (pa, bo, sc) → ∃ v n, B.mg x = some v ∧ FnAt B.h0 0 v n n pa bo sc ∧ isW sc = false
  cls : ∀ x, isClsO (topFind x G.top) = true → B.mg x = some (.ref B.C)
  len : topFind "len" G.top = none → B.mg "len" = none ∧ B.mb "len" = some (.builtin "len")
  range : topFind "range" G.top = none → B.mg "range" = none ∧ B.mb "range" = some (.type "range")
  enum : topFind "enumerate" G.top = none → B.mg "enumerate" = none ∧ B.mb "enumerate" = some (.type "enumerate")
  cobj : ClsC B (B.hb.get? B.C)
  names : NsL B.hb B.N B.l
  mem : ∀ x st, clsFind x G.body = some st → ∃ v, B.l.lookup x = some v ∧ ClsFact B st v
  plain : ∀ x st, clsFind x G.body = some st → copiedNames.contains x = false
  ivar : ∀ a, memS a ivars = true → B.l.lookup a = none ∧ fastBuiltinOwn "object" a = none ∧ typeLookup (.type "object") a = pure none ∧ copiedNames.contains a = false
  hooks : B.l.lookup (Str.ofString "__getattribute__") = none ∧ B.l.lookup (Str.ofString "__getattr__") = none ∧ B.l.lookup (Str.ofString "__setattr__") = none
  scr : ∃ its, B.hb.IsList B.scr its ∧ its.size = G.slen ∧ G.slen ≤ 1000000 ∧ ∀ i, i < G.slen → ∃ t, its[i]? = some (.int (G.scr i) t)
  lift : ∀ b o, o.cls ≠ .none → B.h0.get? b = some o → B.hb.get? b = some o
  wrap : ∀ x pa bo sc v, defOf (clsFind x G.body) = some (pa, bo, sc) → isW sc = true → B.l.lookup x = some v → FnW B v
  tab : CodeHd B.hb B.cw B.tb
  blm : B.hb.BuiltinsAt B.mg B.tb

theorem condF {b : Bool} {p : Prop} (k : cond b p False) : b = true ∧ p := by cases b with | true => exact ⟨rfl, k⟩ | false => exact k.elim
theorem condT {b : Bool} {p : Prop} (k : cond b False p) : b = false ∧ p := by cases b with | false => exact ⟨rfl, k⟩ | true => exact k.elim
theorem condB {b : Bool} {p q : Prop} (k : cond b p q) : p ∨ q := by cases b with | true => exact .inl k | false => exact .inr k
theorem someK_inv {α : Type} {o : Option α} {K : α → Prop} (k : someK o K) : ∃ x, o = some x ∧ K x := by
  cases o with
  | some x => exact ⟨x, rfl, k⟩
  | none => exact False.elim k
theorem locK_inv {vs : List AV} {K : Nat → Prop} (k : locK vs K) : ∃ n, vs = [.loc n] ∧ K n := by
  cases vs with
  | nil => exact False.elim k
  | cons v r =>
    cases r with
    | nil =>
      cases v with
      | loc n => exact ⟨n, rfl, k⟩
      | _ => exact False.elim k
    | cons _ _ => exact False.elim (by cases v <;> exact k)
theorem numK_inv {vs : List AV} {K : Int → Prop} (k : numK vs K) : ∃ n, vs = [.int n] ∧ K n := by
  cases vs with
  | nil => exact False.elim k
  | cons v r =>
    cases r with
    | nil =>
      cases v with
      | int n => exact ⟨n, rfl, k⟩
      | _ => exact False.elim k
    | cons _ _ => exact False.elim (by cases v <;> exact k)
inductive MethR (B : Bs) (x : Str) (pa : Arguments) (bo : List Stmt) (sc : Scope) : Prop
  | mk (v : Value) (n q : Str) (hl : B.l.lookup x = some v) (fn : FnAt B.h0 0 v n q pa bo sc) (hw : isW sc = true → FnW B v) : MethR B x pa bo sc
theorem Ok.meth {B : Bs} {G : Pg} (ok : Ok B G) {x : Str} {pa : Arguments} {bo : List Stmt} {sc : Scope} (h : defOf (clsFind x G.body) = some (pa, bo, sc)) : MethR B x pa bo sc := by
  cases hst : clsFind x G.body with
  | none => rw [hst] at h; cases h
  | some st =>
    rw [hst] at h
    obtain ⟨v, hl, m⟩ := ok.mem x st hst
    cases m with
    | asg _ => cases h
    | lst _ _ _ => cases h
    | fn f => exact match h with | rfl => ⟨v, _, _, hl, f, fun e => ok.wrap x _ _ _ v (by rw [hst]; rfl) e hl⟩
inductive FnRef (h : Heap) (v : Value) : Prop
  | mk (a : Addr) (o : Obj) (fd : FuncData) (e : v = .ref a) (ha : h.get? a = some o) (hc : o.cls = .type "function") (hd : o.data = .func fd) : FnRef h v
theorem FnAt.ref {h : Heap} {lo : Nat} {v : Value} {name qual : Str} {pa : Arguments} {bo : List Stmt} {sc : Scope} (fn : FnAt h lo v name qual pa bo sc) : FnRef h v := by
  obtain ⟨a, dV, pm, c, doc, P, dv, rfl, _, _, _, hf, _⟩ := fn
  exact ⟨a, _, _, rfl, hf, rfl, rfl⟩
theorem ty_none (T : String) : Value.type T ≠ .none := fun e => nomatch e
/-- what stands in the first heap, but the tables, stands in the kept one -/
theorem Ok.ref {B : Bs} {G : Pg} (ok : Ok B G) {v : Value} {name qual : Str} {pa : Arguments} {bo : List Stmt} {sc : Scope} (fn : FnAt B.h0 0 v name qual pa bo sc) : FnRef B.hb v := by
  obtain ⟨a, o, fd, e, h1, h2, h3⟩ := fn.ref
  exact ⟨a, o, fd, e, ok.lift a o (by rw [h2]; exact fun e => nomatch e) h1, h2, h3⟩
section
variable {prog : Program} {w : World} {B : Bs} {G : Pg} {A : Around} {env : Env} {sc : Scope} {ρ ρ' : Rho} {σ : Hp} {s : Shared} {L : Loc} {h : Heap}
theorem PV.up {K : KV} {h1 : Heap} {ρ1 : Rho} {v : Value} {s' : Shared} (e : Ext [] h ρ h1 ρ1) (x : PV B ρ1 h1 K v s') : PV B ρ h K v s' := by
  obtain ⟨a, σ', ρ', r, S, e2, k⟩ := x
  exact ⟨a, σ', ρ', r, S, e.trans e2, k⟩
theorem PB.up {K : Bool → Hp → Prop} {h1 : Heap} {ρ1 : Rho} {v : Bool} {s' : Shared} (e : Ext [] h ρ h1 ρ1) (x : PB B ρ1 h1 K v s') : PB B ρ h K v s' := by
  obtain ⟨σ', ρ', S, e2, k⟩ := x
  exact ⟨σ', ρ', S, e.trans e2, k⟩
theorem PF.up {K : KF} {h1 : Heap} {ρ1 : Rho} {v : Flow} {s' : Shared} (e : Ext (fr env) h ρ h1 ρ1) (x : PF B ρ1 h1 env K v s') : PF B ρ h env K v s' := by
  obtain ⟨a, b, σ', ρ', r, S, l, e2, k⟩ := x
  exact ⟨a, b, σ', ρ', r, S, l, e.trans e2, k⟩
theorem PU.up {K : Loc → Hp → Prop} {h1 : Heap} {ρ1 : Rho} {v : Unit} {s' : Shared} (e : Ext (fr env) h ρ h1 ρ1) (x : PU B ρ1 h1 env K v s') : PU B ρ h env K v s' := by
  obtain ⟨b, σ', ρ', S, l, e2, k⟩ := x
  exact ⟨b, σ', ρ', S, l, e.trans e2, k⟩
theorem Ext.loc {X : List Addr} {h h' : Heap} {ρ ρ' : Rho} (e : Ext [] h ρ h' ρ') : Ext X h ρ h' ρ' := e.mono fun _ q => nomatch q
/-- one value, then the rest -/
theorem wpAny_then {α : Type} {M : Model} {t : Sem Value} {f : Value → Sem α} {K : KV} {Q : α → Shared → Prop} (a : wpAny M A t (PV B ρ h K) no s)
    (b : ∀ v w σ1 ρ1 s1, RepV B s1.heap ρ1 v w → St B ρ1 σ1 s1 → Ext [] h ρ s1.heap ρ1 → K v σ1 → wpAny M A (f w) Q no s1) : wpAny M A (t >>= f) Q no s :=
  wpAny_bind (wpAny_mono a (fun w s1 ⟨v, σ1, ρ1, r, S, e, k⟩ => b v w σ1 ρ1 s1 r S e k) fun _ _ x => x)
theorem wpAny_got {M : Model} {t : Sem Value} {K : KV} {Q : Value → Shared → Prop} (a : wpAny M A t (PV B ρ h K) no s)
    (b : ∀ v w σ1 ρ1 s1, RepV B s1.heap ρ1 v w → St B ρ1 σ1 s1 → Ext [] h ρ s1.heap ρ1 → K v σ1 → Q w s1) : wpAny M A t Q no s :=
  wpAny_mono a (fun w s1 ⟨v, σ1, ρ1, r, S, e, k⟩ => b v w σ1 ρ1 s1 r S e k) fun _ _ x => x
theorem wpAny_gotB {M : Model} {t : Sem Bool} {K : Bool → Hp → Prop} {Q : Bool → Shared → Prop} (a : wpAny M A t (PB B ρ h K) no s)
    (b : ∀ c σ1 ρ1 s1, St B ρ1 σ1 s1 → Ext [] h ρ s1.heap ρ1 → K c σ1 → Q c s1) : wpAny M A t Q no s :=
  wpAny_mono a (fun w s1 ⟨σ1, ρ1, S, e, k⟩ => b w σ1 ρ1 s1 S e k) fun _ _ x => x
theorem wpAny_gotF {M : Model} {t : Sem Flow} {K : KF} {Q : Flow → Shared → Prop} (a : wpAny M A t (PF B ρ h env K) no s)
    (b : ∀ fl f L1 σ1 ρ1 s1, RepF B s1.heap ρ1 fl f → St B ρ1 σ1 s1 → Lo B env L1 ρ1 s1.heap → Ext (fr env) h ρ s1.heap ρ1 → K fl L1 σ1 → Q f s1) : wpAny M A t Q no s :=
  wpAny_mono a (fun w s1 ⟨fl, L1, σ1, ρ1, r, S, l, e, k⟩ => b fl w L1 σ1 ρ1 s1 r S l e k) fun _ _ x => x
theorem wpAny_gotU {M : Model} {t : Sem Unit} {K : Loc → Hp → Prop} {Q : Unit → Shared → Prop} (a : wpAny M A t (PU B ρ h env K) no s)
    (b : ∀ L1 σ1 ρ1 s1, St B ρ1 σ1 s1 → Lo B env L1 ρ1 s1.heap → Ext (fr env) h ρ s1.heap ρ1 → K L1 σ1 → Q () s1) : wpAny M A t Q no s :=
  wpAny_mono a (fun w s1 ⟨L1, σ1, ρ1, S, l, e, k⟩ => b L1 σ1 ρ1 s1 S l e k) fun _ _ x => x
theorem PV.of {K : KV} {v : AV} {w : Value} {s' : Shared} (r : RepV B s'.heap ρ' v w) (S : St B ρ' σ s') (e : Ext [] h ρ s'.heap ρ') (k : K v σ) : PV B ρ h K w s' := ⟨v, σ, ρ', r, S, e, k⟩

theorem sound_const {c : Const} {n : Nat} {pos : Pos} {K : KV} (k : constI c fun v => K v σ) (S : St B ρ σ s) : wpAny (model prog w) A (eval (.Constant c n pos) env) (PV B ρ s.heap K) no s := by
  cases c with
  | none => exact wpAny_pure (PV.of .none S (.refl ..) k)
  | bool b => exact wpAny_pure (PV.of (.bool b) S (.refl ..) k)
  | int i => exact wpAny_Constant_int (PV.of (.int i _) (S.toks) (.refl ..) k)
  | str x => exact Calls.Constant_str (PV.of (.str x _) (S.toks) (.refl ..) k)
  | float _ => exact k.elim
  | complex _ _ => exact k.elim
  | bytes _ => exact k.elim
  | ellipsis => exact k.elim
theorem localI_inv {x : Str} {o : Option AV} {K : AV → Prop} (k : localI x o K) : ∃ v, o = some v ∧ eqS x debugName = false ∧ K v := by
  cases o with
  | none => exact False.elim k
  | some v =>
    obtain ⟨hd, k⟩ := condT k
    exact ⟨v, rfl, hd, k⟩
theorem sound_load {x : Str} {K : AV → Prop} {Q : Value → Shared → Prop} (ok : Ok B G) (k : nameI G sc x L K) (eo : EnvOk env sc) (S : St B ρ σ s) (l : Lo B env L ρ s.heap) (q : ∀ v w, RepV B s.heap ρ v w → K v → Q w s) :
    wpAny (model prog w) A (loadName env x) Q no s ∧ eqS x debugName = false := by
  unfold nameI at k
  cases hk : kindS x sc with
  | none => rw [hk] at k; exact k.elim
  | some kd =>
    rw [hk] at k
    cases kd with
    | «local» =>
      obtain ⟨v, hv, hd, k⟩ := localI_inv k
      obtain ⟨m, hn, hm⟩ := l.ns
      obtain ⟨u, hu, r⟩ := hm x v hv ((eo.kindOf x).trans hk)
      exact ⟨wpAny_loadName_local (eo.scope ▸ eo.kind) ((eo.kindOf x).trans hk) hn hu (q v u r k), hd⟩
    | cell =>
      obtain ⟨v, hv, hd, k⟩ := localI_inv k
      obtain ⟨c, u, h1, h2, r⟩ := l.cell x v hv (by rw [eo.kindOf, hk]; decide)
      exact ⟨wpAny_loadName_cell (eo.scope ▸ eo.kind) ((eo.kindOf x).trans hk) h1 h2 (q v u r k), hd⟩
    | free =>
      obtain ⟨hcd, k⟩ := condT k
      obtain ⟨v, hv, hd, k⟩ := localI_inv k
      obtain ⟨c, u, h1, h2, r⟩ := l.cell x v hv (by rw [eo.kindOf, hk]; decide)
      exact ⟨wpAny_loadName_free (eo.scope ▸ eo.kind) ((eo.kindOf x).trans hk) h1 h2 (q v u r k) (beq_eq_false_iff_ne.mpr (eqS_ne hcd)), hd⟩
    | globalImplicit =>
      obtain ⟨hd, k⟩ := condT k
      refine ⟨?_, hd⟩
      rw [loadName_read (eo.scope ▸ eo.kind) ((eo.kindOf x).trans hk)]
      have hg : s.heap.Ns env.globals B.mg := by rw [eo.glob]; exact ok.glob.keeps S.keep
      have hb : s.heap.Ns env.builtins B.mb := by rw [eo.blt]; exact ok.blt.keeps S.keep
      unfold globI at k
      cases h1 : (defOf (topFind x G.top)).isSome with
      | true =>
        rw [h1] at k
        obtain ⟨⟨pa, bo, sc'⟩, hd⟩ := Option.isSome_iff_exists.mp h1
        obtain ⟨v, _, hv, _⟩ := ok.fn _ _ _ _ hd
        exact Calls.loadGlobal_global hg hv (q _ v (.fn x v hv) k)
      | false =>
        rw [h1] at k
        cases h2 : isClsO (topFind x G.top) with
        | true => rw [h2] at k; exact Calls.loadGlobal_global hg (ok.cls _ h2) (q _ _ .cls k)
        | false =>
          rw [h2] at k
          obtain ⟨ht, k⟩ := condF k
          have ht := Option.isNone_iff_eq_none.mp ht
          have k : globB x K := k
          unfold globB at k
          cases h1 : eqS x "len" with
          | true =>
            rw [h1] at k
            rw [eqS_iff.mp h1] at ht ⊢
            exact Calls.loadGlobal_builtin hg (ok.len ht).1 hb (ok.len ht).2 (q _ _ (.bi _) k)
          | false =>
            rw [h1] at k
            cases h2 : eqS x "range" with
            | true =>
              rw [h2] at k
              rw [eqS_iff.mp h2] at ht ⊢
              exact Calls.loadGlobal_builtin hg (ok.range ht).1 hb (ok.range ht).2 (q _ _ (.ty _) k)
            | false =>
              rw [h2] at k
              obtain ⟨h3, k⟩ := condF k
              rw [eqS_iff.mp h3] at ht ⊢
              exact Calls.loadGlobal_builtin hg (ok.enum ht).1 hb (ok.enum ht).2 (q _ _ (.ty _) k)
    | _ => exact k.elim
theorem sound_name {x : Str} {pos : Pos} {K : KV} (ok : Ok B G) (k : nameI G sc x L fun v => K v σ) (eo : EnvOk env sc) (S : St B ρ σ s) (l : Lo B env L ρ s.heap) :
    wpAny (model prog w) A (eval (.Name x pos) env) (PV B ρ s.heap K) no s := by
  obtain ⟨a, b⟩ := sound_load (prog := prog) (w := w) (A := A) (Q := PV B ρ s.heap K) ok k eo S l fun v u r kk => PV.of r S (.refl ..) kk
  exact wpAny_Name a (ne_debug b)

/-- two numbers -/
theorem small_lt {a : Int} (h : small a = true) : a.natAbs < 2 ^ 64 := of_decide_eq_true h
theorem sound_arith {op : Operator} {x y : Int} {t u : Tok} {K : Int → Prop} {Q : Value → Shared → Prop} (k : arithI op x y K) (q : ∀ z, K z → Q (.int z s.toks) { s with toks := s.toks + 1 }) :
    wpAny (model prog w) A (binaryOp op (.int x t) (.int y u)) Q no s := by
  cases op with
  | Add => exact PyProof.Rows.add_int (q _ k)
  | Sub => exact PyProof.Rows.sub_int (q _ k)
  | Mult =>
    have k : cond (small x && small y) (K (x * y)) False := k
    cases hs : small x && small y with
    | false => rw [hs] at k; exact k.elim
    | true =>
      rw [hs] at k
      rw [Bool.and_eq_true] at hs
      have h1 := small_lt hs.1
      have h2 := small_lt hs.2
      exact mul_int (q _ k) (by mul_fits)
  | BitAnd => exact and_int (q _ k)
  | BitOr => exact or_int (q _ k)
  | BitXor => exact xor_int (q _ k)
  | LShift =>
    have k : cond (decide (0 ≤ y) && decide (y ≤ 1000000) && small x) (K (x * 2 ^ y.toNat)) False := k
    cases hs : decide (0 ≤ y) && decide (y ≤ 1000000) && small x with
    | false => rw [hs] at k; exact k.elim
    | true =>
      rw [hs] at k
      simp only [Bool.and_eq_true, decide_eq_true_eq] at hs
      exact lshift_int_small hs.1.1 hs.1.2 (small_lt hs.2) (q _ k)
  | RShift =>
    have k : cond (decide (0 ≤ y)) (K (x.fdiv (2 ^ y.toNat))) False := k
    cases hs : decide (0 ≤ y) with
    | false => rw [hs] at k; exact k.elim
    | true => rw [hs] at k; exact rshift_int (of_decide_eq_true hs) (q _ k)
  | FloorDiv =>
    have k : cond (decide (y = 0) || !decide (y.natAbs < 1073741824)) False (K (x.fdiv y)) := k
    cases hs : decide (y = 0) || !decide (y.natAbs < 1073741824) with
    | true => rw [hs] at k; exact k.elim
    | false =>
      rw [hs] at k
      simp only [Bool.or_eq_false_iff, decide_eq_false_iff_not, Bool.not_eq_false', decide_eq_true_eq] at hs
      exact floordiv_int hs.1 (q _ k) (Or.inl (PyProof.noPylong_small hs.2))
  | Mod =>
    have k : cond (decide (y = 0)) False (K (x.fmod y)) := k
    cases hs : decide (y = 0) with
    | true => rw [hs] at k; exact k.elim
    | false => rw [hs] at k; exact mod_int' (of_decide_eq_false hs) (q _ k)
  | Pow =>
    have k : cond (decide (0 ≤ y) && decide (y ≤ 1000000) && small x) (K (x ^ y.toNat)) False := k
    cases hs : decide (0 ≤ y) && decide (y ≤ 1000000) && small x with
    | false => rw [hs] at k; exact k.elim
    | true =>
      rw [hs] at k
      simp only [Bool.and_eq_true, decide_eq_true_eq] at hs
      exact pow_int_small hs.1.1 hs.1.2 (small_lt hs.2) (q _ k)
  | MatMult => exact k.elim
  | Div => exact k.elim
end
end Mine
end
section
set_option maxRecDepth 100000
set_option linter.unusedVariables false
open PySem PySem.W PyProof.Rows PySem.Claim2Try PySem.Pin
namespace Mine
section
variable {prog : Program} {w : World} {A : Around} {E : Value → Shared → Prop} {s : Shared}
theorem isList_x {h : Heap} {l : Addr} {its : Array Value} {e : Nat} (ho : h.get? l = some (listOf its e)) : h.IsList l its := ⟨_, ho, rfl, e, rfl⟩
/-- a store into a list, told whole -/
theorem setItem_x {l : Addr} {its : Array Value} {e : Nat} {k : Int} {t : Tok} {v : Value} {Q : Unit → Shared → Prop} (ho : s.heap.get? l = some (listOf its e)) (h0 : 0 ≤ k) (hn : k < its.size) (hs : its.size ≤ 1000000)
    (hQ : ∀ h' e', h'.get? l = some (listOf (its.setIfInBounds k.toNat v) e') → Heap.SameBut l s.heap h' → Q () { s with heap := h' }) : wpAny (model prog w) A (setItem (.ref l) (.int k t) v) Q E s := by
  have hl := isList_x ho
  unfold setItem
  try with_reducible refine wpAny_holding ?_
  first | refine wpAny_bind (wpAny_pure ?_) | skip
  refine wpAny_bind (wpAny_sequenceKey hl.typeIs (by decide) ?_)
  refine wpAny_bind (wpAny_callSpecial?_slot (name := Str.ofString "__setitem__") hl.typeIs slot_list_setitem
    (wpAny_call_entry slot_list_setitem hl.typeIs entry_list_setitem ?_ (args_list_setitem _ _ _)))
  show wpAny _ _ (Builtin.List.listSubscript? (.int k t) >>= _) _ _ s
  refine wpAny_bind (wpAny_listSubscript_int (fitsIndex_of h0 (by omega)) ?_)
  obtain ⟨j, rfl⟩ := Int.eq_ofNat_of_zero_le h0
  have hj : j < its.size := by omega
  show wpAny _ _ ((seqItemAt l j >>= fun r => pure (r.map (j, ·))) >>= _) _ _ s
  refine wpAny_bind (wpAny_bind (wpAny_seqItemAt ho rfl (wpAny_pure ?_)))
  rw [Array.getElem?_eq_getElem hj]
  show wpAny _ _ (setSeqItemAt l j v >>= _) _ _ s
  refine wpAny_bind (wpAny_setSeqItemAt ho rfl ?_)
  have fin : (s.heap.update l (Obj.mapSeq (·.setIfInBounds j v))).get? l = some (listOf (its.setIfInBounds j v) _) := Heap.get?_update_self _ ho rfl
  first
    | exact wpAny_bind (wpAny_pure (wpAny_pure ⟨.none, rfl, wpAny_pure (hQ _ _ fin (Heap.SameBut.update ..))⟩))
    | exact wpAny_pure ⟨.none, rfl, wpAny_pure (hQ _ _ fin (Heap.SameBut.update ..))⟩
theorem concat_x {l b : Addr} {its jts : Array Value} {e f : Nat} {Q : Value → Shared → Prop} (ho : s.heap.get? l = some (listOf its e)) (hb : s.heap.get? b = some (listOf jts f)) (hs : its.size + jts.size ≤ 1000000)
    (hQ : Q (.ref s.heap.objs.size) { s with heap := s.heap.push (listOf (its ++ jts) 0) }) : wpAny (model prog w) A (binaryOp .Add (.ref l) (.ref b)) Q E s :=
  PySem.concat_meets ⟨_, ho, rfl⟩ ⟨_, hb, rfl⟩ noFill_list_add seq_list_add PySem.F.slot_list_add PySem.F.entry_list_add (PySem.F.args_list_add_2 _ _) (list_addW l b its jts e f none none #[] #[] (by rw [sizeLine]; omega)) ⟨ho, hb, hQ⟩
theorem mul_x {l : Addr} {its : Array Value} {e : Nat} {x : Int} {u : Tok} {Q : Value → Shared → Prop} (ho : s.heap.get? l = some (listOf its e)) (h0 : 0 ≤ x) (hs : its.size * x.toNat ≤ 1000000) (hx : x ≤ 1000000)
    (hQ : Q (.ref s.heap.objs.size) { s with heap := s.heap.push (listOf (List.foldl (fun x1 x2 => x1 ++ x2) #[] (List.replicate (if its.isEmpty = true then 0 else x.toNat) its)) 0) }) :
    wpAny (model prog w) A (binaryOp .Mult (.ref l) (.int x u)) Q E s :=
  wpAny_binaryOp_repeat_ref (T := "list") (U := "int") (by decide) ⟨_, ho, rfl⟩ (fun s' => typeIs_int s' x u) noFill_list_mul F.fills_int_mul F.slot_int_rmul repeat_list F.slot_int_index.lookup
    (call_meets F.slot_int_rmul (typeIs_int s x u) F.entry_int_rmul (F.args_int_rmul_2 _ _) (int___rmul___int_list x u l its e)
      ⟨ho, rfl, ⟨_, ho, rfl⟩, call_meets F.slot_list_mul ⟨_, ho, rfl⟩ F.entry_list_mul (F.args_list_mul_2 _ _)
        (AutoListH.list___mul___list_int_3 l its e x u (by simp [Builtin.List.listFitsIndex]; omega) (by omega) (by simp [Builtin.List.listTooLong, sizeLine]; omega))
        ⟨ho, hQ⟩⟩)
theorem no_fillI : fillsInplaceSlot (.type "list") "add" (Operator.Add == .Add) = pure false := by
  unfold fillsInplaceSlot
  show (typeLookup (.type "list") (dunderI "add") >>= fun fi => pure (fi.isSome && !isSeqSlot fi)) = pure false
  rw [F.slot_list_iadd.lookup]
  show (pure ((some (Value.builtin "list.__iadd__")).isSome && !isSeqSlot (some (.builtin "list.__iadd__"))) : Sem Bool) = _
  rw [show ((some (Value.builtin "list.__iadd__")).isSome && !isSeqSlot (some (.builtin "list.__iadd__"))) = false by decide +kernel]
theorem seqI_list : seqSlot? (.type "list") (dunderI "add") = pure (some (.builtin "list.__iadd__")) := PyProof.Rows.seqSlot_of F.slot_list_iadd.lookup (by decide +kernel)
theorem iadd_x {l b : Addr} {its jts : Array Value} {e f : Nat} {Q : Value → Shared → Prop} (ho : s.heap.get? l = some (listOf its e)) (hb : s.heap.get? b = some (listOf jts f)) (hs : its.size + jts.size ≤ 1000000)
    (hQ : ∀ h' e', h'.get? l = some (listOf (its ++ jts) e') → Heap.SameBut l s.heap h' → Q (.ref l) { s with heap := h' }) : wpAny (model prog w) A (inplaceOp .Add (.ref l) (.ref b)) Q E s := by
  unfold inplaceOp
  refine wpAny_holding ?_
  refine wpAny_bind (wpAny_typeOf (T := "list") ⟨_, ho, rfl⟩ (wpAny_bind (wpAny_of_eq no_fillI ?_)))
  show wpAny _ A (if false = true then _ else _) Q E s
  rw [if_neg Bool.false_ne_true]
  refine wpAny_bind (PyProof.Rows.binaryOp1_none (T := "list") (nm := "add") ⟨_, ho, rfl⟩ ⟨_, hb, rfl⟩ noFill_list_add ?_)
  refine wpAny_bind (wpAny_of_eq seqI_list ?_)
  refine wpAny_bind (wpAny_rule ?_)
  refine call_meets F.slot_list_iadd ⟨_, ho, rfl⟩ F.entry_list_iadd (F.args_list_iadd_2 _ _) (AutoSeq1.list___iadd___list_list_0 l its e b jts f (by simp [Builtin.List.listTooLong, sizeLine]; omega) (by rw [sizeLine]; omega) (by rw [sizeLine]; omega)) ⟨ho, hb, ?_⟩
  exact hQ _ _ (Heap.get?_update_self _ ho rfl) (Heap.SameBut.update ..)
end
end Mine
end
section
set_option maxRecDepth 100000
set_option linter.unusedVariables false
open PySem PySem.W PyProof.Rows PySem.Claim2Try PySem.Pin
namespace Mine
theorem nth_eq {α : Type} : ∀ (l : List α) (n : Nat), nth l n = l[n]?
  | [], _ => rfl
  | _ :: _, 0 => rfl
  | _ :: r, n + 1 => by rw [List.getElem?_cons_succ]; exact nth_eq r n
theorem setN_eq {α : Type} : ∀ (l : List α) (n : Nat) (x : α), setN l n x = l.set n x
  | [], _, _ => rfl
  | _ :: _, 0, _ => rfl
  | _ :: r, n + 1, x => by rw [List.set_cons_succ]; exact congrArg _ (setN_eq r n x)
section
variable {prog : Program} {w : World} {B : Bs} {G : Pg} {A : Around} {env : Env} {sc : Scope} {ρ ρ' : Rho} {σ : Hp} {s : Shared} {L : Loc} {h : Heap}
theorem RepV.loc_inv {n : Nat} {v : Value} (r : RepV B h ρ (.loc n) v) : ∃ p, ρ[n]? = some p ∧ v = .ref p.1 := by cases r with | loc _ p hp => exact ⟨p, hp, rfl⟩
theorem RepV.int_inv {i : Int} {v : Value} (r : RepV B h ρ (.int i) v) : ∃ t, v = .int i t := by cases r with | int _ t => exact ⟨t, rfl⟩
theorem RepV.str_inv {i : Str} {v : Value} (r : RepV B h ρ (.str i) v) : ∃ t, v = .str i t := by cases r with | str _ t => exact ⟨t, rfl⟩
theorem RepV.bool_inv {i : Bool} {v : Value} (r : RepV B h ρ (.bool i) v) : v = .bool i := by cases r; rfl
theorem RepV.none_inv {v : Value} (r : RepV B h ρ .none v) : v = .none := by cases r; rfl
inductive TupR (B : Bs) (h : Heap) (ρ : Rho) (vs : List AV) (v : Value) : Prop
  | mk (a : Addr) (its : Array Value) (e : Nat) (hv : v = .ref a) (hn : NotOwn ρ a) (ho : h.get? a = some (tupObj its e)) (hr : RepVs B h ρ vs its.toList) : TupR B h ρ vs v
theorem RepV.tup_inv {vs : List AV} {v : Value} (r : RepV B h ρ (.tup vs) v) : TupR B h ρ vs v := by cases r with | tup _ a its e h1 h2 h3 => exact ⟨a, its, e, rfl, h1, h2, h3⟩
inductive NumsAt (h : Heap) (ρ : Rho) (n N : Nat) (f : Nat → Int) (v : Value) : Prop
  | mk (p : Addr × Addr) (its : Array Value) (e : Nat) (hp : ρ[n]? = some p) (hv : v = .ref p.1) (h2 : p.2 = p.1) (ho : h.get? p.1 = some (listOf its e)) (hs : its.size = N) (hl : N ≤ 1000000) (hf : ∀ i, i < N → ∃ t, its[i]? = some (.int (f i) t)) : NumsAt h ρ n N f v
theorem St.nums (S : St B ρ σ s) {n N : Nat} {f : Nat → Int} {v : Value} (ho : nth σ n = some (.nums N f)) (r : RepV B s.heap ρ (.loc n) v) : NumsAt s.heap ρ n N f v := by
  obtain ⟨p, hp, rfl⟩ := r.loc_inv
  rw [nth_eq] at ho
  obtain ⟨e1, its, e, a, b, c, d⟩ := S.obj n p _ hp ho
  exact ⟨p, its, e, hp, rfl, e1, a, b, c, d⟩
/-- a new list of numbers -/
theorem St.newNums (S : St B ρ σ s) {its : Array Value} {e N : Nat} {f : Nat → Int} (hs : its.size = N) (hN : N ≤ 1000000) (hf : ∀ i, i < N → ∃ t, its[i]? = some (.int (f i) t)) (tk : Nat) (d : Drawn) :
    St B (ρ ++ [(s.heap.objs.size, s.heap.objs.size)]) (σ ++ [.nums N f]) ⟨s.heap.push (listOf its e), s.gens, d, tk, s.os⟩ ∧ Ext [] s.heap ρ (s.heap.push (listOf its e)) (ρ ++ [(s.heap.objs.size, s.heap.objs.size)]) :=
  S.new (fun b o e => Heap.get?_push_of_some _ e) (get?_size _) (get?_size _) ⟨_, Heap.get?_push_size _ rfl⟩ ⟨_, Heap.get?_push_size _ rfl⟩
    ⟨rfl, its, e, Heap.get?_push_size _ rfl, hs, hN, hf⟩
theorem St.lenAt (S : St B ρ σ s) {p : Addr × Addr} : (ρ ++ [p])[σ.length]? = some p := by rw [← S.len, List.getElem?_append_right (Nat.le_refl _), Nat.sub_self]; rfl
theorem getElem_append_ints {its jts : Array Value} {p q : Nat} {f g : Nat → Int} (h1 : its.size = p) (h2 : jts.size = q) (hf : ∀ i, i < p → ∃ t, its[i]? = some (.int (f i) t)) (hg : ∀ i, i < q → ∃ t, jts[i]? = some (.int (g i) t)) :
    ∀ i, i < p + q → ∃ t, (its ++ jts)[i]? = some (.int (appF p f g i) t) := by
  intro i hi
  unfold appF
  rcases Nat.lt_or_ge i p with hl | hl
  · rw [show Nat.blt i p = true from Nat.blt_eq.mpr hl, Array.getElem?_append_left (by omega)]
    exact hf i hl
  · rw [show Nat.blt i p = false by rw [Bool.eq_false_iff]; intro q; rw [Nat.blt_eq] at q; omega, Array.getElem?_append_right (by omega), h1]
    exact hg (i - p) (by omega)
theorem rep_get {its : Array Value} (hs : 0 < its.size) : ∀ (k : Nat) (acc : Array Value) (i : Nat), i < its.size * k → (List.foldl (fun x1 x2 => x1 ++ x2) acc (List.replicate k its))[acc.size + i]? = its[i % its.size]?
  | 0, acc, i, hi => absurd hi (by simp)
  | k + 1, acc, i, hi => by
    rw [List.replicate_succ, List.foldl_cons]
    rcases Nat.lt_or_ge i its.size with hl | hl
    · rw [Nat.mod_eq_of_lt hl]
      have pre : ∀ (k : Nat) (a : Array Value) (j : Nat), j < a.size → (List.foldl (fun x1 x2 => x1 ++ x2) a (List.replicate k its))[j]? = a[j]? := by
        intro k
        induction k with
        | zero => intro a j _; rfl
        | succ k ih =>
          intro a j hj
          rw [List.replicate_succ, List.foldl_cons, ih _ j (by rw [Array.size_append]; omega), Array.getElem?_append_left hj]
      rw [pre k _ _ (by rw [Array.size_append]; omega), Array.getElem?_append_right (by omega)]
      congr 1
      omega
    · have e : acc.size + i = (acc ++ its).size + (i - its.size) := by rw [Array.size_append]; omega
      rw [e, rep_get hs k (acc ++ its) (i - its.size) (by rw [Nat.mul_succ] at hi; omega)]
      rw [Nat.mod_eq_sub_mod hl]
theorem rep_size {its : Array Value} : ∀ (k : Nat) (acc : Array Value), (List.foldl (fun x1 x2 => x1 ++ x2) acc (List.replicate k its)).size = acc.size + its.size * k
  | 0, acc => by simp
  | k + 1, acc => by rw [List.replicate_succ, List.foldl_cons, rep_size k, Array.size_append, Nat.mul_succ]; omega

theorem intK_inv {a b : AV} {K : Int → Int → Prop} (k : intK a b K) : ∃ x y, a = .int x ∧ b = .int y ∧ K x y := by
  cases a with
  | int x =>
    cases b with
    | int y => exact ⟨x, y, rfl, rfl, k⟩
    | _ => exact False.elim k
  | _ => exact False.elim k
theorem numsK_inv {a : AV} {K : Nat → Nat → (Nat → Int) → Prop} (k : numsK σ a K) : ∃ m p f, a = .loc m ∧ nth σ m = some (.nums p f) ∧ K m p f := by
  cases a with
  | loc m =>
    have k : (match nth σ m with | some (.nums p f) => K m p f | _ => False) := k
    cases hm : nth σ m with
    | none => rw [hm] at k; exact k.elim
    | some o =>
      rw [hm] at k
      cases o with
      | nums p f => exact ⟨m, p, f, rfl, hm, k⟩
      | _ => exact k.elim
  | _ => exact False.elim k
inductive NumsR (h : Heap) (ρ : Rho) (u : Value) (K : Nat → Nat → (Nat → Int) → Prop) : Prop
  | mk (m N : Nat) (f : Nat → Int) (k : K m N f) (p : Addr × Addr) (its : Array Value) (e : Nat) (hp : ρ[m]? = some p) (hv : u = .ref p.1) (h2 : p.2 = p.1) (ho : h.get? p.1 = some (listOf its e)) (hs : its.size = N) (hl : N ≤ 1000000) (hf : ∀ i, i < N → ∃ t, its[i]? = some (.int (f i) t)) : NumsR h ρ u K
inductive ReadR (h : Heap) (ρ : Rho) (a : AV) (u : Value) (K : Nat → (Nat → Int) → Prop) : Prop
  | mk (N : Nat) (f : Nat → Int) (k : K N f) (x : Addr) (its : Array Value) (e : Nat) (hv : u = .ref x) (ho : h.get? x = some (listOf its e)) (hs : its.size = N) (hl : N ≤ 1000000) (hf : ∀ i, i < N → ∃ t, its[i]? = some (.int (f i) t)) (ap : ∀ m p, ρ[m]? = some p → sameLoc m a = false → p.1 ≠ x) : ReadR h ρ a u K
inductive IntR (u v : Value) (K : Int → Int → Prop) : Prop
  | mk (x y : Int) (t t' : Tok) (hu : u = .int x t) (hv : v = .int y t') (k : K x y) : IntR u v K
/-- two numbers, as the machine has them -/
theorem intR {a b : AV} {u v : Value} {K : Int → Int → Prop} (k : intK a b K) (ra : RepV B h ρ a u) (rb : RepV B h ρ b v) : IntR u v K := by
  obtain ⟨x, y, rfl, rfl, k⟩ := intK_inv k
  obtain ⟨t, rfl⟩ := ra.int_inv
  obtain ⟨t', rfl⟩ := rb.int_inv
  exact ⟨x, y, t, t', rfl, rfl, k⟩
/-- a list of numbers, as the machine has it -/
theorem St.numsR (S : St B ρ σ s) {a : AV} {u : Value} {K : Nat → Nat → (Nat → Int) → Prop} (k : numsK σ a K) (ra : RepV B s.heap ρ a u) :
    NumsR s.heap ρ u K := by
  obtain ⟨m, p, f, rfl, hm, k⟩ := numsK_inv k
  obtain ⟨a, its, e, h1, h2, h3, h4, h5, h6, h7⟩ := S.nums hm ra
  exact ⟨m, p, f, k, a, its, e, h1, h2, h3, h4, h5, h6, h7⟩
theorem readK_inv {a : AV} {K : Nat → (Nat → Int) → Prop} (k : readK σ a K) : (∃ m p f, a = .loc m ∧ nth σ m = some (.nums p f) ∧ K p f) ∨ ∃ p f, a = .fnum p f ∧ K p f := by
  cases a with
  | loc m =>
    have k : (match nth σ m with | some (.nums p f) => K p f | _ => False) := k
    cases hm : nth σ m with
    | none => rw [hm] at k; exact k.elim
    | some o =>
      rw [hm] at k
      cases o with
      | nums p f => exact .inl ⟨m, p, f, rfl, hm, k⟩
      | _ => exact k.elim
  | fnum p f => exact .inr ⟨p, f, rfl, k⟩
  | _ => exact False.elim k
/-- a list of numbers to be read -/
theorem St.readR (S : St B ρ σ s) {a : AV} {u : Value} {K : Nat → (Nat → Int) → Prop} (k : readK σ a K) (ra : RepV B s.heap ρ a u) :
    ReadR s.heap ρ a u K := by
  rcases readK_inv k with ⟨m, p, f, rfl, hm, k⟩ | ⟨p, f, rfl, k⟩
  · obtain ⟨pa, its, e, h1, rfl, h2, h3, h4, h5, h6⟩ := S.nums hm ra
    refine ⟨p, f, k, pa.1, its, e, rfl, h3, h4, h5, h6, fun m' p' hp' hs => ?_⟩
    have hne : m' ≠ m := fun e => by rw [e] at hs; exact absurd (Nat.beq_refl m ▸ hs : true = false) (by decide)
    exact (S.apart m' m p' pa hne hp' h1).1
  · cases ra with | fnum _ _ x its e hn ho h1 h2 h3 =>
    exact ⟨p, f, k, x, its, e, rfl, ho, h1, h2, h3, fun m' p' hp' _ z => (hn p' (mem_of_at hp')).1 z.symm⟩
theorem sound_lmul {a b : AV} {u v : Value} {K : KV} (k : numsK σ a fun _ p f => lmulI p f b σ K) (S : St B ρ σ s) (ra : RepV B s.heap ρ a u) (rb : RepV B s.heap ρ b v) :
    wpAny (model prog w) A (binaryOp .Mult u v) (PV B ρ s.heap K) no s := by
  obtain ⟨m, p, f, k, pa, its, e, h1, rfl, h2, h3, h4, h5, h6⟩ := S.numsR k ra
  cases b with
  | int k' =>
    obtain ⟨hd, k⟩ := condF k
    rw [Bool.and_eq_true, Bool.and_eq_true] at hd
    obtain ⟨t, rfl⟩ := rb.int_inv
    have d2 := of_decide_eq_true hd.2
    refine mul_x h3 (of_decide_eq_true hd.1.1) (by rw [h4]; exact d2) (of_decide_eq_true hd.1.2) ?_
    have hz : (List.foldl (fun x1 x2 => x1 ++ x2) #[] (List.replicate (if its.isEmpty = true then 0 else k'.toNat) its)).size = p * k'.toNat := by
      rw [rep_size]
      split
      · rename_i he
        have : its.size = 0 := by simpa using he
        rw [← h4, this]; simp
      · rw [h4]; simp
    obtain ⟨S', E'⟩ := S.newNums (its := List.foldl (fun x1 x2 => x1 ++ x2) #[] (List.replicate (if its.isEmpty = true then 0 else k'.toNat) its)) (e := 0) (N := p * k'.toNat) (f := repF p f) hz d2 (fun i hi => by
      have hp : 0 < p := by
        rcases Nat.eq_zero_or_pos p with e0 | e0
        · rw [e0] at hi; simp at hi
        · exact e0
      have he : ¬ (its.isEmpty = true) := by
        intro q
        have : its.size = 0 := by simpa using q
        omega
      rw [if_neg he]
      have := rep_get (its := its) (by omega) k'.toNat #[] i (by rw [h4]; exact hi)
      rw [show (#[] : Array Value).size + i = i from Nat.zero_add i] at this
      rw [this, h4]
      exact h6 (i % p) (Nat.mod_lt _ hp)) s.toks s.drawn
    exact PV.of (.loc _ _ S.lenAt) S' E' k
  | _ => exact False.elim k
theorem sound_cat {a b : AV} {u v : Value} {K : KV} (k : readK σ a fun p f => readK σ b fun q g => cond (decide (p + q ≤ 1000000)) (K (.loc σ.length) (σ ++ [.nums (p + q) (appF p f g)])) False) (S : St B ρ σ s) (ra : RepV B s.heap ρ a u) (rb : RepV B s.heap ρ b v) :
    wpAny (model prog w) A (binaryOp .Add u v) (PV B ρ s.heap K) no s := by
  obtain ⟨p, f, k, pa, its, e, rfl, h3, h4, h5, h6, _⟩ := S.readR k ra
  obtain ⟨q, g, k, pb, jts, e', rfl, g3, g4, g5, g6, _⟩ := S.readR k rb
  obtain ⟨hd, k⟩ := condF k
  have hd := of_decide_eq_true hd
  refine concat_x h3 g3 (by omega) ?_
  obtain ⟨S', E'⟩ := S.newNums (its := its ++ jts) (e := 0) (N := p + q) (f := appF p f g) (by rw [Array.size_append]; omega) hd (getElem_append_ints h4 g4 h6 g6) s.toks s.drawn
  exact PV.of (.loc _ _ S.lenAt) S' E' k
theorem sound_bin {op : Operator} {a b : AV} {u v : Value} {K : KV} (k : binI op a b σ K) (S : St B ρ σ s) (ra : RepV B s.heap ρ a u) (rb : RepV B s.heap ρ b v) :
    wpAny (model prog w) A (binaryOp op u v) (PV B ρ s.heap K) no s := by
  rcases condB k with k | k
  · obtain ⟨x, y, t, t', rfl, rfl, k⟩ := intR k ra rb
    exact sound_arith k fun z hz => PV.of (.int z _) S.toks (.refl ..) hz
  · cases op with
    | Add => exact sound_cat k S ra rb
    | Mult => exact sound_lmul k S ra rb
    | _ => exact False.elim k
end
end Mine
end
section
set_option maxRecDepth 100000
set_option linter.unusedVariables false
open PySem PySem.W PyProof.Rows PySem.Claim2Try PySem.Pin
namespace Mine
section
variable {B : Bs} {ρ ρ' r : Rho} {σ : Hp} {s : Shared} {h h' : Heap}
theorem at_back {n : Nat} {p : Addr × Addr} (e : ρ' = ρ ++ r) (hp : ρ'[n]? = some p) (hn : Nat.blt n ρ.length = true) : ρ[n]? = some p := by
  rw [e, List.getElem?_append_left (Nat.blt_eq.mp hn)] at hp
  exact hp
theorem notOwn_back {a : Addr} (e : ρ' = ρ ++ r) (hn : NotOwn ρ' a) : NotOwn ρ a := fun p hp => hn p (e ▸ List.mem_append_left r hp)
theorem RepVs.map {P : AV → Bool} {h : Heap} (f : ∀ {v : AV} {w : Value}, P v = true → RepV B h ρ' v w → RepV B h ρ v w) : ∀ {vs : List AV} {ws : List Value}, vs.all P = true → RepVs B h ρ' vs ws → RepVs B h ρ vs ws
  | [], _, _, q => by cases q; exact .nil
  | v :: vs, _, hp, q => by
    rw [List.all_cons, Bool.and_eq_true] at hp
    cases q with | cons a b => exact .cons (f hp.1 a) (RepVs.map f hp.2 b)
/-- a value that tells of what stood before alone -/
theorem RepV.back (e : ρ' = ρ ++ r) : ∀ (n : Nat) {v : AV} {w : Value}, inB ρ.length n v = true → RepV B h ρ' v w → RepV B h ρ v w
  | 0, _, _, hi, _ => absurd hi Bool.false_ne_true
  | n + 1, v, w, hi, q => by
    cases q with
    | none => exact .none
    | bool b => exact .bool b
    | int i t => exact .int i t
    | str s t => exact .str s t
    | loc m p hp => exact .loc m p (at_back e hp hi)
    | tup vs a its ep hn ho hr => exact .tup vs a its ep (notOwn_back e hn) ho (hr.map (RepV.back e n) hi)
    | bm x m a f p hn ho hl hp => exact .bm x m a f p (notOwn_back e hn) ho hl (at_back e hp hi)
    | fn x _ q => exact .fn x _ q
    | mth x _ q => exact .mth x _ q
    | cls => exact .cls
    | clst x _ q => exact .clst x _ q
    | bi id => exact .bi id
    | ty id => exact .ty id
    | given => exact .given
    | rng a b x t u v hn ho => exact .rng a b x t u v (notOwn_back e hn) ho
    | lam a cl pa lb lsc name qual pm ct c hn ho hc hr => exact .lam a cl pa lb lsc name qual pm ct c (notOwn_back e hn) ho (notOwn_back e hc) hr
    | fnum N f a its ep hn ho h1 h2 h3 => exact .fnum N f a its ep (notOwn_back e hn) ho h1 h2 h3
theorem RepPs.back {es : List (Int × AV)} {kvs : List (Int × Value)} (e : ρ' = ρ ++ r) (hi : (es.all fun x => inB ρ.length 100 x.2) = true) (q : RepPs B h ρ' es kvs) : RepPs B h ρ es kvs := by
  induction q with
  | nil => exact .nil
  | cons a _ ih =>
    rw [List.all_cons, Bool.and_eq_true] at hi
    exact .cons (a.back e 100 hi.1) (ih hi.2)
theorem lookS_in {P : AV → Bool} : ∀ {L : Loc}, (L.all fun y => P y.2) = true → ∀ y v, lookS y L = some v → P v = true
  | [], _, _, _, e => by cases e
  | (z, u) :: t, h, y, v, e => by
    rw [List.all_cons, Bool.and_eq_true] at h
    have e : cond (eqS y z) (some u) (lookS y t) = some v := e
    cases hq : eqS y z with
    | true => rw [hq] at e; cases e; exact h.1
    | false => rw [hq] at e; exact lookS_in h.2 y v e
theorem RepO.back {p : Addr × Addr} {o : AObj} (e : ρ' = ρ ++ r) (hi : objB ρ.length o = true) (q : RepO B h ρ' p o) : RepO B h ρ p o := by
  cases o with
  | nums n f => exact q
  | list vs =>
    obtain ⟨e1, hl, its, ep, ho, hr⟩ := q
    exact ⟨e1, hl, its, ep, ho, hr.map (RepV.back e 100) hi⟩
  | inst a =>
    obtain ⟨e1, ox, m, ho, hc, hd, hdi, hns, hm⟩ := q
    refine ⟨e1, ox, m, ho, hc, hd, hdi, hns, fun x => ?_⟩
    have := hm x
    cases hx : lookS x a with
    | none => rw [hx] at this; exact this
    | some v =>
      rw [hx] at this
      obtain ⟨w, hw, rw_⟩ := this
      exact ⟨w, hw, rw_.back e 100 (lookS_in (P := inB ρ.length 100) hi x v hx)⟩
  | idict ep es =>
    obtain ⟨e1, e2, hl, kvs, h3, h4⟩ := q
    exact ⟨e1, e2, hl, kvs, h3, h4.back e hi⟩
  | tab pos =>
    obtain ⟨e1, e2, q⟩ := q
    exact ⟨e1, e2, q.imp id fun ⟨c, h1, h2, h3⟩ => ⟨c, h1, notOwn_back e h2, h3⟩⟩
theorem mapO_rep {f : AV → Option AV} {h : Heap} (g : ∀ {v u : AV} {w : Value}, f v = some u → RepV B h ρ' v w → RepV B h ρ u w) : ∀ {vs us : List AV} {ws : List Value}, mapO f vs = some us → RepVs B h ρ' vs ws → RepVs B h ρ us ws ∧ us.length = vs.length
  | [], us, _, e, q => by cases q; cases e; exact ⟨.nil, rfl⟩
  | v :: vs, us, _, e, q => by
    cases q with | cons a b =>
    unfold mapO at e
    cases h1 : f v with
    | none => rw [h1] at e; cases e
    | some u =>
      rw [h1] at e
      cases h2 : mapO f vs with
      | none => rw [h2] at e; cases e
      | some t =>
        rw [h2] at e
        cases e
        obtain ⟨r1, r2⟩ := mapO_rep g h2 b
        exact ⟨.cons (g h1 a) r1, congrArg (· + 1) r2⟩
theorem map_inv {α β : Type} {f : α → β} {o : Option α} {b : β} (h : o.map f = some b) : ∃ a, o = some a ∧ f a = b := by
  cases o with
  | none => cases h
  | some a => cases h; exact ⟨a, rfl, rfl⟩
theorem frz_rep (e : ρ' = ρ ++ r) (S : St B ρ' σ s) : ∀ (n : Nat) {v u : AV} {w : Value}, frz σ ρ.length n v = some u → RepV B s.heap ρ' v w → RepV B s.heap ρ u w
  | 0, _, _, _, hf, _ => by cases hf
  | n + 1, v, u, w, hf, q => by
    cases q with
    | none => cases hf; exact .none
    | bool b => cases hf; exact .bool b
    | int i t => cases hf; exact .int i t
    | str s t => cases hf; exact .str s t
    | loc m p hp =>
      have hf : cond (Nat.blt m ρ.length) (some (.loc m)) (frzO (nth σ m)) = some u := hf
      cases hb : Nat.blt m ρ.length with
      | true => rw [hb] at hf; cases hf; exact .loc m p (at_back e hp hb)
      | false =>
        rw [hb] at hf
        have own : NotOwn ρ p.1 := fun q hq => by
          obtain ⟨i, hi⟩ := List.mem_iff_getElem?.mp hq
          have hl := (List.getElem?_eq_some_iff.mp hi).1
          have hi' : ρ'[i]? = some q := by rw [e, List.getElem?_append_left hl]; exact hi
          have hne : m ≠ i := fun z => by rw [z, Nat.blt_eq.mpr hl] at hb; cases hb
          obtain ⟨a, b, _, _⟩ := S.apart m i p q hne hp hi'
          exact ⟨a, b⟩
        cases ho : nth σ m with
        | none => rw [ho] at hf; cases hf
        | some o =>
          rw [ho] at hf
          rw [nth_eq] at ho
          cases o with
          | nums N g =>
            cases hf
            obtain ⟨_, its, ep, h3, h4, h5, h6⟩ := S.obj m p _ hp ho
            exact .fnum N g p.1 its ep own h3 h4 h5 h6
          | _ => cases hf
    | tup vs a its ep hn ho hr =>
      obtain ⟨us, h1, rfl⟩ := map_inv (o := mapO (frz σ ρ.length n) vs) hf
      exact .tup us a its ep (notOwn_back e hn) ho (mapO_rep (frz_rep e S n) h1 hr).1
    | bm x m a f p hn ho hl hp =>
      have hf : cond (Nat.blt m ρ.length) (some (.bm x m)) none = some u := hf
      cases hb : Nat.blt m ρ.length with
      | true => rw [hb] at hf; cases hf; exact .bm x m a f p (notOwn_back e hn) ho hl (at_back e hp hb)
      | false => rw [hb] at hf; cases hf
    | fn x _ q => cases hf; exact .fn x _ q
    | mth x _ q => cases hf; exact .mth x _ q
    | cls => cases hf; exact .cls
    | clst x _ q => cases hf; exact .clst x _ q
    | bi id => cases hf; exact .bi id
    | ty id => cases hf; exact .ty id
    | given => cases hf; exact .given
    | rng a b x t u v hn ho => cases hf; exact .rng a b x t u v (notOwn_back e hn) ho
    | lam a cl pa lb lsc name qual pm ct c hn ho hc hr => cases hf
    | fnum N f a its ep hn ho h1 h2 h3 => cases hf; exact .fnum N f a its ep (notOwn_back e hn) ho h1 h2 h3
theorem St.back (e : ρ' = ρ ++ r) (S : St B ρ' σ s) (hi : (σ.take ρ.length).all (objB ρ.length) = true) : St B ρ (σ.take ρ.length) s where
  keep := S.keep
  len := by
    have := S.len
    rw [e, List.length_append] at this
    rw [List.length_take]; omega
  obj n p o hp ho := by
    have hl := (List.getElem?_eq_some_iff.mp hp).1
    have hm := List.all_eq_true.mp hi o (List.mem_of_getElem? ho)
    rw [List.getElem?_take_of_lt hl] at ho
    exact (S.obj n p o (by rw [e, List.getElem?_append_left hl]; exact hp) ho).back e hm
  apart i j p q hij hp hq := S.apart i j p q hij (by rw [e, List.getElem?_append_left (List.getElem?_eq_some_iff.mp hp).1]; exact hp) (by rw [e, List.getElem?_append_left (List.getElem?_eq_some_iff.mp hq).1]; exact hq)
  above p hp := S.above p (e ▸ List.mem_append_left r hp)
  below p hp := S.below p (e ▸ List.mem_append_left r hp)
  gens := S.gens
  os := S.os
theorem gc_good {K : KV} {v : AV} {w : Value} (S : St B ρ' σ s) (E : Ext [] h ρ s.heap ρ') (q : RepV B s.heap ρ' v w) (k : gcK ρ.length K v σ) : PV B ρ h K w s := by
  unfold gcK at k
  cases hb : Nat.beq σ.length ρ.length with
  | true => rw [hb] at k; exact PV.of q S E k
  | false =>
    rw [hb] at k
    have k : cond ((σ.take ρ.length).all (objB ρ.length)) (optV (frz σ ρ.length 100 v) (K v σ) fun u => K u (σ.take ρ.length)) (K v σ) := k
    cases hi : (σ.take ρ.length).all (objB ρ.length) with
    | false => rw [hi] at k; exact PV.of q S E k
    | true =>
      rw [hi] at k
      cases hf : frz σ ρ.length 100 v with
      | none => rw [hf] at k; exact PV.of q S E k
      | some u =>
        rw [hf] at k
        obtain ⟨t, e, _⟩ := E.pre
        exact PV.of (frz_rep e S 100 hf q) (S.back e hi) ⟨⟨⟨[], (List.append_nil ρ).symm, fun _ z => nomatch z⟩, E.keep⟩, E.there⟩ k
end
end Mine
end
section
set_option maxRecDepth 100000
set_option linter.unusedVariables false
open PySem PySem.W PyProof.Rows PySem.Claim2Try PySem.Pin
namespace Mine
section
variable {prog : Program} {w : World} {B : Bs} {G : Pg} {A : Around} {env : Env} {sc : Scope} {ρ ρ' : Rho} {σ : Hp} {s : Shared} {L : Loc} {h : Heap}
theorem sound_inpl {op : Operator} {a b : AV} {u v : Value} {K : KV} (k : inplI op a b σ K) (S : St B ρ σ s) (ra : RepV B s.heap ρ a u) (rb : RepV B s.heap ρ b v) :
    wpAny (model prog w) A (inplaceOp op u v) (PV B ρ s.heap K) no s := by
  rcases condB k with k | k
  · obtain ⟨x, y, t, t', rfl, rfl, k⟩ := intR k ra rb
    cases op with
    | Add => exact PyProof.Rows.iadd_int (PV.of (.int _ _) S.toks (.refl ..) k)
    | Sub => exact isub_int (PV.of (.int _ _) S.toks (.refl ..) k)
    | BitAnd => exact iand_int (PV.of (.int _ _) S.toks (.refl ..) k)
    | BitOr => exact ior_int (PV.of (.int _ _) S.toks (.refl ..) k)
    | BitXor => exact ixor_int (PV.of (.int _ _) S.toks (.refl ..) k)
    | _ => exact False.elim k
  · cases op with
    | Add =>
      obtain ⟨m, p, f, k, pa, its, e, h1, rfl, h2, h3, h4, h5, h6⟩ := S.numsR k ra
      obtain ⟨q, g, k, pb, jts, e', rfl, g3, g4, g5, g6, _⟩ := S.readR k rb
      obtain ⟨hmn, k⟩ := condT k
      obtain ⟨hd, k⟩ := condF k
      have hd := of_decide_eq_true hd
      refine iadd_x h3 g3 (by omega) fun h' e' ho' sb => ?_
      obtain ⟨S', E'⟩ := S.set (h' := h') (tk := s.toks) (d := s.drawn) (o := .nums (p + q) (appF p f g)) h1 (fun b o hb _ hbo => (sb.2 b hb).trans hbo) ⟨_, ho'⟩ (by rw [h2]; exact ⟨_, ho'⟩)
        ⟨h2, its ++ jts, e', ho', by rw [Array.size_append]; omega, hd, getElem_append_ints h4 g4 h6 g6⟩
      rw [setN_eq] at k
      exact PV.of (.loc _ _ h1) S' E' k
    | _ => exact False.elim k
theorem sound_un {op : UnaryOp} {a : AV} {u : Value} {K : KV} (k : unI op a fun v => K v σ) (S : St B ρ σ s) (ra : RepV B s.heap ρ a u) : wpAny (model prog w) A (unaryOp op u) (PV B ρ s.heap K) no s := by
  unfold unI at k
  split at k
  · obtain ⟨t, rfl⟩ := ra.int_inv
    exact invert_int (PV.of (.int _ _) S.toks (.refl ..) k)
  · obtain ⟨t, rfl⟩ := ra.int_inv
    exact PyProof.Rows.neg_int (PV.of (.int _ _) S.toks (.refl ..) k)
  · exact k.elim
theorem eqTo_all {f g : Nat → Int} {e : Nat → Bool} (he : ∀ i, e i = decide (f i = g i)) : ∀ n, (List.range n).all e = eqTo f g n
  | 0 => rfl
  | n + 1 => by
    rw [List.range_succ, List.all_append, eqTo_all he n]
    show (eqTo f g n && (e n && true)) = cond (decide (f n = g n)) (eqTo f g n) false
    rw [he n]
    cases decide (f n = g n) <;> cases eqTo f g n <;> rfl
theorem all_congr {n : Nat} {e e' : Nat → Bool} (h : ∀ i, i < n → e i = e' i) : (List.range n).all e = (List.range n).all e' := by
  induction n with
  | zero => rfl
  | succ n ih => rw [List.range_succ, List.all_append, List.all_append, ih fun i hi => h i (Nat.lt_succ_of_lt hi)]; simp [h n (Nat.lt_succ_self n)]
theorem beq_decide (x y : Int) : (x == y) = decide (x = y) := rfl
theorem intsOf_cons {v : AV} {r : List AV} {l : List Int} (e : intsOf (v :: r) = some l) : ∃ x l', v = .int x ∧ intsOf r = some l' ∧ l = x :: l' := by
  cases v with
  | int x =>
    have e : (match intsOf r with | some l => some (x :: l) | none => none) = some l := e
    cases hl : intsOf r with
    | none => rw [hl] at e; cases e
    | some l' => rw [hl] at e; cases e; exact ⟨x, l', rfl, rfl, rfl⟩
  | _ => cases e
/-- numbers told as a list -/
theorem ints_rep : ∀ {vs : List AV} {ws : List Value} {l : List Int}, intsOf vs = some l → RepVs B h ρ vs ws → ws.length = l.length ∧ ∀ i, i < l.length → ∃ t, ws[i]? = some (.int (getI l i) t)
  | [], _, _, e, r => by cases e; cases r; exact ⟨rfl, fun i hi => absurd hi (Nat.not_lt_zero _)⟩
  | v :: r, _, _, e, rr => by
    obtain ⟨x, l', rfl, e', rfl⟩ := intsOf_cons e
    cases rr with | cons a b =>
    obtain ⟨t, rfl⟩ := a.int_inv
    obtain ⟨h1, h2⟩ := ints_rep e' b
    refine ⟨congrArg (· + 1) h1, fun i hi => ?_⟩
    cases i with
    | zero => exact ⟨t, rfl⟩
    | succ i => exact h2 i (Nat.lt_of_succ_lt_succ hi)
theorem sound_isNone {a b : AV} {u v : Value} {K : Bool → Prop} {Q : Value → Shared → Prop} (k : isNoneK a b K) (ra : RepV B s.heap ρ a u) (rb : RepV B s.heap ρ b v) :
    ∃ t, K t ∧ (Q (.bool t) s → wpAny (model prog w) A (compareOp .Is u v) Q no s) ∧ (Q (.bool (!t)) s → wpAny (model prog w) A (compareOp .IsNot u v) Q no s) := by
  cases b with
  | none =>
    rw [rb.none_inv]
    cases a with
    | int i => obtain ⟨t, rfl⟩ := ra.int_inv; exact ⟨_, k, wpAny_is_other rfl (fun e => nomatch e), wpAny_isNot_other rfl (fun e => nomatch e)⟩
    | bm x n => cases ra; exact ⟨_, k, wpAny_is_other rfl (fun e => nomatch e), wpAny_isNot_other rfl (fun e => nomatch e)⟩
    | loc n => cases ra; exact ⟨_, k, wpAny_is_other rfl (fun e => nomatch e), wpAny_isNot_other rfl (fun e => nomatch e)⟩
    | _ => exact False.elim k
  | _ => exact False.elim k
theorem sound_eqNums {a b : AV} {u v : Value} {K : Bool → Prop} {Q : Value → Shared → Prop} (k : numsK σ a fun _ p f => numsK σ b fun _ q g => K (cond (Nat.beq p q) (eqTo f g p) false)) (S : St B ρ σ s) (ra : RepV B s.heap ρ a u) (rb : RepV B s.heap ρ b v) (hu : A.units < cLine)
    (q : ∀ t, K t → Q (.bool t) s) : wpAny (model prog w) A (compareOp .Eq u v) Q no s := by
  obtain ⟨m, p, f, k, pa, its, e, h1, rfl, h2, h3, h4, h5, h6⟩ := S.numsR k ra
  obtain ⟨n, q', g, k, pb, jts, e', g1, rfl, g2, g3, g4, g5, g6⟩ := S.numsR k rb
  cases hpq : Nat.beq p q' with
  | false =>
    rw [hpq] at k
    exact SeqAt.eq_list_lengthsAt (isList_x h3) (isList_x g3) (by rw [h4, g4, bne_iff_ne]; exact fun e => by rw [e, Nat.beq_refl] at hpq; cases hpq) hu (q _ k)
  | true =>
    rw [hpq] at k
    have e := Nat.eq_of_beq_eq_true hpq
    subst e
    refine SeqAt.eq_listAt (e := fun i => decide (f i = g i)) (isList_x h3) (isList_x g3) (h4.trans g4.symm) hu (fun j j1 j2 => ?_) ?_
    · obtain ⟨t, ht⟩ := h6 j (by omega)
      obtain ⟨t', ht'⟩ := g6 j (by omega)
      rw [Array.getElem?_eq_getElem j1] at ht
      rw [Array.getElem?_eq_getElem j2] at ht'
      rw [Option.some.inj ht, Option.some.inj ht']
      exact SeqAt.EqAt.int_int _ _ _ _
    · rw [h4, eqTo_all (fun i => rfl)]
      exact q _ k
theorem sound_cmp {op : CmpOp} {a b : AV} {u v : Value} {K : Bool → Prop} {Q : Value → Shared → Prop} (k : cmpI op a b σ K) (S : St B ρ σ s) (ra : RepV B s.heap ρ a u) (rb : RepV B s.heap ρ b v) (hu : A.units < cLine)
    (q : ∀ t, K t → Q (.bool t) s) : wpAny (model prog w) A (compareOp op u v) Q no s := by
  cases op with
  | Eq =>
    rcases condB k with k | k
    · obtain ⟨x, y, t, t', rfl, rfl, k⟩ := intR k ra rb
      exact PyProof.Rows.eq_int (q _ k)
    · exact sound_eqNums k S ra rb hu q
  | NotEq =>
    obtain ⟨x, y, t, t', rfl, rfl, k⟩ := intR k ra rb
    exact PyProof.Rows.ne_int (q _ k)
  | Lt =>
    obtain ⟨x, y, t, t', rfl, rfl, k⟩ := intR k ra rb
    exact PyProof.Rows.lt_int (q _ k)
  | LtE =>
    obtain ⟨x, y, t, t', rfl, rfl, k⟩ := intR k ra rb
    exact PyProof.Rows.le_int (q _ k)
  | Gt =>
    obtain ⟨x, y, t, t', rfl, rfl, k⟩ := intR k ra rb
    exact PyProof.Rows.gt_int (q _ k)
  | GtE =>
    obtain ⟨x, y, t, t', rfl, rfl, k⟩ := intR k ra rb
    exact PyProof.Rows.ge_int (q _ k)
  | Is =>
    obtain ⟨t, k, q1, _⟩ := sound_isNone k ra rb
    exact q1 (q _ k)
  | _ => exact False.elim k
theorem sound_truth {a : AV} {u : Value} {K : Bool → Prop} {Q : Bool → Shared → Prop} (k : truthI a K) (ra : RepV B s.heap ρ a u) (q : ∀ t, K t → Q t s) : wpAny (model prog w) A (truthy u) Q no s := by
  unfold truthI at k
  split at k
  · rw [ra.none_inv]; exact wpAny_pure (q _ k)
  · rw [ra.bool_inv]; exact wpAny_truthy_bool (q _ k)
  · obtain ⟨t, rfl⟩ := ra.int_inv
    exact PyProof.Rows.truthy_int (q _ k)
  · exact k.elim
end
end Mine
end
section
set_option maxRecDepth 100000
set_option linter.unusedVariables false
open PySem PySem.W PyProof.Rows PySem.Claim2Try PySem.Pin Builtin Builtin.ObjectAttr
namespace Mine
section
variable {prog : Program} {w : World} {B : Bs} {G : Pg} {A : Around} {env : Env} {sc : Scope} {ρ ρ' : Rho} {σ : Hp} {s : Shared} {L : Loc} {h : Heap}
inductive InstR (B : Bs) (h : Heap) (ρ : Rho) (n : Nat) (at_ : List (Str × AV)) (v : Value) : Prop
  | mk (p : Addr × Addr) (ox : Obj) (m : Str → Option Value) (hp : ρ[n]? = some p) (hv : v = .ref p.1) (hne : p.2 ≠ p.1) (ho : h.get? p.1 = some ox) (hc : ox.cls = .ref B.C) (hd : ∀ c, ox.data ≠ .cls c) (hdi : ox.dict = some p.2) (hns : h.Ns1 p.2 m)
    (hm : ∀ x, match lookS x at_ with
        | some v => ∃ w, m x = some w ∧ RepV B h ρ v w
        | none => m x = none) : InstR B h ρ n at_ v
theorem St.instAt (S : St B ρ σ s) {n : Nat} {at_ : List (Str × AV)} {v : Value} (ho : nth σ n = some (.inst at_)) (r : RepV B s.heap ρ (.loc n) v) :
    InstR B s.heap ρ n at_ v := by
  obtain ⟨p, hp, rfl⟩ := r.loc_inv
  rw [nth_eq] at ho
  obtain ⟨e1, ox, m, a, b, c, d, e, f⟩ := S.obj n p _ hp ho
  exact ⟨p, ox, m, hp, rfl, e1, a, b, c, d, e, f⟩
theorem lookIn_of {o : Obj} {es : Array DictEntry} {ep : Nat} {m : Str → Option Value} {name : Str} (hd : o.data = .dict es ep) (hk : StrKeys es) (hf : nsFind es name = m name) : lookIn name o = some (m name) := by
  unfold lookIn
  rw [hd]
  dsimp only
  rw [Array.find?_toList]
  have hf : (es.find? fun e => e.key.isStr name).map (·.val) = m name := hf
  cases hx : es.find? fun e => e.key.isStr name with
  | some e => rw [hx] at hf; dsimp only; rw [← hf]; rfl
  | none =>
    rw [hx] at hf
    have hr : (es.toList.any fun e => e.refKey) = false := by
      rw [List.any_eq_false]
      intro e he
      obtain ⟨n, t, hn⟩ := hk e (by simpa using he)
      unfold DictEntry.refKey
      rw [hn]; exact Bool.false_ne_true
    dsimp only
    rw [hr, ← hf]; rfl
theorem nsIn_of {K : Frag} {N : Addr} {es : List DictEntry} {n : Nat} {l : List (Str × Value)} (hK : K.lookup N = some (dictOf es n)) (he : es.map kv = l.map fun x => (some x.1, x.2)) (name : Str) : nsIn K N name = some (l.lookup name) := by
  unfold nsIn
  rw [hK]
  dsimp only
  have hf := find_kv name es l he
  cases hx : es.find? fun e => e.key.isStr name with
  | some e => rw [hx] at hf; rw [← hf]; rfl
  | none =>
    rw [hx] at hf
    have hr : (es.any fun e => e.refKey) = false := by
      rw [List.any_eq_false]
      intro e hm
      obtain ⟨n, t, hn⟩ := strKeys_kv he e hm
      unfold DictEntry.refKey
      rw [hn]; exact Bool.false_ne_true
    dsimp only
    rw [hr, ← hf]; rfl
inductive ClsKR (B : Bs) (h : Heap) (ex : Frag) : Prop
  | mk (K : Frag) (X : K.In h) (cd : ClassData) (hcd : clsIn K B.C = some cd) (hdct : cd.hasDict = true) (hmro : cd.mro = [.ref B.C, .type "object"])
    (hfind : ∀ name, findIn K (.ref B.C) name = some (match B.l.lookup name with | some v => some v | none => fastBuiltinOwn "object" name))
    (hex : ∀ a o, ex.lookup a = some o → (∀ cd, o.data ≠ .cls cd) → (∀ es n, o.data ≠ .dict es n) → K.lookup a = some o) (hC : ClsC B (K.lookup B.C)) : ClsKR B h ex
/-- the class, seen by the library's look -/
theorem clsK (ok : Ok B G) (k : ∀ b o, B.hb.get? b = some o → h.get? b = some o) (ex : Frag) (hex : ∀ a o, ex.lookup a = some o → h.get? a = some o) :
    ClsKR B h ex := by
  obtain ⟨nm, q, sub, col, k0, k1, k2, k3, k5, hC⟩ := ok.cobj
  obtain ⟨es, n, hN, he⟩ := ok.names
  have hne : B.N ≠ B.C := fun e => by rw [e, hC] at hN; exact absurd (congrArg Obj.data (Option.some.inj hN)) fun q => nomatch q
  refine ⟨(B.C, excClassObj nm q B.C B.N [.type "object"] [.type "object"] true [] sub false col none k0 k1 k2 k3 k5 "object.__new__") :: (B.N, dictOf es n) :: ex, ?_, { name := nm, bases := [.type "object"], mro := [.ref B.C, .type "object"], ns := B.N, qualname := q, hasDict := true, slotNames := [], subclasses := sub, abstract := false, collection := col, hasDel := false }, ?_, rfl, rfl, ?_, ?_, ⟨nm, q, sub, col, k0, k1, k2, k3, k5, by rw [List.lookup_cons, beq_self_eq_true]⟩⟩
  · intro a o e
    rw [List.lookup_cons] at e
    split at e
    · rename_i q1; cases e; rw [beq_iff_eq.mp q1]; exact k _ _ hC
    · rw [List.lookup_cons] at e
      split at e
      · rename_i q1; cases e; rw [beq_iff_eq.mp q1]; exact k _ _ hN
      · exact hex a o e
  · unfold clsIn
    rw [List.lookup_cons, beq_self_eq_true]
  · intro name
    have hN' : List.lookup B.N ((B.C, excClassObj nm q B.C B.N [.type "object"] [.type "object"] true [] sub false col none k0 k1 k2 k3 k5 "object.__new__") :: (B.N, dictOf es n) :: ex) = some (dictOf es n) := by
      rw [List.lookup_cons, beq_eq_false_iff_ne.mpr hne, List.lookup_cons, beq_self_eq_true]
    have hC' : List.lookup B.C ((B.C, excClassObj nm q B.C B.N [.type "object"] [.type "object"] true [] sub false col none k0 k1 k2 k3 k5 "object.__new__") :: (B.N, dictOf es n) :: ex) = some (excClassObj nm q B.C B.N [.type "object"] [.type "object"] true [] sub false col none k0 k1 k2 k3 k5 "object.__new__") := by
      rw [List.lookup_cons, beq_self_eq_true]
    have own : ownIn ((B.C, excClassObj nm q B.C B.N [.type "object"] [.type "object"] true [] sub false col none k0 k1 k2 k3 k5 "object.__new__") :: (B.N, dictOf es n) :: ex) name (.ref B.C) = some (B.l.lookup name) := by
      unfold ownIn
      dsimp only
      rw [hC']
      exact nsIn_of hN' he name
    unfold findIn
    dsimp only
    rw [hC']
    show alongIn _ name [.ref B.C, .type "object"] = _
    unfold alongIn
    rw [own]
    cases B.l.lookup name with
    | some v => rfl
    | none =>
      show alongIn _ name [.type "object"] = some (fastBuiltinOwn "object" name)
      unfold alongIn
      show (match some (fastBuiltinOwn "object" name) with | some (some v) => some (some v) | some none => alongIn _ name [] | none => none) = _
      cases fastBuiltinOwn "object" name <;> rfl
  · intro a o e h1 h2
    have ha := hex a o e
    rw [List.lookup_cons, beq_eq_false_iff_ne.mpr (fun q1 => by rw [q1, k _ _ hC] at ha; cases ha; exact h1 _ rfl), List.lookup_cons, beq_eq_false_iff_ne.mpr (fun q1 => by rw [q1, k _ _ hN] at ha; cases ha; exact h2 _ _ rfl)]
    exact e
end
end Mine
end
section
set_option maxRecDepth 100000
set_option linter.unusedVariables false
open PySem PySem.W PyProof.Rows PySem.Claim2Try PySem.Pin Builtin Builtin.ObjectAttr
namespace Mine
section
variable {prog : Program} {w : World} {B : Bs} {G : Pg} {A : Around} {env : Env} {sc : Scope} {ρ ρ' : Rho} {σ : Hp} {s : Shared} {L : Loc} {h : Heap}
theorem handed_plain {v : AV} {u : Value} (hp : plainAV v = true) (r : RepV B h ρ v u) : handedIn u = true := by
  cases r <;> first | rfl | cases hp
theorem own_ga : fastBuiltinOwn "object" (Str.ofString "__getattribute__") = some (.builtin "object.__getattribute__") := by kernel_rfl
theorem own_gattr : fastBuiltinOwn "object" (Str.ofString "__getattr__") = none := by kernel_rfl
theorem get_int : fastLookup "int" (Str.ofString "__get__") = some none := by kernel_rfl
theorem get_str : fastLookup "str" (Str.ofString "__get__") = some none := by kernel_rfl
theorem get_list : fastLookup "list" (Str.ofString "__get__") = some none := by kernel_rfl
theorem get_fn : fastLookup "function" (Str.ofString "__get__") = some (some (.builtin "function.__get__")) := by kernel_rfl
theorem set_fn : fastLookup "function" (Str.ofString "__set__") = some none := by kernel_rfl
theorem del_fn : fastLookup "function" (Str.ofString "__delete__") = some none := by kernel_rfl
theorem specialIn_int {K : Frag} {i : Int} {t : Tok} : specialIn K (.int i t) (Str.ofString "__get__") = some none := get_int
theorem specialIn_str {K : Frag} {i : Str} {t : Tok} : specialIn K (.str i t) (Str.ofString "__get__") = some none := get_str
theorem specialIn_ref {K : Frag} {a : Addr} {o : Obj} {T : String} {name : Str} {r : Option (Option Value)} (hl : K.lookup a = some o) (hc : o.cls = .type T) (hf : fastLookup T name = r) : specialIn K (.ref a) name = r := by
  unfold specialIn typeIn
  dsimp only
  rw [hl]
  show findIn K o.cls name = r
  rw [hc]
  exact hf
theorem notCls_of {o : Obj} (h : ∀ c, o.data ≠ .cls c) : notCls o = true := by
  unfold notCls
  split
  · rename_i c hc; exact (h c hc).elim
  · rfl
theorem frag1 {h : Heap} {q : Addr} {o : Obj} (hq : h.get? q = some o) : ∀ b o', List.lookup b [(q, o)] = some o' → h.get? b = some o' := fun b o' e => by
  rw [List.lookup_cons] at e
  cases hb : b == q with
  | true => rw [hb] at e; cases e; rw [beq_iff_eq.mp hb]; exact hq
  | false => rw [hb] at e; cases e
theorem frag1_self {q : Addr} {o : Obj} : List.lookup q [(q, o)] = some o := by rw [List.lookup_cons, beq_self_eq_true]
/-- a name that the class has and no object of it -/
theorem attr_cls {v : AV} {n : Nat} {at_ : List (Str × AV)} {a : Str} {u : Value} {Q : Value → Shared → Prop} {ex : Bool} (ok : Ok B G) (S : St B ρ σ s) (hn : nth σ n = some (.inst at_)) (hv : lookS a at_ = none) (r : RepV B s.heap ρ (.loc n) u) {st : Stmt} (hst : clsFind a G.body = some st) :
    ∃ x p, ρ[n]? = some p ∧ B.l.lookup a = some x ∧ ClsFact B st x ∧
      (∀ {K0 : Frag}, K0.In s.heap → (∃ cd, clsIn K0 B.C = some cd ∧ cd.hasDict = true ∧ cd.mro = [.ref B.C, .type "object"]) → (∀ name, findIn K0 (.ref B.C) name = some (match B.l.lookup name with | some v => some v | none => fastBuiltinOwn "object" name)) →
        specialIn K0 x (Str.ofString "__get__") = some none → handedIn x = true → Q x { s with toks := s.toks + 1 } → wpAny (model prog w) A (getAttr u a ex) Q no s) ∧
      (∀ {f : Addr} {fo : Obj}, x = .ref f → B.hb.get? f = some fo → fo.cls = .type "function" → (∃ fd, fo.data = .func fd) → Q (.ref s.heap.objs.size) ⟨s.heap.push (methodObj (.ref f) (.ref p.1)), s.gens, s.drawn, s.toks + 1, s.os⟩ → wpAny (model prog w) A (getAttr u a ex) Q no s) := by
  obtain ⟨p, ox, m, hp, rfl, hne, hox, hc, hd, hdi, hns, hm⟩ := S.instAt hn r
  obtain ⟨od, es, ep, ho2, hd2, hk2, _, hf2⟩ := id hns
  have I : InstAt s.heap p.1 ox B.C (some od) := ⟨hox, hc, notCls_of hd, by rw [hdi]; exact ho2⟩
  have hlook : ∀ x, lookIn x od = some (m x) := fun x => lookIn_of hd2 hk2 (hf2 x)
  have hx := hm a
  rw [hv] at hx
  obtain ⟨x, hl, mx⟩ := ok.mem a _ hst
  refine ⟨x, p, hp, hl, mx, fun {K0} X ⟨cd, hcd, hdct, hmro⟩ hfind hsp hh hq => ?_, fun {f fo} e hf hfc ⟨fd, hfd⟩ hq => ?_⟩
  · refine get_value (v := x) X I (by rw [hfind, ok.hooks.1, own_ga]) ?_ hh hq
    unfold findObj
    rw [hcd, Option.bind_some, hfind, hl]
    simp only [Option.bind_some, hsp]
    unfold PySem.W.ownOf
    rw [if_pos hdct]
    dsimp only
    rw [hlook, hx]
    simp only [Option.bind_some, ok.plain a st hst, Bool.false_and, Bool.false_eq_true, if_false, hh, if_true]
  · subst e
    obtain ⟨K0, X, cd, hcd, hdct, hmro, hfind, hex, _⟩ := clsK ok S.keep [(f, fo)] (frag1 (S.keep _ _ hf))
    have hK := hex f fo frag1_self (fun _ e => by rw [hfd] at e; cases e) (fun _ _ e => by rw [hfd] at e; cases e)
    have hg : specialIn K0 (.ref f) (Str.ofString "__get__") = some (some (.builtin "function.__get__")) := specialIn_ref hK hfc get_fn
    have ht : takesIn K0 (.ref f) = some false := by
      unfold takesIn
      rw [specialIn_ref hK hfc set_fn]
      dsimp only
      rw [specialIn_ref hK hfc del_fn]
      rfl
    refine get_bind (g := .builtin "function.__get__") (a := .ref f) X I (by rw [hfind, ok.hooks.1, own_ga]) ?_ (by rw [hfind, ok.hooks.2.1, own_gattr]) ?_
    · unfold findObj
      rw [hcd, Option.bind_some, hfind, hl]
      simp only [Option.bind_some, hg, ht]
      unfold PySem.W.ownOf
      rw [if_pos hdct]
      dsimp only
      rw [hlook, hx]
      simp only [Option.bind_some, ok.plain a _ hst, Bool.false_and, Bool.false_eq_true, if_false]
    · exact wpAny_call (fn_get (s := { s with toks := s.toks + 1 }) X (by unfold typeIn; dsimp only; rw [hK]; exact congrArg some hfc) (wpAny_pure hq))
/-- a name that the object has -/
theorem attr_own {n : Nat} {at_ : List (Str × AV)} {a : Str} {v' : AV} {u : Value} {Q : Value → Shared → Prop} {ex : Bool} (ok : Ok B G) (S : St B ρ σ s) (hn : nth σ n = some (.inst at_)) (hv : lookS a at_ = some v') (r : RepV B s.heap ρ (.loc n) u) (hi : memS a ivars = true) (hpl : plainAV v' = true)
    (q : ∀ w', RepV B s.heap ρ v' w' → Q w' { s with toks := s.toks + 1 }) : wpAny (model prog w) A (getAttr u a ex) Q no s := by
  obtain ⟨p, ox, m, hp, rfl, hne, hox, hc, hd, hdi, hns, hm⟩ := S.instAt hn r
  obtain ⟨od, es, ep, ho2, hd2, hk2, _, hf2⟩ := id hns
  have I : InstAt s.heap p.1 ox B.C (some od) := ⟨hox, hc, notCls_of hd, by rw [hdi]; exact ho2⟩
  have hx := hm a
  rw [hv] at hx
  obtain ⟨w', hw', rw'⟩ := hx
  obtain ⟨i1, i2, i3, i4⟩ := ok.ivar a hi
  obtain ⟨K0, X, cd, hcd, hdct, hmro, hfind, _⟩ := clsK ok S.keep [] (fun _ _ e => nomatch e)
  refine get_value (v := w') X I (by rw [hfind, ok.hooks.1, own_ga]) ?_ (handed_plain hpl rw') (q w' rw')
  unfold findObj
  rw [hcd, Option.bind_some, hfind, i1, i2]
  simp only [Option.bind_some]
  unfold PySem.W.ownOf
  rw [if_pos hdct]
  dsimp only
  rw [show lookIn a od = some (m a) from lookIn_of hd2 hk2 (hf2 a), hw']
  rfl
theorem attrI_inv {v : AV} {a : Str} {K : AV → Prop} (k : attrI G v a σ K) : ∃ n at_, v = .loc n ∧ nth σ n = some (.inst at_) ∧ ((∃ v', lookS a at_ = some v' ∧ memS a ivars = true ∧ plainAV v' = true ∧ K v') ∨ (lookS a at_ = none ∧ ∃ st, clsFind a G.body = some st ∧ ClsAttr a n K st)) := by
  cases v with
  | loc n =>
    have k : attrL G n a (nth σ n) K := k
    cases hn : nth σ n with
    | none => rw [hn] at k; exact k.elim
    | some o =>
      rw [hn] at k
      cases o with
      | inst at_ =>
        have k : attrO a (clsFind a G.body) n K (lookS a at_) := k
        cases hv : lookS a at_ with
        | some v' =>
          rw [hv] at k
          obtain ⟨c, k⟩ := condF k
          rw [Bool.and_eq_true] at c
          exact ⟨n, at_, rfl, hn, .inl ⟨v', hv, c.1, c.2, k⟩⟩
        | none =>
          rw [hv] at k
          cases hst : clsFind a G.body with
          | none => rw [hst] at k; exact k.elim
          | some st => rw [hst] at k; exact ⟨n, at_, rfl, hn, .inr ⟨hv, st, rfl, k⟩⟩
      | _ => exact k.elim
  | _ => exact False.elim k
theorem sound_attr {v : AV} {a : Str} {u : Value} {K : KV} {ex : Bool} (ok : Ok B G) (k : attrI G v a σ fun x => K x σ) (S : St B ρ σ s) (r : RepV B s.heap ρ v u) :
    wpAny (model prog w) A (getAttr u a ex) (PV B ρ s.heap K) no s := by
  obtain ⟨n, at_, rfl, hn, ⟨v', hv, i1, i2, k⟩ | ⟨hv, st, hst, k⟩⟩ := attrI_inv k
  · exact attr_own ok S hn hv r i1 i2 fun w' rw' => PV.of rw' S.toks (.refl ..) k
  · obtain ⟨x, p, hp, hl, mx, one, two⟩ := attr_cls (prog := prog) (w := w) (A := A) (ex := ex) (Q := PV B ρ s.heap K) (v := .none) ok S hn hv r hst
    cases mx with
    | asg hc =>
      rename_i c _ _ _
      obtain ⟨K0, X, cd0, hcd1, hcd2, hcd3, hfind, _⟩ := clsK ok S.keep [] (fun _ _ e => nomatch e)
      cases c with
      | int i =>
        obtain ⟨t, rfl⟩ := hc
        exact one X ⟨cd0, hcd1, hcd2, hcd3⟩ hfind specialIn_int rfl (PV.of (.int i t) S.toks (.refl ..) k)
      | str i =>
        obtain ⟨t, rfl⟩ := hc
        exact one X ⟨cd0, hcd1, hcd2, hcd3⟩ hfind specialIn_str rfl (PV.of (.str i t) S.toks (.refl ..) k)
      | _ => exact False.elim k
    | @lst _ _ _ _ _ q vs _ hq _ =>
      obtain ⟨K0, X, cd0, hcd1, hcd2, hcd3, hfind, hex, _⟩ := clsK ok S.keep [(q, { cls := .type "list", data := .seq vs.toArray })] (frag1 (S.keep _ _ (ok.lift _ _ (ty_none _) hq)))
      exact one X ⟨cd0, hcd1, hcd2, hcd3⟩ hfind (specialIn_ref (hex q { cls := .type "list", data := .seq vs.toArray } frag1_self (fun _ e => nomatch e) (fun _ _ e => nomatch e)) rfl get_list) rfl (PV.of (.clst a _ hl) S.toks (.refl ..) k)
    | fn fn =>
      obtain ⟨hi, k⟩ := condT k
      obtain ⟨f, dV, pm, c, doc, P, dv, rfl, _, _, _, hf, _⟩ := fn
      exact two rfl (ok.lift _ _ (ty_none _) hf) rfl ⟨_, rfl⟩ (PV.of (.bm a n _ f p (S.notOwn (get?_size _)) (Heap.get?_push_size _ rfl) hl hp) (S.push _) (.push _) k)
end
end Mine
end
section
set_option maxRecDepth 100000
set_option linter.unusedVariables false
open PySem PySem.W PyProof.Rows PySem.Claim2Try PySem.Pin Builtin Builtin.ObjectAttr
namespace Mine
theorem mro_obj : fastBuiltinMro "object" = some [.type "object"] := by kernel_rfl
theorem lk_obj (name : Str) : typeLookup (.type "object") name = pure (fastBuiltinOwn "object" name) := by
  rw [typeLookup_type, builtinLookup_eq_fast]
  unfold fastLookup
  rw [mro_obj]
  show (pure ((([Value.type "object"]).findSome? fun | .type n => fastBuiltinOwn n name | _ => none)) : Sem (Option Value)) = _
  rw [List.findSome?_cons]
  dsimp only
  cases fastBuiltinOwn "object" name <;> rfl
section
variable {prog : Program} {w : World} {B : Bs} {G : Pg} {A : Around} {env : Env} {sc : Scope} {ρ ρ' : Rho} {σ : Hp} {s : Shared} {L : Loc} {h : Heap}
theorem lookS_mem {x : Str} {v : AV} : ∀ {l : List (Str × AV)}, lookS x l = some v → x ∈ l.map (·.1)
  | [], e => by cases e
  | (y, u) :: r, e => by
    unfold lookS at e
    cases hq : eqS x y with
    | true => rw [eqS_iff.mp hq]; exact List.mem_cons_self ..
    | false => rw [hq] at e; exact List.mem_cons_of_mem _ (lookS_mem e)
theorem instK_inv {v : AV} {K : Nat → List (Str × AV) → Prop} (k : instK σ v K) : ∃ n at_, v = .loc n ∧ nth σ n = some (.inst at_) ∧ K n at_ := by
  cases v with
  | loc n =>
    have k : (match nth σ n with
      | some (.inst at_) => K n at_
      | _ => False) := k
    cases hn : nth σ n with
    | none => rw [hn] at k; exact k.elim
    | some o =>
      rw [hn] at k
      cases o with
      | inst at_ => exact ⟨n, at_, rfl, hn, k⟩
      | _ => exact k.elim
  | _ => exact False.elim k
theorem sound_setAttr {v : AV} {a : Str} {x : AV} {u y : Value} {K : Hp → Prop} {Q : Unit → Shared → Prop} (ok : Ok B G) (k : setAttrI v a x σ K) (S : St B ρ σ s) (r : RepV B s.heap ρ v u) (rx : RepV B s.heap ρ x y)
    (q : ∀ σ' s', St B ρ σ' s' → Ext [] s.heap ρ s'.heap ρ → K σ' → Q () s') : wpAny (model prog w) A (setAttr u a y) Q no s := by
  obtain ⟨n, at_, rfl, hn, k⟩ := instK_inv k
  obtain ⟨hc, k⟩ := condF k
  rw [Bool.and_eq_true, decide_eq_true_eq] at hc
  obtain ⟨i1, i2, _, _⟩ := ok.ivar a hc.1
  obtain ⟨p, ox, m, hp, rfl, hne, hox, hcl, hd, hdi, hns, hm⟩ := S.instAt hn r
  obtain ⟨nm, q', sub, col, k0, k1, k2, k3, k5, hC⟩ := ok.cobj
  obtain ⟨hh, g, d, t, os⟩ := s
  have hC' := S.keep _ _ hC
  have hN' := (ok.names.keeps S.keep).ns
  have I : hh.Inst p.1 B.C m := ⟨ox, hox, hcl, hd, .inr ⟨p.2, hdi, hne, hns⟩⟩
  have hxC : p.1 ≠ B.C := fun e => by
    have := (S.above p (mem_of_at hp)).1
    rw [e, hC] at this; cases this
  refine store_attr (ns := at_.map (·.1)) F.store_object hC' hN' ok.hooks.2.2 i1 (by rw [lk_obj, i2]) hxC I (fun h' tk' I' keep same => ?_) (fun y' hy => ?_) (by rw [List.length_map, sizeLine]; omega)
  · obtain ⟨o1, ho1, c1, d1, _, dict1⟩ := same ox hox
    obtain ⟨o2, ho2, _, _, alt⟩ := I'
    rw [ho1] at ho2
    cases ho2
    have hdx := dict1 p.2 hdi
    rcases alt with ⟨hno, _⟩ | ⟨dx, hdx', hne', hns'⟩
    · rw [hdx] at hno; cases hno
    · rw [hdx] at hdx'
      cases hdx'
      have hns2 : ∃ o, h'.get? p.2 = some o := let ⟨o, _, _, e, _⟩ := hns'; ⟨o, e⟩
      have kk : ∀ b o, b ≠ p.1 → b ≠ p.2 → hh.get? b = some o → h'.get? b = some o := fun b o h1 h2 e => keep b o h1 (fun o₀ dx' e1 e2 => by rw [hox] at e1; cases e1; rw [hdi] at e2; cases e2; exact h2) e
      have E' : Ext [] hh ρ h' ρ := ⟨⟨⟨[], by simp, fun _ z => nomatch z⟩, fun b o hn' _ e => kk b o (hn' p (mem_of_at hp)).1 (hn' p (mem_of_at hp)).2 e⟩, fun b o e => by
        by_cases h1 : b = p.1
        · rw [h1]; exact ⟨_, ho1⟩
        · by_cases h2 : b = p.2
          · rw [h2]; exact hns2
          · exact ⟨o, kk b o h1 h2 e⟩⟩
      rw [setN_eq] at k
      obtain ⟨S', _⟩ := S.set (h' := h') (tk := tk') (d := d) (o := .inst (putS a x at_)) hp kk ⟨_, ho1⟩ hns2
        ⟨hne, o1, _, ho1, c1.trans hcl, (fun c z => hd c (d1 ▸ z)), hdx, hns', fun z => by
          rw [lookS_putS]
          by_cases hz : z = a
          · rw [if_pos hz]
            exact ⟨y, if_pos hz, rx.ext0 E'⟩
          · rw [if_neg hz]
            have := hm z
            split at this
            · rename_i v' hv'
              try rw [hv']
              obtain ⟨w', e1, r1⟩ := this
              exact ⟨w', (if_neg hz).trans e1, r1.ext0 E'⟩
            · rename_i hv'
              try rw [hv']
              exact (if_neg hz).trans this⟩
      exact q _ _ S' E' k
  · have := hm y'
    split at this
    · rename_i v' hv'; exact lookS_mem hv'
    · exact (hy this).elim
inductive DictK (σ : Hp) (v : AV) (K : Nat → List (Int × AV) → Prop) : Prop
  | mk (n : Nat) (ep : Option Nat) (es : List (Int × AV)) (hv : v = .loc n) (hn : nth σ n = some (.idict ep es)) (k : K n es) : DictK σ v K
theorem dictAtK_inv {v : AV} {K : Nat → List (Int × AV) → Prop} (k : dictAtK σ v K) : DictK σ v K := by
  cases v with
  | loc n =>
    have k : (match nth σ n with
      | some (.idict _ es) => K n es
      | _ => False) := k
    cases hn : nth σ n with
    | none => rw [hn] at k; exact k.elim
    | some o =>
      rw [hn] at k
      cases o with
      | idict ep es => exact ⟨n, ep, es, rfl, hn, k⟩
      | _ => exact k.elim
  | _ => exact False.elim k
theorem isDict_inv {v : AV} (h : isDict σ v = true) : ∃ n ep es, v = .loc n ∧ nth σ n = some (.idict ep es) := by
  cases v with
  | loc n =>
    have h : (match nth σ n with
      | some (.idict _ _) => true
      | _ => false) = true := h
    cases hn : nth σ n with
    | none => rw [hn] at h; exact absurd h Bool.false_ne_true
    | some o =>
      rw [hn] at h
      cases o with
      | idict ep es => exact ⟨n, ep, es, rfl, hn⟩
      | _ => exact absurd h Bool.false_ne_true
  | _ => exact absurd h Bool.false_ne_true
theorem isLst_inv {v : AV} (h : isLst σ v = true) : ∃ n o, v = .loc n ∧ nth σ n = some o ∧ ((∃ N f, o = .nums N f) ∨ ∃ vs, o = .list vs) := by
  cases v with
  | loc n =>
    have h : (match nth σ n with
      | some (.nums _ _) => true
      | some (.list _) => true
      | _ => false) = true := h
    cases hn : nth σ n with
    | none => rw [hn] at h; exact absurd h Bool.false_ne_true
    | some o =>
      rw [hn] at h
      cases o with
      | nums N f => exact ⟨n, _, rfl, hn, .inl ⟨_, _, rfl⟩⟩
      | list vs => exact ⟨n, _, rfl, hn, .inr ⟨_, rfl⟩⟩
      | _ => exact absurd h Bool.false_ne_true
  | _ => exact absurd h Bool.false_ne_true
/-- a dict, as the machine has it -/
inductive DictR (B : Bs) (h : Heap) (ρ : Rho) (n : Nat) (ep : Option Nat) (es : List (Int × AV)) (u : Value) : Prop
  | mk (p : Addr × Addr) (kvs : List (Int × Value)) (ep' : Nat) (hp : ρ[n]? = some p) (hu : u = .ref p.1) (h2 : p.2 = p.1) (hs : (p.1 == sysModules) = false) (hl : es.length ≤ 1000000) (he : ∀ e, ep = some e → ep' = e) (hD : ∀ prog w, h.DictAt (intKind prog w) p.1 kvs ep') (hr : RepPs B h ρ es kvs) : DictR B h ρ n ep es u
theorem St.dictR (S : St B ρ σ s) {n : Nat} {ep : Option Nat} {es : List (Int × AV)} {u : Value} (hn : nth σ n = some (.idict ep es)) (r : RepV B s.heap ρ (.loc n) u) :
    DictR B s.heap ρ n ep es u := by
  obtain ⟨p, hp, rfl⟩ := r.loc_inv
  rw [nth_eq] at hn
  obtain ⟨e1, e2, hl, kvs, ⟨ep', h1, h2⟩, h4⟩ := S.obj n p _ hp hn
  exact ⟨p, kvs, ep', hp, rfl, e1, beq_eq_false_iff_ne.mpr e2, hl, h1, h2, h4⟩
theorem RepPs.look {es : List (Int × AV)} {kvs : List (Int × Value)} (r : RepPs B h ρ es kvs) (k : Int) : (lookK k es = none ∧ valueAt kvs k = none) ∨ ∃ v u, lookK k es = some v ∧ valueAt kvs k = some u ∧ RepV B h ρ v u := by
  induction r with
  | nil => exact .inl ⟨rfl, rfl⟩
  | @cons j v u r r' a _ ih =>
    have e1 : lookK k ((j, v) :: r) = cond (decide (j = k)) (some v) (lookK k r) := rfl
    have e2 : valueAt ((j, u) :: r') k = if j = k then some u else valueAt r' k := by
      unfold valueAt
      rw [List.find?_cons]
      by_cases e : j = k
      · rw [if_pos e, decide_eq_true e]; rfl
      · rw [if_neg e, decide_eq_false e]
    rw [e1, e2]
    by_cases e : j = k
    · rw [decide_eq_true e, if_pos e]; exact .inr ⟨v, u, rfl, rfl, a⟩
    · rw [decide_eq_false e, if_neg e]; exact ih
theorem RepPs.put {es : List (Int × AV)} {kvs : List (Int × Value)} {k : Int} {v : AV} {u : Value} (r : RepPs B h ρ es kvs) (rv : RepV B h ρ v u) : RepPs B h ρ (putK k v es) (stored kvs k u) := by
  have has : kvs.any (fun kv => decide (kv.1 = k)) = hasK k es := by
    induction r with
    | nil => rfl
    | @cons j v' u' r r' a _ ih =>
      rw [List.any_cons, ih]
      show (decide (j = k) || hasK k r) = cond (decide (j = k)) true (hasK k r)
      cases decide (j = k) <;> rfl
  unfold stored putK
  rw [has]
  cases hasK k es with
  | true =>
    rw [if_pos rfl]
    show RepPs B h ρ (turnK k v es) _
    clear has
    induction r with
    | nil => exact .nil
    | @cons j v' u' r r' a _ ih =>
      rw [List.map_cons]
      show RepPs B h ρ (cond (decide (j = k)) ((j, v) :: turnK k v r) ((j, v') :: turnK k v r)) _
      by_cases e : j = k
      · rw [decide_eq_true e, if_pos e]; exact .cons rv ih
      · rw [decide_eq_false e, if_neg e]; exact .cons a ih
  | false =>
    rw [if_neg Bool.false_ne_true]
    show RepPs B h ρ (es ++ [(k, v)]) _
    clear has
    induction r with
    | nil => exact .cons rv .nil
    | cons a _ ih => exact .cons a ih
theorem RepPs.len {es : List (Int × AV)} {kvs : List (Int × Value)} (r : RepPs B h ρ es kvs) : kvs.length = es.length := by
  induction r with
  | nil => rfl
  | cons _ _ ih => exact congrArg (· + 1) ih
theorem putK_len (k : Int) (v : AV) (es : List (Int × AV)) : (putK k v es).length ≤ es.length + 1 := by
  have t : (turnK k v es).length = es.length := by
    induction es with
    | nil => rfl
    | cons x r ih =>
      obtain ⟨j, u⟩ := x
      show (cond (decide (j = k)) ((j, v) :: turnK k v r) ((j, u) :: turnK k v r)).length = r.length + 1
      rw [← ih]
      cases decide (j = k) <;> rfl
  unfold putK
  cases hasK k es with
  | true => exact Nat.le_succ_of_le (Nat.le_of_eq t)
  | false => exact Nat.le_of_eq List.length_append
/-- the method of a list, of a dict, of an object -/
theorem sound_callee {v : AV} {m : Str} {u : Value} {K : AV → List AV → Prop} {Q : Value × List Value → Shared → Prop} {pl : Sem Bool} (ok : Ok B G) (k : calleeI G v m σ K) (S : St B ρ σ s) (r : RepV B s.heap ρ v u)
    (q : ∀ f fw, RepV B s.heap ρ f fw → K f [v] → Q (fw, [u]) s) : wpAny (model prog w) A (getMethod u m pl) Q no s := by
  unfold calleeI at k
  cases hl : isLst σ v with
  | true =>
    rw [hl] at k
    obtain ⟨hm, k⟩ := condF k
    obtain rfl := eqS_iff.mp hm
    obtain ⟨n, o, rfl, hn, ho⟩ := isLst_inv hl
    obtain ⟨p, hp, rfl⟩ := r.loc_inv
    rw [nth_eq] at hn
    have : ∃ its e, s.heap.get? p.1 = some (listOf its e) := by
      have := S.obj n p o hp hn
      rcases ho with ⟨N, f, rfl⟩ | ⟨vs, rfl⟩
      · obtain ⟨_, its, e, h, _⟩ := this; exact ⟨its, e, h⟩
      · obtain ⟨_, _, its, e, h, _⟩ := this; exact ⟨its, e, h⟩
    obtain ⟨its, e, h⟩ := this
    exact Calls.getMethod_list_append h rfl rfl (q _ _ (.bi _) k)
  | false =>
  rw [hl] at k
  cases hd : isDict σ v with
  | true =>
    rw [hd] at k
    obtain ⟨hm, k⟩ := condF k
    obtain rfl := eqS_iff.mp hm
    obtain ⟨n, ep, es, rfl, hn⟩ := isDict_inv hd
    obtain ⟨p, kvs, ep', hp, rfl, _, _, _, _, hD, _⟩ := S.dictR hn r
    exact getMethod_builtin (hD prog w).dictOf.typeIs F.plainAttrs_dict F.slot_dict_get F.type_dict_get (hD prog w).dictOf.mapOf.noDict (q _ _ (.bi _) k)
  | false =>
  rw [hd] at k
  obtain ⟨n, at_, rfl, hn, k⟩ := instK_inv k
  obtain ⟨hc, k⟩ := condF k
  rw [Bool.and_eq_true, Option.isNone_iff_eq_none] at hc
  obtain ⟨p, ox, mm, hp, rfl, hne, hox, hcl, hd, hdi, hns, hm⟩ := S.instAt hn r
  obtain ⟨nm, q', sub, col, k0, k1, k2, k3, k5, hC⟩ := ok.cobj
  obtain ⟨dd, hdd⟩ := Option.isSome_iff_exists.mp hc.2
  obtain ⟨pa, bo, sc'⟩ := dd
  obtain ⟨x, _, _, hx, fn, _⟩ := ok.meth hdd
  obtain ⟨f, dV, pm, c, doc, P, dv, rfl, _, _, _, hf, _⟩ := fn
  obtain ⟨hh, g, d, t, os⟩ := s
  have hsh : mm m = none := by have := hm m; rw [hc.1] at this; exact this
  exact method_of (S.keep _ _ hC) (ok.names.keeps S.keep).ns ok.hooks.1 ok.hooks.2.1 hx (S.keep _ _ (ok.lift _ _ (ty_none _) hf)) rfl (lk_obj m) ⟨ox, hox, hcl, hd, .inr ⟨p.2, hdi, hne, hns⟩⟩ hsh (q _ _ (.mth m _ hx) k)
end
end Mine
end
section
set_option maxRecDepth 100000
set_option linter.unusedVariables false
open PySem PySem.W PyProof.Rows PySem.Claim2Try PySem.Pin
namespace Mine
section
variable {prog : Program} {w : World} {B : Bs} {G : Pg} {A : Around} {env : Env} {sc : Scope} {ρ ρ' : Rho} {σ : Hp} {s : Shared} {L : Loc} {h : Heap}
theorem sub_tail {value slice : Expr} {o i : Value} {T id : String} {Q : Value → Shared → Prop} (hT : s.TypeIs o T) (hl : typeLookup (.type T) "__getitem__" = pure (some (.builtin id)))
    (hs : subscripted slice false o i = operate [o, i] (getItem o i) ∨ subscripted slice false o i = operate [i, o] (getItem o i)) (g : wpAny (model prog w) A (getItem o i) Q no s) : wpAny (model prog w) A (subscriptTail value slice o i) Q no s := by
  unfold subscriptTail
  refine wpAny_bind ?_
  rw [getitemInPython_of_ne hT.not_modules]
  refine wpAny_bind (wpAny_specialOf hT hl ?_)
  have fin : wpAny (model prog w) A (subscripted slice false o i) (fun r s₃ => wpAny (model prog w) A (letTemporaryGo value o r >>= fun _ => pure r) Q no s₃) no s := by
    rcases hs with hs | hs <;> rw [hs] <;>
    exact wpAny_operating (wpAny_mono g (fun r s₃ h₃ => wpAny_bind (wpAny_letTemporaryGo (wpAny_pure h₃))) fun _ _ x => x)
  first
    | exact wpAny_pure (wpAny_bind fin)
    | exact wpAny_bind (wpAny_pure (wpAny_bind fin))
    | exact wpAny_bind fin
noncomputable def isCut : Expr → Bool
  | .Slice _ _ none _ => true
  | _ => false
theorem subscripted_plain {slice : Expr} {o i : Value} (hc : isCut slice = false) : subscripted slice false o i = operate [o, i] (getItem o i) := by
  cases slice with
  | Slice a b c p =>
    cases c with
    | none => cases hc
    | some _ => rfl
  | _ => rfl
theorem RepVs.at_ {vs : List AV} {ws : List Value} {v : AV} : ∀ {i : Nat}, RepVs B h ρ vs ws → nth vs i = some v → ∃ u, ws[i]? = some u ∧ RepV B h ρ v u := by
  intro i r
  induction vs generalizing ws i with
  | nil => intro e; cases e
  | cons x r' ih =>
    cases r with | cons a b =>
    intro e
    cases i with
    | zero => cases e; exact ⟨_, rfl, a⟩
    | succ i =>
      obtain ⟨u, h1, h2⟩ := ih b e
      exact ⟨u, by rw [List.getElem?_cons_succ]; exact h1, h2⟩
theorem RepVs.len {vs : List AV} {ws : List Value} (r : RepVs B h ρ vs ws) : ws.length = vs.length := by
  induction vs generalizing ws with
  | nil => cases r; rfl
  | cons x r' ih => cases r with | cons a b => rw [List.length_cons, List.length_cons, ih b]
theorem items_at {l : List (Str × Value)} {es : List Expr} {vs : List Value} (hi : Items l es vs) : ∀ {i : Nat} {e : Expr}, nth es i = some e → ∃ v, vs[i]? = some v ∧ Items l [e] [v] := by
  induction hi with
  | nil => intro i e h; cases h
  | name hv _ ih =>
    intro i e h
    cases i with
    | zero => cases h; exact ⟨_, rfl, .name hv .nil⟩
    | succ i => exact ih h
  | const hv _ ih =>
    intro i e h
    cases i with
    | zero => cases h; exact ⟨_, rfl, .const hv .nil⟩
    | succ i => exact ih h
theorem seqIndex_of {k : Int} {n : Nat} (h0 : 0 ≤ k) (hn : k.toNat < n) : seqIndex? k n = some k.toNat := by
  unfold seqIndex?
  split
  · omega
  · dsimp only
    rw [if_pos (by simp only [Bool.and_eq_true, decide_eq_true_eq]; omega)]
theorem isInt_self (i : Int) (t : Tok) : Value.isInt i (.int i t) = true := by show (i == i) = true; exact beq_self_eq_true i
theorem oneK_inv {o : Option AV} {K : AV → Prop} (k : oneK o K) : ∃ u, o = some u ∧ K u := by
  cases o with
  | some u => exact ⟨u, rfl, k⟩
  | none => exact False.elim k
/-- the type of what is subscripted, and its item -/
theorem sound_item {v x : AV} {u y : Value} {K : KV} (ok : Ok B G) (k : itemI G v x σ fun z => K z σ) (S : St B ρ σ s) (r : RepV B s.heap ρ v u) (rx : RepV B s.heap ρ x y) :
    (∃ T id, s.TypeIs u T ∧ typeLookup (.type T) "__getitem__" = pure (some (.builtin id))) ∧ wpAny (model prog w) A (getItem u y) (PV B ρ s.heap K) no s := by
  cases x with
  | int i =>
    obtain ⟨t, rfl⟩ := rx.int_inv
    cases v with
    | loc n =>
      have k : objAt (nth σ n) i fun z => K z σ := k
      obtain ⟨p, hp, rfl⟩ := r.loc_inv
      cases hn : nth σ n with
      | none => rw [hn] at k; exact k.elim
      | some o =>
        rw [hn] at k
        rw [nth_eq] at hn
        cases o with
        | nums N f =>
          obtain ⟨hc, k⟩ := condF k
          rw [Bool.and_eq_true] at hc
          have c1 := of_decide_eq_true hc.1
          have c2 := of_decide_eq_true hc.2
          obtain ⟨_, its, e, h3, h4, h5, h6⟩ := S.obj _ p _ hp hn
          obtain ⟨t', ht'⟩ := h6 i.toNat (by omega)
          exact ⟨⟨"list", _, ⟨_, h3, rfl⟩, F.slot_list_getitem.lookup⟩, wpAny_getItem_list (isList_x h3) c1 (by omega) ht' (PV.of (.int _ _) S (.refl ..) k)⟩
        | list vs =>
          obtain ⟨hc, k⟩ := condF k
          obtain ⟨z, hz, k⟩ := oneK_inv k
          obtain ⟨_, hlen, its, e, ho, hr⟩ := S.obj _ p _ hp hn
          obtain ⟨u', hu', ru'⟩ := hr.at_ hz
          have hlt : i.toNat < vs.length := by rw [nth_eq] at hz; exact (List.getElem?_eq_some_iff.mp hz).1
          exact ⟨⟨"list", _, ⟨_, ho, rfl⟩, F.slot_list_getitem.lookup⟩, wpAny_getItem_list (isList_x ho) (of_decide_eq_true hc) (by omega) (by rw [← Array.getElem?_toList]; exact hu') (PV.of ru' S (.refl ..) k)⟩
        | idict ep es =>
          obtain ⟨z, hz, k⟩ := oneK_inv k
          obtain ⟨p2, kvs, ep', hp2, ep2, _, _, _, _, hD, rp⟩ := S.dictR (by rw [nth_eq]; exact hn) (.loc n p hp)
          rw [hp] at hp2
          cases hp2
          rcases rp.look i with ⟨e, _⟩ | ⟨z', u', e, hv, rz⟩
          · rw [e] at hz; cases hz
          · rw [e] at hz
            cases hz
            exact ⟨⟨"dict", _, (hD prog w).dictOf.typeIs, F.slot_dict_getitem.lookup⟩, wpAny_getItem_of (knd := intKind prog w) (isInt_self i t) (hD prog w).dictOf.mapOf hv (PV.of rz S.toks (.refl ..) k)⟩
        | _ => exact False.elim k
    | fnum N f =>
      obtain ⟨hc, k⟩ := condF k
      rw [Bool.and_eq_true] at hc
      have c1 := of_decide_eq_true hc.1
      have c2 := of_decide_eq_true hc.2
      cases r with | fnum _ _ a its e hno h3 h4 h5 h6 =>
      obtain ⟨t', ht'⟩ := h6 i.toNat (by omega)
      exact ⟨⟨"list", _, ⟨_, h3, rfl⟩, F.slot_list_getitem.lookup⟩, wpAny_getItem_list (isList_x h3) c1 (by omega) ht' (PV.of (.int _ _) S (.refl ..) k)⟩
    | tup vs =>
      obtain ⟨hc, k⟩ := condF k
      rw [Bool.and_eq_true] at hc
      have c1 := of_decide_eq_true hc.1
      have c2 := of_decide_eq_true hc.2
      obtain ⟨z, hz, k⟩ := oneK_inv k
      obtain ⟨a, its, e, rfl, hno, ho, hr⟩ := r.tup_inv
      obtain ⟨u', hu', ru'⟩ := hr.at_ hz
      have hlt : i.toNat < its.toList.length := (List.getElem?_eq_some_iff.mp hu').1
      refine ⟨⟨"tuple", _, ⟨_, ho, rfl⟩, PySem.F.slot_tuple_getitem.lookup⟩, ?_⟩
      exact PyProof.Rows.getItem_tuple (j := i.toNat) ⟨_, ho, rfl, e, rfl⟩ (by omega) (by omega) (seqIndex_of c1 hlt) (by rw [← Array.getElem?_toList]; exact hu') (PV.of ru' S (.refl ..) k)
    | clst x =>
      obtain ⟨hc, k⟩ := condF k
      rw [Bool.and_eq_true] at hc
      have c1 := of_decide_eq_true hc.1
      have c2 := of_decide_eq_true hc.2
      cases hst : clsFind x G.body with
      | none => rw [hst] at k; exact False.elim k
      | some st =>
      rw [hst] at k
      obtain ⟨v', hl, mx⟩ := ok.mem _ _ hst
      cases mx with
      | asg _ => exact False.elim k
      | fn _ => exact False.elim k
      | @lst _ _ es _ _ a vs _ ha hit =>
      have k : eltI (nth es i.toNat) fun z => K z σ := k
      cases he : nth es i.toNat with
      | none => rw [he] at k; exact k.elim
      | some e =>
        rw [he] at k
        have e1 : u = .ref a := by cases r with | clst _ _ q => rw [hl] at q; cases q; rfl
        subst e1
        have ho := S.keep _ _ (ok.lift _ _ (ty_none _) ha)
        refine ⟨⟨"list", _, ⟨_, ho, rfl⟩, F.slot_list_getitem.lookup⟩, ?_⟩
        obtain ⟨z, hz, one⟩ := items_at hit he
        have hz : vs.toArray[i.toNat]? = some z := by rw [List.getElem?_toArray]; exact hz
        cases one with
        | name hv _ => exact wpAny_getItem_list ⟨_, ho, rfl, _, rfl⟩ c1 (by omega) hz (PV.of (.mth _ z hv) S (.refl ..) k)
        | @const c _ _ _ _ _ hv _ =>
          cases c with
          | int c =>
            obtain ⟨t', rfl⟩ := hv
            exact wpAny_getItem_list ⟨_, ho, rfl, _, rfl⟩ c1 (by omega) hz (PV.of (.int _ _) S (.refl ..) k)
          | _ => exact False.elim k
    | _ => exact False.elim k
  | _ => exact False.elim k
theorem set_ints {its : Array Value} {N j : Nat} {f : Nat → Int} {x : Int} {t : Tok} (hs : its.size = N) (hf : ∀ i, i < N → ∃ t, its[i]? = some (.int (f i) t)) (hj : j < N) :
    ∀ i, i < N → ∃ t', (its.setIfInBounds j (.int x t))[i]? = some (.int (setF f j x i) t') := by
  intro i hi
  unfold setF
  rw [Array.getElem?_setIfInBounds]
  by_cases e : j = i
  · subst e
    rw [if_pos rfl, if_pos (by omega), Nat.beq_refl]
    exact ⟨t, rfl⟩
  · rw [if_neg e, show Nat.beq i j = false by rw [Bool.eq_false_iff]; intro q; exact e (Nat.eq_of_beq_eq_true q).symm]
    exact hf i hi
theorem pairs_any {prog prog' : Program} {w w' : World} {es : List DictEntry} {kvs : List (Int × Value)} (h : Pairs (intKind prog w) es kvs) : Pairs (intKind prog' w') es kvs := by
  induction h with
  | nil => exact .nil
  | cons a b _ ih => exact .cons a b ih
theorem dictAt_any {prog : Program} {w : World} {a : Addr} {kvs : List (Int × Value)} {ep : Nat} (x : h.DictAt (intKind prog w) a kvs ep) : ∀ prog' w', h.DictAt (intKind prog' w') a kvs ep := fun prog' w' =>
  let ⟨o, es, ho, hc, hd, hk, hp, hn⟩ := x; ⟨o, es, ho, hc, hd, hk, pairs_any hp, hn⟩
theorem intArg_inv {x : AV} {K : Int → Prop} (k : intArg x K) : ∃ i, x = .int i ∧ K i := by
  cases x with
  | int i => exact ⟨i, rfl, k⟩
  | _ => exact False.elim k
theorem sound_setDict {v x z : AV} {u y c : Value} {K : Hp → Prop} {Q : Unit → Shared → Prop} (k : dictAtK σ v fun n es => intArg x fun k => cond (decide (es.length ≤ 1000)) (K (setN σ n (.idict none (putK k z es)))) False) (S : St B ρ σ s) (r : RepV B s.heap ρ v u) (rx : RepV B s.heap ρ x y) (rz : RepV B s.heap ρ z c)
    (q : ∀ σ' s', St B ρ σ' s' → Ext [] s.heap ρ s'.heap ρ → K σ' → Q () s') : wpAny (model prog w) A (setItem u y c) Q no s := by
  have k0 := dictAtK_inv k
  clear k
  obtain ⟨n, ep, es, rfl, hn, k⟩ := k0
  obtain ⟨i, rfl, k⟩ := intArg_inv k
  obtain ⟨hc, k⟩ := condF k
  have hc := of_decide_eq_true hc
  obtain ⟨t, rfl⟩ := rx.int_inv
  obtain ⟨p, kvs, ep', hp, rfl, e1, e2, _, _, hD, rp⟩ := S.dictR hn r
  refine wpAny_setItem_pairs (knd := intKind prog w) (isInt_self i t) (hD prog w).dictOf (fun h' hD' sb => ?_) (by rw [rp.len, sizeLine]; omega)
  obtain ⟨o, es', ep2, ho, q2⟩ := hD'
  have E' : Ext [] s.heap ρ h' ρ := ⟨⟨⟨[], by simp, fun _ q => nomatch q⟩, fun b o hn _ e => (sb.2 b (hn p (mem_of_at hp)).1).trans e⟩, fun b o' e => by
    by_cases hb : b = p.1
    · rw [hb]; exact ⟨_, ho⟩
    · exact ⟨o', (sb.2 b hb).trans e⟩⟩
  have rp' : RepPs B h' ρ (putK i z es) (stored kvs i c) := (rp.put rz).ex E'.toEx fun _ q => nomatch q
  obtain ⟨S', _⟩ := S.set (h' := h') (tk := s.toks + 1) (d := s.drawn) (o := .idict none (putK i z es)) hp (fun b o hb _ hbo => (sb.2 b hb).trans hbo) ⟨_, ho⟩ (by rw [e1]; exact ⟨_, ho⟩)
    ⟨e1, beq_eq_false_iff_ne.mp e2, by have := putK_len i z es; omega, stored kvs i c, ⟨ep2, (fun _ z => nomatch z), dictAt_any ⟨o, es', ho, q2⟩⟩, rp'⟩
  rw [setN_eq] at k
  exact q _ _ S' E' k
theorem sound_setItem {v x z : AV} {u y c : Value} {K : Hp → Prop} {Q : Unit → Shared → Prop} (k : setItemI v x z σ K) (S : St B ρ σ s) (r : RepV B s.heap ρ v u) (rx : RepV B s.heap ρ x y) (rz : RepV B s.heap ρ z c)
    (q : ∀ σ' s', St B ρ σ' s' → Ext [] s.heap ρ s'.heap ρ → K σ' → Q () s') : wpAny (model prog w) A (setItem u y c) Q no s := by
  rcases condB k with k | k
  · exact sound_setDict k S r rx rz q
  obtain ⟨n, N, f, k, p, its, e, h1, rfl, h2, h3, h4, h5, h6⟩ := S.numsR k r
  obtain ⟨i, val, t, t2, rfl, rfl, k⟩ := intR k rx rz
  obtain ⟨hc, k⟩ := condF k
  rw [Bool.and_eq_true] at hc
  have c1 := of_decide_eq_true hc.1
  have c2 := of_decide_eq_true hc.2
  refine setItem_x h3 c1 (by omega) (by omega) fun h' e' ho' sb => ?_
  obtain ⟨S', E'⟩ := S.set (h' := h') (tk := s.toks) (d := s.drawn) (o := .nums N (setF f i.toNat val)) h1 (fun b o hb _ hbo => (sb.2 b hb).trans hbo) ⟨_, ho'⟩ (by rw [h2]; exact ⟨_, ho'⟩)
    ⟨h2, _, e', ho', by rw [Array.size_setIfInBounds]; exact h4, h5, set_ints h4 h6 (j := i.toNat) (by omega)⟩
  rw [setN_eq] at k
  exact q _ _ S' E' k
end
end Mine
end
section
set_option maxRecDepth 100000
set_option linter.unusedVariables false
open PySem PySem.W PyProof.Rows PySem.Claim2Try PySem.Pin
namespace Mine
section
variable {prog : Program} {w : World} {B : Bs} {G : Pg} {A : Around} {env : Env} {sc : Scope} {ρ ρ' : Rho} {σ : Hp} {s : Shared} {L : Loc} {h : Heap}
theorem bound_part {n d j : Nat} {a : AV} {u : Value} (hb : boundI n d a = some j) (hd : d ≤ n) (r : RepV B h ρ a u) : ∃ lo, IsPart u lo ∧ ((lo = none ∧ j = d) ∨ ∃ i : Int, lo = some i ∧ 0 ≤ i ∧ j = min i.toNat n) := by
  unfold boundI at hb
  split at hb
  · cases hb; rw [r.none_inv]; exact ⟨none, .none, .inl ⟨rfl, rfl⟩⟩
  · rename_i i
    obtain ⟨t, rfl⟩ := r.int_inv
    cases hc : decide (0 ≤ i) with
    | false => rw [hc] at hb; cases hb
    | true => rw [hc] at hb; cases hb; exact ⟨some i, .int i t, .inr ⟨i, rfl, of_decide_eq_true hc, rfl⟩⟩
  · cases hb
theorem mn_eq {n : Nat} {x : Int} (hx : 0 ≤ x) : max 0 (min x (n : Int)) = ((min x.toNat n : Nat) : Int) := by
  obtain ⟨k, rfl⟩ := Int.eq_ofNat_of_zero_le hx
  rw [Int.toNat_natCast, Int.max_eq_right (Int.le_min.mpr ⟨Int.natCast_nonneg k, Int.natCast_nonneg n⟩)]
  rcases Nat.le_total k n with h | h
  · rw [Nat.min_eq_left h, Int.min_eq_left (Int.ofNat_le.mpr h)]
  · rw [Nat.min_eq_right h, Int.min_eq_right (Int.ofNat_le.mpr h)]
theorem bounds_eq {n i j : Nat} {lo hi : Option Int} (h1 : (lo = none ∧ i = 0) ∨ ∃ x : Int, lo = some x ∧ 0 ≤ x ∧ i = min x.toNat n) (h2 : (hi = none ∧ j = n) ∨ ∃ x : Int, hi = some x ∧ 0 ≤ x ∧ j = min x.toNat n) :
    sliceBounds lo hi none n = ((i : Int), (j : Int), 1) := by
  rcases h1 with ⟨rfl, rfl⟩ | ⟨x, rfl, hx, rfl⟩ <;> rcases h2 with ⟨rfl, rfl⟩ | ⟨y, rfl, hy, rfl⟩ <;>
    simp only [sliceBounds, Option.getD_none, show (1 : Int) > 0 by decide, if_true]
  · rfl
  · rw [if_neg (Int.not_lt.mpr hy), mn_eq hy]; rfl
  · rw [if_neg (Int.not_lt.mpr hx), mn_eq hx]
  · rw [if_neg (Int.not_lt.mpr hx), if_neg (Int.not_lt.mpr hy), mn_eq hx, mn_eq hy]
theorem min_sub {n i j : Nat} (hj : j ≤ n) : min (j - i) (n - i) = j - i := Nat.min_eq_left (Nat.sub_le_sub_right hj i)
theorem pick_ints {its : Array Value} {n i j : Nat} {f : Nat → Int} {lo hi : Option Int} (hs : its.size = n) (hf : ∀ i, i < n → ∃ t, its[i]? = some (.int (f i) t)) (hj : j ≤ n)
    (h1 : (lo = none ∧ i = 0) ∨ ∃ x : Int, lo = some x ∧ 0 ≤ x ∧ i = min x.toNat n) (h2 : (hi = none ∧ j = n) ∨ ∃ x : Int, hi = some x ∧ 0 ≤ x ∧ j = min x.toNat n) :
    (slicePick its lo hi none).size = j - i ∧ ∀ k, k < j - i → ∃ t, (slicePick its lo hi none)[k]? = some (.int (cutF i f k) t) := by
  subst hs
  rw [kmk_pick_nat its (bounds_eq h1 h2)]
  refine ⟨by rw [List.size_toArray, List.length_take, List.length_drop, Array.length_toList]; exact min_sub hj, fun k hk => ?_⟩
  rw [List.getElem?_toArray, List.getElem?_take_of_lt hk, List.getElem?_drop, Array.getElem?_toList]
  exact hf (i + k) (by omega)
theorem sound_cut {v a b : AV} {u va vb : Value} {sl : Addr} {K : KV} (ok : Ok B G) (k : sliceI G v a b σ K) (S : St B ρ σ s) (r : RepV B s.heap ρ v u) (ra : RepV B s.heap ρ a va) (rb : RepV B s.heap ρ b vb) (hsl : s.heap.IsSliceOf sl va vb .none) :
    s.TypeIs u "list" ∧ wpAny (model prog w) A (getItem u (.ref sl)) (PV B ρ s.heap K) no s := by
  have all : ∀ {l : Addr} {its : Array Value} {n i j : Nat} {f : Nat → Int}, s.heap.IsList l its → its.size = n → n ≤ 1000000 → (∀ i, i < n → ∃ t, its[i]? = some (.int (f i) t)) → boundI n 0 a = some i → boundI n n b = some j →
      K (.loc σ.length) (σ ++ [.nums (j - i) (cutF i f)]) → wpAny (model prog w) A (getItem (.ref l) (.ref sl)) (PV B ρ s.heap K) no s := by
    intro l its n i j f hl hs hn hf hi hj hk
    obtain ⟨lo, pl, q1⟩ := bound_part hi (Nat.zero_le _) ra
    obtain ⟨hi', pu, q2⟩ := bound_part hj (Nat.le_refl _) rb
    have hjn : j ≤ n := by rcases q2 with ⟨_, e⟩ | ⟨x, _, _, e⟩ <;> omega
    obtain ⟨z1, z2⟩ := pick_ints hs hf hjn q1 q2
    refine wpAny_getItem_list_slice hl hsl pl pu .none (by intro q; cases q) ?_ (by rw [sizeLine]; omega)
    obtain ⟨S', E'⟩ := S.newNums (its := slicePick its lo hi' none) (e := 0) (N := j - i) (f := cutF i f) z1 (by omega) z2 s.toks s.drawn
    exact PV.of (.loc _ _ S.lenAt) S' E' hk
  unfold sliceI at k
  split at k
  · split at k
    · rename_i i j hi hj
      obtain ⟨its, hl, hs, hn, hf⟩ := ok.scr
      have hl' : s.heap.IsList B.scr its := let ⟨o, ho, hc, hd⟩ := hl; ⟨o, S.keep _ _ ho, hc, hd⟩
      cases r
      exact ⟨let ⟨o, ho, hc, _⟩ := hl'; ⟨o, ho, hc⟩, all hl' hs hn hf hi hj k⟩
    · exact k.elim
  · split at k
    · rename_i N f hm
      split at k
      · rename_i i j hi hj
        obtain ⟨p, its, e, h1, rfl, h2, h3, h4, h5, h6⟩ := S.nums hm r
        exact ⟨⟨_, h3, rfl⟩, all (isList_x h3) h4 h5 h6 hi hj k⟩
      · exact k.elim
    · exact k.elim
  · exact k.elim
end
end Mine
end
section
set_option maxRecDepth 100000
set_option linter.unusedVariables false
open PySem PySem.W PyProof.Rows PySem.Claim2Try PySem.Pin
namespace Mine
section
variable {prog : Program} {w : World} {B : Bs} {G : Pg} {A : Around} {E : Value → Shared → Prop} {env : Env} {sc : Scope} {ρ ρ' : Rho} {σ : Hp} {s : Shared} {L : Loc} {h : Heap}
theorem letGo_any {M : Model} {Q : Unit → Shared → Prop} : ∀ {vs : List Value}, Q () s → wpAny M A (letGo vs) Q E s
  | [], q => wpAny_pure q
  | _ :: r, q => wpAny_bind (wpAny_holding (wpAny_point (letGo_any q)))
theorem too_long {a b : Array Value} (ha : a.size ≤ 1000000) (hb : b.size ≤ 1000000) : ¬ (Builtin.List.listTooLong (a.size + b.size) = true) := by unfold Builtin.List.listTooLong; rw [sizeLine]; simp; omega
theorem max_nat {i j : Nat} (h : i ≤ j) : (max (i : Int) (j : Int)).toNat = j := by rw [Int.max_eq_right (Int.ofNat_le.mpr h)]; rfl
theorem sp_size {a b : Array Value} {i j : Nat} (ha : a.size ≤ 1000000) (hb : b.size ≤ 1000000) : (a.extract 0 i ++ b ++ a.extract j a.size).size ≤ 2000000 + 1000000 := by
  rw [Array.size_append, Array.size_append, Array.size_extract, Array.size_extract]
  exact Nat.add_le_add (Nat.add_le_add (Nat.le_trans (Nat.sub_le _ _) (Nat.le_trans (Nat.min_le_right _ _) ha)) hb) (Nat.le_trans (Nat.sub_le _ _) (Nat.le_trans (Nat.min_le_right _ _) ha))
theorem le_line {n : Nat} (h : n ≤ 2000000 + 1000000) : n ≤ sizeLine := by rw [sizeLine]; omega
/-- a slice of a list, stored by a list -/
theorem setSlice_x {l v sl : Addr} {its new : Array Value} {e e2 i j : Nat} {vl vu : Value} {lo hi : Option Int} {Q : Unit → Shared → Prop} (ho : s.heap.get? l = some (listOf its e)) (hv : s.heap.get? v = some (listOf new e2)) (hne : l ≠ v)
    (hsl : s.heap.IsSliceOf sl vl vu .none) (pl : IsPart vl lo) (pu : IsPart vu hi) (hb : sliceBounds lo hi none its.size = ((i : Int), (j : Int), 1)) (hs : its.size ≤ 1000000) (hn : new.size ≤ 1000000) (hij : i ≤ j)
    (hQ : ∀ h' e', h'.get? l = some (listOf (its.extract 0 i ++ new ++ its.extract j its.size) e') → Heap.SameBut l s.heap h' → Q () { s with heap := h' }) : wpAny (model prog w) A (setItem (.ref l) (.ref sl) (.ref v)) Q E s := by
  have hl := isList_x ho
  obtain ⟨os, hos, hcs, hds⟩ := id hsl
  have hTs : s.TypeIs (.ref sl) "slice" := ⟨os, hos, hcs⟩
  unfold setItem
  try with_reducible refine wpAny_holding ?_
  first | refine wpAny_bind (wpAny_pure ?_) | skip
  refine wpAny_bind (wpAny_sequenceKey hl.typeIs (by decide) ?_)
  refine wpAny_bind (wpAny_callSpecial?_slot (name := Str.ofString "__setitem__") hl.typeIs slot_list_setitem
    (wpAny_call_entry slot_list_setitem hl.typeIs entry_list_setitem ?_ (args_list_setitem _ _ _)))
  show wpAny _ _ (Builtin.List.listSubscript? (.ref sl) >>= _) _ _ s
  refine wpAny_bind ?_
  unfold Builtin.List.listSubscript?
  refine wpAny_bind (wpAny_specialOf hTs slice_no_index ?_)
  refine wpAny_yes rfl (wpAny_pure ?_)
  refine wpAny_bind (m := typeOf (.ref sl)) (wpAny_typeOf hTs ?_)
  refine wpAny_no (by decide) ?_
  refine wpAny_bind (m := Builtin.List.listSliceParts (.ref sl)) ?_
  rw [listSliceParts_eq]
  refine wpAny_bind (wpAny_field hos hds (x := .none) rfl (wpAny_bind (wpAny_listPart .none ?_)))
  refine wpAny_no Bool.false_ne_true ?_
  refine wpAny_bind (wpAny_field hos hds (x := vl) rfl (wpAny_bind (wpAny_listPart pl ?_)))
  refine wpAny_bind (wpAny_field hos hds (x := vu) rfl (wpAny_bind (wpAny_listPart pu (wpAny_pure ?_))))
  refine wpAny_no (show ¬ ((l == v) = true) by rw [beq_eq_false_iff_ne.mpr hne]; exact Bool.false_ne_true) ?_
  refine wpAny_bind (m := Builtin.List.listAllItems (.ref v) _) ?_
  unfold Builtin.List.listAllItems
  refine wpAny_bind (wpAny_typeOf (T := "list") ⟨_, hv, rfl⟩ ?_)
  refine wpAny_yes (by decide) (listItems_at hv rfl ?_)
  refine wpAny_bind (listItems_at ho rfl ?_)
  refine wpAny_bind (wpAny_of_eq (sliceIndices_raw lo hi none its.size (by intro z; cases z)) ?_)
  rw [hb]
  refine wpAny_yes rfl ?_
  refine wpAny_bind (wpAny_rule ?_)
  refine wpAny_no (too_long hs hn) ?_
  have hx : (max (i : Int) (j : Int)).toNat = j := max_nat hij
  have hf : (its.extract 0 (i : Int).toNat ++ new ++ its.extract (max (i : Int) (j : Int)).toNat its.size) = its.extract 0 i ++ new ++ its.extract j its.size := by rw [hx]; rfl
  have hfs : (its.extract 0 i ++ new ++ its.extract j its.size).size ≤ 2000000 + 1000000 := sp_size hs hn
  refine wpAny_bind (listUpdate_at ho rfl ?_ (le_line (Nat.le_trans hs (by decide))) (by rw [hf]; exact Nat.le_succ_of_le (le_line hfs)))
  refine wpAny_bind (letGo_any ?_)
  have fin : (s.heap.update l (Obj.mapSeq fun xs => xs.extract 0 (i : Int).toNat ++ new ++ xs.extract (max (i : Int) (j : Int)).toNat xs.size)).get? l = some (listOf (its.extract 0 (i : Int).toNat ++ new ++ its.extract (max (i : Int) (j : Int)).toNat its.size) _) := Heap.get?_update_self _ ho rfl
  rw [hf] at fin
  exact wpAny_pure ⟨.none, rfl, wpAny_pure (hQ _ _ fin (Heap.SameBut.update ..))⟩
theorem app3 {V : Type} (A B C : Array V) (k : Nat) : (A ++ B ++ C)[k]? = if k < A.size then A[k]? else if k < A.size + B.size then B[k - A.size]? else C[k - (A.size + B.size)]? := by
  rw [Array.getElem?_append, Array.size_append, Array.getElem?_append]
  by_cases h : k < A.size
  · rw [if_pos h, if_pos (Nat.lt_of_lt_of_le h (Nat.le_add_right _ _)), if_pos h]
  · rw [if_neg h, if_neg h]
theorem ex_pre {V : Type} (a : Array V) {i n : Nat} (hs : a.size = n) (hi : i ≤ n) : (a.extract 0 i).size = i ∧ ∀ k, k < i → (a.extract 0 i)[k]? = a[k]? := by
  subst hs
  refine ⟨by rw [Array.size_extract, Nat.sub_zero]; exact Nat.min_eq_left hi, fun k hk => ?_⟩
  rw [Array.getElem?_extract, if_pos (by rw [Nat.sub_zero, Nat.min_eq_left hi]; exact hk), Nat.zero_add]
theorem ex_suf {V : Type} (a : Array V) {j n : Nat} (hs : a.size = n) : (a.extract j a.size).size = n - j ∧ ∀ k, k < n - j → (a.extract j a.size)[k]? = a[j + k]? := by
  subst hs
  refine ⟨by rw [Array.size_extract, Nat.min_self], fun k hk => ?_⟩
  rw [Array.getElem?_extract, if_pos (by rw [Nat.min_self]; exact hk)]
theorem lt_suf {i M N j k : Nat} (h : k < i + M + (N - j)) (h2 : ¬ k < i + M) (hj : j ≤ N) : k - (i + M) < N - j ∧ j + (k - (i + M)) < N := by omega
theorem lt_mid {i M k : Nat} (h : k < i + M) (h2 : ¬ k < i) : k - i < M := by omega
theorem blt_no {a b : Nat} (h : ¬ a < b) : Nat.blt a b = false := by rw [Bool.eq_false_iff]; exact fun z => h (Nat.blt_eq.mp z)
/-- the numbers of a list with a slice stored -/
theorem splice_ints {its new : Array Value} {N M i j : Nat} {f g : Nat → Int} (h1 : its.size = N) (h2 : new.size = M) (hij : i ≤ j) (hj : j ≤ N) (hf : ∀ k, k < N → ∃ t, its[k]? = some (.int (f k) t)) (hg : ∀ k, k < M → ∃ t, new[k]? = some (.int (g k) t)) :
    (its.extract 0 i ++ new ++ its.extract j its.size).size = i + M + (N - j) ∧ ∀ k, k < i + M + (N - j) → ∃ t, (its.extract 0 i ++ new ++ its.extract j its.size)[k]? = some (.int (spliceF i j M f g k) t) := by
  obtain ⟨s1, e1⟩ := ex_pre its h1 (Nat.le_trans hij hj)
  obtain ⟨s2, e2⟩ := ex_suf (j := j) its h1
  refine ⟨by rw [Array.size_append, Array.size_append, s1, s2, h2], fun k hk => ?_⟩
  rw [app3, s1, h2]
  unfold spliceF
  by_cases c1 : k < i
  · rw [Nat.blt_eq.mpr c1, if_pos c1, e1 k c1]
    exact hf k (Nat.lt_of_lt_of_le c1 (Nat.le_trans hij hj))
  · rw [blt_no c1, if_neg c1]
    by_cases c2 : k < i + M
    · rw [Nat.blt_eq.mpr c2, if_pos c2]
      exact hg (k - i) (lt_mid c2 c1)
    · obtain ⟨a, b⟩ := lt_suf hk c2 hj
      rw [blt_no c2, if_neg c2, e2 _ a]
      exact hf (j + (k - (i + M))) b
theorem sound_setSlice {v a b z : AV} {u va vb c : Value} {sl : Addr} {K : Hp → Prop} {Q : Unit → Shared → Prop} (k : setSliceI v a b z σ K) (S : St B ρ σ s) (r : RepV B s.heap ρ v u) (ra : RepV B s.heap ρ a va) (rb : RepV B s.heap ρ b vb) (rz : RepV B s.heap ρ z c) (hsl : s.heap.IsSliceOf sl va vb .none)
    (q : ∀ σ' s', St B ρ σ' s' → Ext [] s.heap ρ s'.heap ρ → K σ' → Q () s') : wpAny (model prog w) A (setItem u (.ref sl) c) Q no s := by
  obtain ⟨m, N, f, k, p, its, e, hp, rfl, e1, h1, h2, h3, h4⟩ := S.numsR k r
  obtain ⟨M, g, k, p', new, e', rfl, g1, g2, g3, g4, hap⟩ := S.readR k rz
  obtain ⟨hmn, k⟩ := condT k
  obtain ⟨i, hi, k⟩ := someK_inv k
  obtain ⟨j, hj, k⟩ := someK_inv k
  obtain ⟨hc, k⟩ := condF k
  rw [Bool.and_eq_true] at hc
  have c1 := of_decide_eq_true hc.1
  have c2 := of_decide_eq_true hc.2
  obtain ⟨lo, pl, q1⟩ := bound_part hi (Nat.zero_le _) ra
  obtain ⟨hi', pu, q2⟩ := bound_part hj (Nat.le_refl _) rb
  have hjn : j ≤ N := by rcases q2 with ⟨_, e⟩ | ⟨x, _, _, e⟩ <;> omega
  obtain ⟨z1, z2⟩ := splice_ints h2 g2 c1 hjn h4 g4
  refine setSlice_x h1 g1 (hap m p hp hmn) hsl pl pu (by rw [h2]; exact bounds_eq q1 q2) (by omega) (by omega) c1 fun h' e' ho' sb => ?_
  obtain ⟨S', E'⟩ := S.set (h' := h') (tk := s.toks) (d := s.drawn) (o := .nums (i + M + (N - j)) (spliceF i j M f g)) hp (fun b o hb _ hbo => (sb.2 b hb).trans hbo) ⟨_, ho'⟩ (by rw [e1]; exact ⟨_, ho'⟩)
    ⟨e1, _, e', ho', z1, c2, z2⟩
  rw [setN_eq] at k
  exact q _ _ S' E' k
end
end Mine
end
section
set_option maxRecDepth 100000
set_option linter.unusedVariables false
open PySem PySem.W PyProof.Rows PySem.Claim2Try PySem.Pin
namespace Mine
noncomputable def PVs (B : Bs) (ρ : Rho) (h : Heap) (K : List AV → Hp → Prop) : List Value → Shared → Prop := fun ws s' => ∃ vs σ' ρ', RepVs B s'.heap ρ' vs ws ∧ St B ρ' σ' s' ∧ Ext [] h ρ s'.heap ρ' ∧ K vs σ'
noncomputable def RepKs (B : Bs) (h : Heap) (ρ : Rho) (ks : List (Str × AV)) (kw : List (Str × Value)) : Prop := kw.map (·.1) = ks.map (·.1) ∧ RepVs B h ρ (ks.map (·.2)) (kw.map (·.2))
noncomputable def Kept (M : Model) (f : Value) (h : Heap) : Prop := ∃ k, (k = Keeper.frame ∨ k = Keeper.machine ∨ k = Keeper.boundFrame) ∧ Looks M h (keeperOf f) k
structure Snd (prog : Program) (w : World) (B : Bs) (I : In) (d : Nat) : Prop where
  ev : ∀ {sc e L σ K}, I.ev sc e L σ K → ∀ {A env ρ s}, AOk d A → EnvOk env sc → St B ρ σ s → Lo B env L ρ s.heap → wpAny (model prog w) A (eval e env) (PV B ρ s.heap K) no s
  ts : ∀ {sc e L σ K}, I.ts sc e L σ K → ∀ {A env ρ s}, AOk d A → EnvOk env sc → St B ρ σ s → Lo B env L ρ s.heap → wpAny (model prog w) A (isTrue e env (eval e env)) (PB B ρ s.heap K) no s
  ca : ∀ {f vs ks σ K}, I.ca f vs ks σ K → ∀ {A ρ s fw ws kws}, AOk d A → St B ρ σ s → RepV B s.heap ρ f fw → RepVs B s.heap ρ vs ws → RepKs B s.heap ρ ks kws → Kept (model prog w) fw s.heap ∧ wpAny (model prog w) A (call fw ws kws) (PV B ρ s.heap K) no s
  ex : ∀ {sc st L σ K}, I.ex sc st L σ K → ∀ {A env ρ s}, AOk d A → EnvOk env sc → St B ρ σ s → Lo B env L ρ s.heap → wpAny (model prog w) A (exec st env) (PF B ρ s.heap env K) no s
section
variable {prog : Program} {w : World} {B : Bs} {G : Pg} {I : In} {d : Nat} {A : Around} {env : Env} {sc : Scope} {ρ ρ' : Rho} {σ : Hp} {s : Shared} {L : Loc} {h : Heap}
theorem wpAny_gotS {M : Model} {t : Sem (List Value)} {K : List AV → Hp → Prop} {Q : List Value → Shared → Prop} (a : wpAny M A t (PVs B ρ h K) no s)
    (b : ∀ v w σ1 ρ1 s1, RepVs B s1.heap ρ1 v w → St B ρ1 σ1 s1 → Ext [] h ρ s1.heap ρ1 → K v σ1 → Q w s1) : wpAny M A t Q no s :=
  wpAny_mono a (fun w s1 ⟨v, σ1, ρ1, r, S, e, k⟩ => b v w σ1 ρ1 s1 r S e k) fun _ _ x => x
theorem star_each {es : List Expr} (hs : es.all noStar = true) (pos : Pos) : backTo pos (starEach es env) = es.map fun e => (false, eval e env) := by
  induction es with
  | nil => rfl
  | cons e r ih =>
    rw [List.all_cons, Bool.and_eq_true] at hs
    rw [List.map_cons, ← ih hs.2]
    cases e <;> first | rfl | cases hs.1
theorem sound_seq (sn : Snd prog w B I d) (ao : AOk d A) (eo : EnvOk env sc) : ∀ {es : List Expr} {K : List AV → Hp → Prop} {σ : Hp} {ρ : Rho} {s : Shared}, seqI (fun e σ1 K1 => I.ev sc e L σ1 K1) es σ K → St B ρ σ s → Lo B env L ρ s.heap →
    wpAny (model prog w) A (spliced (es.map fun e => (false, eval e env))) (PVs B ρ s.heap K) no s
  | [], K, σ, ρ, s, k, S, l => Calls.spliced_nil ⟨[], σ, ρ, .nil, S, .refl .., k⟩
  | e :: r, K, σ, ρ, s, k, S, l => by
    refine Calls.spliced_cons (wpAny_got (sn.ev k ao eo S l) fun a v σ1 ρ1 s1 ra S1 e1 k1 => ?_)
    refine wpAny_gotS (sound_seq sn ao eo k1 S1 (l.ext0 e1)) fun as vs σ2 ρ2 s2 rs S2 e2 k2 => ?_
    exact ⟨a :: as, σ2, ρ2, .cons (ra.ext0 e2) rs, S2, e1.trans e2, k2⟩
theorem kw_each (kws : List Keyword) (pos : Pos) : (backToKw pos (keywordEach kws env)).map (·.2) = kws.map fun k => (do let v ← eval k.value env; standAt pos; pure v) := by
  induction kws with
  | nil => rfl
  | cons x r ih =>
    obtain ⟨n, e, p⟩ := x
    show (do let v ← eval e env; standAt pos; pure v) :: _ = _
    rw [List.map_cons, ← ih]; rfl
theorem kw_names (kws : List Keyword) (pos : Pos) : (backToKw pos (keywordEach kws env)).map (·.1) = kws.map fun k => k.arg := by
  induction kws with
  | nil => rfl
  | cons x r ih =>
    obtain ⟨n, e, p⟩ := x
    show n :: _ = _
    rw [List.map_cons, ← ih]; rfl
theorem sound_kw (sn : Snd prog w B I d) (ao : AOk d A) (eo : EnvOk env sc) {pos : Pos} : ∀ {kws : List Keyword} {K : List (Str × AV) → Hp → Prop} {σ : Hp} {ρ : Rho} {s : Shared}, kwI (fun e σ1 K1 => I.ev sc e L σ1 K1) kws σ K → St B ρ σ s → Lo B env L ρ s.heap →
    wpAny (model prog w) A (evalAll (kws.map fun k => (do let v ← eval k.value env; standAt pos; pure v))) (fun ws s' => ∃ ks σ' ρ', ks.map (·.1) = kws.filterMap (fun k => k.arg) ∧ (kws.all fun k => k.arg.isSome) = true ∧ RepVs B s'.heap ρ' (ks.map (·.2)) ws ∧ St B ρ' σ' s' ∧ Ext [] s.heap ρ s'.heap ρ' ∧ K ks σ') no s
  | [], K, σ, ρ, s, k, S, l => wpAny_evalAll_nil ⟨[], σ, ρ, rfl, rfl, .nil, S, .refl .., k⟩
  | ⟨some x, e, p⟩ :: r, K, σ, ρ, s, k, S, l => by
    refine wpAny_evalAll_cons (wpAny_bind (wpAny_got (sn.ev k ao eo S l) fun a v σ1 ρ1 s1 ra S1 e1 k1 => wpAny_bind (wpAny_standAt (wpAny_pure ?_))))
    refine wpAny_mono (sound_kw sn ao eo k1 S1 (l.ext0 e1)) (fun vs s2 ⟨as, σ2, ρ2, hn, hall, rs, S2, e2, k2⟩ => ?_) fun _ _ x => x
    exact ⟨(x, a) :: as, σ2, ρ2, by rw [List.map_cons, hn]; rfl, by rw [List.all_cons, hall]; rfl, .cons (ra.ext0 e2) rs, S2, e1.trans e2, k2⟩
  | ⟨none, e, p⟩ :: r, K, σ, ρ, s, k, S, l => by exact k.elim
theorem RepVs.append {vs us : List AV} {ws xs : List Value} (a : RepVs B h ρ vs ws) (b : RepVs B h ρ us xs) : RepVs B h ρ (vs ++ us) (ws ++ xs) := by
  induction vs generalizing ws with
  | nil => cases a; exact b
  | cons v r ih => cases a with | cons x y => exact .cons x (ih y)
theorem zip_map {α β : Type} : ∀ {xs : List α} {ys : List β}, xs.length = ys.length → (xs.zip ys).map (·.1) = xs ∧ (xs.zip ys).map (·.2) = ys
  | [], [], _ => ⟨rfl, rfl⟩
  | x :: xs, y :: ys, hl => by
    obtain ⟨a, b⟩ := zip_map (xs := xs) (ys := ys) (Nat.succ.inj hl)
    exact ⟨by rw [List.zip_cons_cons, List.map_cons, a], by rw [List.zip_cons_cons, List.map_cons, b]⟩
/-- the arguments, then the call -/
theorem sound_argsG (sn : Snd prog w B I d) (ao : AOk d A) (eo : EnvOk env sc) {fw : Value} {fs : List Value} {args : List Expr} {kws : List Keyword} {pos : Pos} {K : KV} {C : List AV → List (Str × AV) → Hp → Prop} (hst : args.all noStar = true) (hkn : kws.all kwNamed = true) (S : St B ρ σ s) (l : Lo B env L ρ s.heap)
    (ca : ∀ {vs ks σ' ρ' s' ws kws}, C vs ks σ' → St B ρ' σ' s' → Ext [] s.heap ρ s'.heap ρ' → RepVs B s'.heap ρ' vs ws → RepKs B s'.heap ρ' ks kws → Kept (model prog w) fw s'.heap ∧ wpAny (model prog w) A (call fw (fs ++ ws) kws) (PV B ρ' s'.heap K) no s')
    (k : seqI (fun e σ1 K1 => I.ev sc e L σ1 K1) args σ fun vs σ2 => kwI (fun e σ1 K1 => I.ev sc e L σ1 K1) kws σ2 fun ks σ3 => C vs ks σ3) :
    wpAny (model prog w) A (callWith pos fw fs (backTo pos (starEach args env)) (backToKw pos (keywordEach kws env))) (PV B ρ s.heap K) no s := by
  have body : ∀ {vs : List AV} {ws : List Value} {σ1 : Hp} {ρ1 : Rho} {s1 : Shared}, RepVs B s1.heap ρ1 vs ws → St B ρ1 σ1 s1 → Ext [] s.heap ρ s1.heap ρ1 → kwI (fun e σ1 K1 => I.ev sc e L σ1 K1) kws σ1 (fun ks σ3 => C vs ks σ3) →
      wpAny (model prog w) A (evalAll ((backToKw pos (keywordEach kws env)).map (·.2))) (fun ks s₂ => Kept (model prog w) fw s₂.heap ∧ wpAny (model prog w) A (call fw (fs ++ ws) (((backToKw pos (keywordEach kws env)).filterMap (·.1)).zip ks)) (PV B ρ s.heap K) no s₂) no s1 := by
    intro vs ws σ1 ρ1 s1 r S1 e1 k1
    rw [kw_each]
    refine wpAny_mono (sound_kw sn ao eo k1 S1 (l.ext0 e1)) (fun kv s2 ⟨ks, σ2, ρ2, hn, hall, rk, S2, e2, k2⟩ => ?_) fun _ _ x => x
    have e12 := e1.trans e2
    have hlen : (kws.filterMap fun k => k.arg).length = kv.length := by rw [← hn, List.length_map, rk.len, List.length_map]
    have hnm : (backToKw pos (keywordEach kws env)).filterMap (·.1) = kws.filterMap fun k => k.arg := by
      have := kw_names (env := env) kws pos
      have e3 : (backToKw pos (keywordEach kws env)).filterMap (·.1) = ((backToKw pos (keywordEach kws env)).map (·.1)).filterMap id := by rw [List.filterMap_map]; rfl
      rw [e3, this, List.filterMap_map]; rfl
    rw [hnm]
    obtain ⟨z1, z2⟩ := zip_map hlen
    obtain ⟨c1, c2⟩ := ca (kws := (kws.filterMap fun k => k.arg).zip kv) k2 S2 e12 (r.ext0 e2) ⟨by rw [z1, hn], by rw [z2]; exact rk⟩
    exact ⟨c1, wpAny_mono c2 (fun _ _ x => x.up e12) fun _ _ x => x⟩
  have hkw : (backToKw pos (keywordEach kws env)).all (·.1.isSome) = true := by
    have e3 : (backToKw pos (keywordEach kws env)).all (·.1.isSome) = ((backToKw pos (keywordEach kws env)).map (·.1)).all (·.isSome) := by rw [List.all_map]; rfl
    rw [e3, kw_names, List.all_map]; exact hkn
  have hkw2 : (backToKw pos (keywordEach kws env)).any (·.1.isNone) = false := by
    rw [List.any_eq_false]
    intro x hx
    have := List.all_eq_true.mp hkw x hx
    cases hy : x.1 with
    | none => rw [hy] at this; cases this
    | some y => exact fun q => nomatch q
  have hst' : (backTo pos (starEach args env)).any (·.1) = false := by
    rw [star_each hst, List.any_map]
    rw [List.any_eq_false]
    intro x _ q
    cases q
  refine callWith_of (P := Kept (model prog w) fw) (by rw [hst', hkw2]; rfl) (fun _ q => q) ?_
  rw [star_each hst]
  cases args with
  | nil =>
    refine evalArgs_kw_nil hkw (wpAny_mono (body .nil S (.refl ..) k) (fun ks s2 q => ?_) fun _ _ x => x)
    exact q
  | cons e r =>
    rw [List.map_cons]
    refine evalArgs_kw hkw ?_
    rw [← List.map_cons (f := fun e => (false, eval e env))]
    exact wpAny_gotS (sound_seq sn ao eo k S l) fun vs ws σ1 ρ1 s1 rs S1 e1 k1 => body rs S1 e1 k1
theorem sound_args (sn : Snd prog w B I d) (ao : AOk d A) (eo : EnvOk env sc) {f : AV} {fw : Value} {first : List AV} {fs : List Value} {args : List Expr} {kws : List Keyword} {pos : Pos} {K : KV} (hst : args.all noStar = true) (hkn : kws.all kwNamed = true) (S : St B ρ σ s) (l : Lo B env L ρ s.heap) (rf : RepV B s.heap ρ f fw) (r1 : RepVs B s.heap ρ first fs)
    (k : seqI (fun e σ1 K1 => I.ev sc e L σ1 K1) args σ fun vs σ2 => kwI (fun e σ1 K1 => I.ev sc e L σ1 K1) kws σ2 fun ks σ3 => I.ca f (first ++ vs) ks σ3 K) :
    wpAny (model prog w) A (callWith pos fw fs (backTo pos (starEach args env)) (backToKw pos (keywordEach kws env))) (PV B ρ s.heap K) no s :=
  sound_argsG sn ao eo hst hkn S l (fun k2 S2 e12 r rk => sn.ca k2 ao S2 (rf.ext0 e12) ((r1.ext0 e12).append r) rk) k
end
end Mine
end
section
set_option maxRecDepth 100000
set_option linter.unusedVariables false
open PySem PySem.W PyProof.Rows PySem.Claim2Try PySem.Pin
namespace Mine
section
variable {prog : Program} {w : World} {B : Bs} {G : Pg} {I : In} {d : Nat} {A : Around} {env : Env} {sc : Scope} {ρ ρ' : Rho} {σ : Hp} {s : Shared} {L : Loc} {h : Heap}
theorem base_plain {o : Expr} {a : Str} {t : Sem Value} (hb : plainBase o = true) : attributeBase o a env t = t := by
  cases o <;> first | rfl | cases hb
theorem callee_few {args : List Expr} {pos : Pos} {n : Nat} (hst : args.all noStar = true) (hn : n < 20) : methodCallForm n (backTo pos (starEach args env)) (backToKw pos (keywordEach [] env)) = true := by
  unfold methodCallForm
  rw [star_each hst]
  have : (args.map fun e => (false, eval e env)).all (fun x => !x.1) = true := by rw [List.all_map, List.all_eq_true]; intro _ _; rfl
  rw [this]
  show (true && true && decide (n + 0 < 30)) = true
  rw [decide_eq_true (by omega)]; rfl
theorem sound_methodCall (ok : Ok B G) (sn : Snd prog w B I d) (ao : AOk d A) (eo : EnvOk env sc) {o : Expr} {m : Str} {ap pos : Pos} {args : List Expr} {K : KV} (S : St B ρ σ s) (l : Lo B env L ρ s.heap)
    (hb : plainBase o = true) (hline : Nat.beq ap.endLine pos.line = true) (hn : args.length < 20) (hst : args.all noStar = true)
    (k : I.ev sc o L σ fun v σ1 => calleeI G v m σ1 fun f first => seqI (fun e σ1 K1 => I.ev sc e L σ1 K1) args σ1 fun vs σ2 => I.ca f (first ++ vs) [] σ2 K) :
    wpAny (model prog w) A (eval (.Call (.Attribute o m ap) args [] pos) env) (PV B ρ s.heap K) no s := by
  rw [arm_eval_Call, base_plain hb]
  refine wpAny_then (sn.ev k ao eo S l) fun v u σ1 ρ1 s1 r S1 e1 k1 => wpAny_bind (wpAny_standAt ?_)
  unfold methodCall
  have few : methodCallForm (args.length + ([] : List Keyword).length) (backTo pos (starEach args env)) (backToKw pos (keywordEach [] env)) = true := callee_few hst hn
  refine wpAny_bind (wpAny_holding ?_)
  rw [few]
  unfold calleeOf
  rw [if_pos rfl]
  refine sound_callee ok k1 S1 r fun f fw rf kf => ?_
  dsimp only
  unfold methodCallPos
  have hl : (ap.endLine == pos.line) = true := beq_iff_eq.mpr (Nat.eq_of_beq_eq_true hline)
  rw [if_pos (by rw [hl, Bool.or_true])]
  refine wpAny_bind (wpAny_pure ?_)
  refine wpAny_mono (sound_args sn ao eo (kws := []) (first := [v]) (fs := [u]) hst rfl S1 (l.ext0 e1) rf (.cons r .nil) kf) (fun _ _ x => x.up e1) fun _ _ x => x
theorem eval_Call_plain {f : Expr} {args : List Expr} {kws : List Keyword} {pos : Pos} (hf : ∀ o n p, f ≠ .Attribute o n p) : eval (.Call f args kws pos) env = (do callWith pos (← eval f env) [] (backTo pos (starEach args env)) (backToKw pos (keywordEach kws env))) := by
  cases f <;> first | rfl | exact (hf _ _ _ rfl).elim
theorem sound_chain (sn : Snd prog w B I d) (ao : AOk d A) (eo : EnvOk env sc) {pos : Pos} {op : BoolOp} : ∀ {es : List Expr} {K : KV} {σ : Hp} {ρ : Rho} {s : Shared}, chainI (fun e σ1 K1 => I.ev sc e L σ1 K1) op es σ K → St B ρ σ s → Lo B env L ρ s.heap →
    wpAny (model prog w) A (boolOp pos op (evalEach es env)) (PV B ρ s.heap K) no s
  | [], K, σ, ρ, s, k, S, l => k.elim
  | [e], K, σ, ρ, s, k, S, l => sn.ev k ao eo S l
  | e :: e2 :: r, K, σ, ρ, s, k, S, l => by
    show wpAny _ A (boolOp pos op (eval e env :: evalEach (e2 :: r) env)) _ _ _
    unfold boolOp
    refine wpAny_then (sn.ev k ao eo S l) fun v u σ1 ρ1 s1 rv S1 e1 k1 => wpAny_bind (wpAny_standAt (wpAny_bind (wpAny_holding (sound_truth k1 rv fun b kb => ?_))))
    cases op with
    | And =>
      cases b with
      | false => exact wpAny_pure (PV.of rv S1 e1 kb)
      | true => exact wpAny_mono (sound_chain sn ao eo kb S1 (l.ext0 e1)) (fun _ _ x => x.up e1) fun _ _ x => x
    | Or =>
      cases b with
      | true => exact wpAny_pure (PV.of rv S1 e1 kb)
      | false => exact wpAny_mono (sound_chain sn ao eo kb S1 (l.ext0 e1)) (fun _ _ x => x.up e1) fun _ _ x => x
theorem sound_opt (sn : Snd prog w B I d) (ao : AOk d A) (eo : EnvOk env sc) {e : Option Expr} {K : KV} (k : optI (fun e σ1 K1 => I.ev sc e L σ1 K1) e σ K) (S : St B ρ σ s) (l : Lo B env L ρ s.heap) :
    wpAny (model prog w) A (valueOrNone (evalOpt e env)) (PV B ρ s.heap K) no s := by
  cases e with
  | none => exact wpAny_pure (PV.of .none S (.refl ..) k)
  | some e => exact sn.ev k ao eo S l
theorem sound_sliceObj (sn : Snd prog w B I d) (ao : AOk d A) (eo : EnvOk env sc) {lo hi : Option Expr} {p : Pos} {K : AV → AV → Hp → Prop} {Q : Value → Shared → Prop} (S : St B ρ σ s) (l : Lo B env L ρ s.heap)
    (k : optI (fun e σ1 K1 => I.ev sc e L σ1 K1) lo σ fun a σ2 => optI (fun e σ1 K1 => I.ev sc e L σ1 K1) hi σ2 fun b σ3 => K a b σ3)
    (q : ∀ a b va vb sl σ3 ρ3 s3, RepV B s3.heap ρ3 a va → RepV B s3.heap ρ3 b vb → s3.heap.IsSliceOf sl va vb .none → St B ρ3 σ3 s3 → Ext [] s.heap ρ s3.heap ρ3 → K a b σ3 → Q (.ref sl) s3) :
    wpAny (model prog w) A (eval (.Slice lo hi none p) env) Q no s := by
  rw [arm_eval_Slice]
  refine wpAny_then (sound_opt (K := fun a σ2 => optI (fun e σ1 K1 => I.ev sc e L σ1 K1) hi σ2 fun b σ3 => K a b σ3) sn ao eo k S l) fun a va σ2 ρ2 s2 ra S2 e2 k2 => ?_
  refine wpAny_bind (wpAny_holding (wpAny_got (sound_opt (K := fun b σ3 => K a b σ3) sn ao eo k2 S2 (l.ext0 e2)) fun b vb σ3 ρ3 s3 rb S3 e3 k3 => ?_))
  refine wpAny_bind (wpAny_holding (wpAny_pure ?_))
  unfold newFields
  refine wpAny_newObj_type ?_ (by size_fits)
  obtain ⟨hh, g, dd, t, os⟩ := s3
  have hsl : (hh.push { cls := .type "slice", data := .fields [va, vb, Value.none].toArray }).IsSliceOf hh.objs.size va vb .none := Heap.IsSliceOf.new hh va vb .none
  have E4 : Ext [] hh ρ3 (hh.push { cls := .type "slice", data := .fields [va, vb, Value.none].toArray }) ρ3 := .push _
  exact q a b va vb _ σ3 ρ3 _ ((ra.ext0 e3).ext0 E4) (rb.ext0 E4) hsl (S3.push _) ((e2.trans e3).trans E4) k3
theorem sound_slice (ok : Ok B G) (sn : Snd prog w B I d) (ao : AOk d A) (eo : EnvOk env sc) {o : Expr} {lo hi : Option Expr} {p pos : Pos} {K : KV} (S : St B ρ σ s) (l : Lo B env L ρ s.heap)
    (k : I.ev sc o L σ fun v σ1 => optI (fun e σ1 K1 => I.ev sc e L σ1 K1) lo σ1 fun a σ2 => optI (fun e σ1 K1 => I.ev sc e L σ1 K1) hi σ2 fun b σ3 => sliceI G v a b σ3 K) :
    wpAny (model prog w) A (eval (.Subscript o (.Slice lo hi none p) pos) env) (PV B ρ s.heap K) no s := by
  refine Subscript_ (wpAny_got (sn.ev k ao eo S l) fun v u σ1 ρ1 s1 r S1 e1 k1 => ?_)
  refine sound_sliceObj (K := fun a b σ3 => sliceI G v a b σ3 K) sn ao eo S1 (l.ext0 e1) k1 fun a b va vb sl σ3 ρ3 s3 ra rb hsl S3 e3 k3 => ?_
  obtain ⟨hT, hg⟩ := sound_cut (prog := prog) (w := w) (A := A) ok k3 S3 (r.ext0 e3) ra rb hsl
  exact sub_tail hT F.slot_list_getitem.lookup (.inr rfl) (wpAny_mono hg (fun _ _ x => x.up (e1.trans e3)) fun _ _ x => x)
theorem mkList_rep {vs : List AV} {ws : List Value} {e : Nat} (hl : vs.length ≤ 1000000) (p : Addr) (ho : h.get? p = some (listOf ws.toArray e)) (r : RepVs B h ρ vs ws) : RepO B h ρ (p, p) (mkList vs) := by
  unfold mkList
  split
  · rename_i l hl'
    obtain ⟨h1, h2⟩ := ints_rep hl' r
    refine ⟨rfl, ws.toArray, e, ho, by rw [List.size_toArray, h1], by rw [← h1, r.len]; exact hl, fun i hi => ?_⟩
    rw [List.getElem?_toArray]
    exact h2 i hi
  · exact ⟨rfl, hl, ws.toArray, e, ho, r⟩
theorem sound_list (sn : Snd prog w B I d) (ao : AOk d A) (eo : EnvOk env sc) {es : List Expr} {pos : Pos} {K : KV} (hst : es.all noStar = true) (hn : es.length < 1000) (S : St B ρ σ s) (l : Lo B env L ρ s.heap)
    (k : seqI (fun e σ1 K1 => I.ev sc e L σ1 K1) es σ fun vs σ1 => K (.loc σ1.length) (σ1 ++ [mkList vs])) : wpAny (model prog w) A (eval (.List es pos) env) (PV B ρ s.heap K) no s := by
  refine wpAny_List_spliced ?_
  rw [star_each hst]
  have hlen : ∀ {es : List Expr} {K : List AV → Hp → Prop} {σ : Hp} {ρ : Rho} {s : Shared}, seqI (fun e σ1 K1 => I.ev sc e L σ1 K1) es σ K → St B ρ σ s → Lo B env L ρ s.heap →
      wpAny (model prog w) A (spliced (es.map fun e => (false, eval e env))) (fun ws s' => ws.length = es.length ∧ PVs B ρ s.heap K ws s') no s := by
    intro es
    induction es with
    | nil => intro K σ ρ s k S l; exact Calls.spliced_nil ⟨rfl, [], σ, ρ, .nil, S, .refl .., k⟩
    | cons e r ih =>
      intro K σ ρ s k S l
      refine Calls.spliced_cons (wpAny_got (sn.ev k ao eo S l) fun a v σ1 ρ1 s1 ra S1 e1 k1 => ?_)
      refine wpAny_mono (ih k1 S1 (l.ext0 e1)) (fun vs s2 ⟨hl, as, σ2, ρ2, rs, S2, e2, k2⟩ => ?_) fun _ _ x => x
      exact ⟨by rw [List.length_cons, List.length_cons, hl], a :: as, σ2, ρ2, .cons (ra.ext0 e2) rs, S2, e1.trans e2, k2⟩
  refine wpAny_mono (hlen k S l) (fun ws s1 ⟨hl, vs, σ1, ρ1, rs, S1, e1, k1⟩ => ⟨by rw [hl, sizeLine]; omega, ?_⟩) fun _ _ x => x
  obtain ⟨S2, E2⟩ := S1.new (h' := s1.heap.push (listOf ws.toArray 0)) (tk := s1.toks) (d := s1.drawn) (p := (s1.heap.objs.size, s1.heap.objs.size)) (o := mkList vs) (fun b o e => Heap.get?_push_of_some _ e) (get?_size _) (get?_size _) ⟨_, Heap.get?_push_size _ rfl⟩ ⟨_, Heap.get?_push_size _ rfl⟩
    (mkList_rep (e := 0) (by rw [← rs.len, hl]; omega) _ (Heap.get?_push_size _ rfl) (rs.ext0 ⟨⟨⟨_, rfl, fun q hq => by rw [List.mem_singleton.mp hq]; exact ⟨get?_size _, get?_size _⟩⟩, fun b o _ _ e => Heap.get?_push_of_some _ e⟩, fun b o e => ⟨o, Heap.get?_push_of_some _ e⟩⟩))
  exact PV.of (.loc _ _ S1.lenAt) S2 (e1.trans E2) k1
theorem sound_tuple (sn : Snd prog w B I d) (ao : AOk d A) (eo : EnvOk env sc) {es : List Expr} {x1 : Nat} {pos : Pos} {K : KV} (hst : es.all noStar = true) (hn : es.length < 1000) (S : St B ρ σ s) (l : Lo B env L ρ s.heap)
    (k : seqI (fun e σ1 K1 => I.ev sc e L σ1 K1) es σ fun vs σ1 => K (.tup vs) σ1) : wpAny (model prog w) A (eval (.Tuple es x1 pos) env) (PV B ρ s.heap K) no s := by
  refine wpAny_Tuple_spliced ?_
  rw [star_each hst]
  have hlen : ∀ {es : List Expr} {K : List AV → Hp → Prop} {σ : Hp} {ρ : Rho} {s : Shared}, seqI (fun e σ1 K1 => I.ev sc e L σ1 K1) es σ K → St B ρ σ s → Lo B env L ρ s.heap →
      wpAny (model prog w) A (spliced (es.map fun e => (false, eval e env))) (fun ws s' => ws.length = es.length ∧ PVs B ρ s.heap K ws s') no s := by
    intro es
    induction es with
    | nil => intro K σ ρ s k S l; exact Calls.spliced_nil ⟨rfl, [], σ, ρ, .nil, S, .refl .., k⟩
    | cons e r ih =>
      intro K σ ρ s k S l
      refine Calls.spliced_cons (wpAny_got (sn.ev k ao eo S l) fun a v σ1 ρ1 s1 ra S1 e1 k1 => ?_)
      refine wpAny_mono (ih k1 S1 (l.ext0 e1)) (fun vs s2 ⟨hl, as, σ2, ρ2, rs, S2, e2, k2⟩ => ?_) fun _ _ x => x
      exact ⟨by rw [List.length_cons, List.length_cons, hl], a :: as, σ2, ρ2, .cons (ra.ext0 e2) rs, S2, e1.trans e2, k2⟩
  refine wpAny_mono (hlen k S l) (fun ws s1 ⟨hl, vs, σ1, ρ1, rs, S1, e1, k1⟩ => ⟨by rw [hl, sizeLine]; omega, ?_⟩) fun _ _ x => x
  have E2 : Ext [] s1.heap ρ1 (s1.heap.push (tupObj ws.toArray 0)) ρ1 := .push _
  exact PV.of (.tup vs _ ws.toArray 0 (S1.notOwn (get?_size _)) (Heap.get?_push_size _ rfl) (rs.ext0 E2)) (S1.push _) (e1.trans E2) k1
end
end Mine
end
section
set_option maxRecDepth 100000
set_option linter.unusedVariables false
open PySem PySem.W PyProof.Rows PySem.Claim2Try PySem.Pin
namespace Mine
section
variable {prog : Program} {w : World} {B : Bs} {G : Pg} {I : In} {d : Nat} {A : Around} {env : Env} {sc : Scope} {ρ ρ' : Rho} {σ : Hp} {s : Shared} {L : Loc} {h : Heap}
theorem EnvOk.plain (eo : EnvOk env sc) : (env.scope.kind == .class || (env.scope.kind == .module && env.locals != env.globals)) = false := by rw [eo.scope, eo.kind]; rfl
theorem storeI_inv {x : Str} {v : AV} {K : Loc → Prop} (k : storeI sc x v L K) : (kindS x sc = some .local ∨ kindS x sc = some .cell) ∧ notLam v = true ∧ K (putS x v L) := by
  unfold storeI at k
  obtain ⟨hl, k⟩ := condF k
  cases hk : kindS x sc with
  | none => rw [hk] at k; exact k.elim
  | some kd =>
    rw [hk] at k
    cases kd with
    | «local» => exact ⟨.inl rfl, hl, k⟩
    | cell => exact ⟨.inr rfl, hl, k⟩
    | _ => exact k.elim
/-- one object of the frame has been written -/
theorem frame_turned {a : Addr} {h' : Heap} {tk : Nat} (S : St B ρ σ s) (l : Lo B env L ρ s.heap) (ha : a ∈ fr env) (sb : Heap.SameBut a s.heap h') (th : ∃ o, h'.get? a = some o) :
    St B ρ σ { s with heap := h', toks := tk } ∧ Ext [a] s.heap ρ h' ρ ∧ (∀ v w, RepV B s.heap ρ v w → RepV B h' ρ v w) ∧ ∀ x ∈ fr env, x ≠ a → ∀ o, s.heap.get? x = some o → h'.get? x = some o := by
  have kk : ∀ b o, b ∉ [a] → s.heap.get? b = some o → h'.get? b = some o := fun b o hb e => (sb.2 b fun z => hb (z ▸ List.mem_singleton.mpr rfl)).trans e
  have hx : ∀ y ∈ [a], Hid s.heap y ∧ NotOwn ρ y ∧ B.hb.get? y = none := fun y hy => by rw [List.mem_singleton.mp hy]; exact ⟨(l.hid a ha).1, (l.own a ha).1, (l.own a ha).2⟩
  have E' : Ext [a] s.heap ρ h' ρ := .of_keep kk fun y hy => by rw [List.mem_singleton.mp hy]; exact th
  exact ⟨S.keeps kk hx, E', fun v w r => r.ext E' fun y hy => (hx y hy).1, fun x _ hne o e => (sb.2 x hne).trans e⟩
theorem Lo.lamPut {x : Str} {v : AV} (l : Lo B env L ρ h) (hv : lamOk env v) : ∀ y z, lookS y (putS x v L) = some z → lamOk env z := fun y z hz => by
  rw [lookS_putS] at hz
  by_cases hxy : y = x
  · rw [if_pos hxy] at hz; cases hz; exact hv
  · rw [if_neg hxy] at hz; exact l.lam y z hz
theorem sound_storeL {x : Str} {v : AV} {u : Value} {Q : Unit → Shared → Prop} {E : Value → Shared → Prop} (eo : EnvOk env sc) (hv : lamOk env v) (hk : kindS x sc = some .local) (S : St B ρ σ s) (l : Lo B env L ρ s.heap) (r : RepV B s.heap ρ v u)
    (q : ∀ s', St B ρ σ s' → Lo B env (putS x v L) ρ s'.heap → Ext [env.locals] s.heap ρ s'.heap ρ → Q () s') : wpAny (model prog w) A (storeName env x u) Q E s := by
  obtain ⟨m, hn, hm⟩ := l.ns
  refine wpAny_storeName_local ((eo.kindOf x).trans hk) hn (fun h' hn' sb => ?_) eo.plain
  obtain ⟨S', E', rr, kp⟩ := frame_turned (tk := s.toks + 1) S l fr_locals sb (let ⟨o, _, _, e, _⟩ := hn'; ⟨o, e⟩)
  refine q _ S' ⟨⟨_, hn', fun y z hz hy => ?_⟩, fun y z hz hy => ?_, fun n c hc => ?_, l.apart, l.cells, l.own, l.lamPut hv, l.code⟩ E'
  · rw [lookS_putS] at hz
    by_cases hxy : y = x
    · rw [if_pos hxy] at hz
      cases hz
      exact ⟨u, if_pos hxy, rr _ _ r⟩
    · rw [if_neg hxy] at hz
      obtain ⟨z', h1, h2⟩ := hm y z hz hy
      exact ⟨z', (if_neg hxy).trans h1, rr _ _ h2⟩
  · rw [lookS_putS, if_neg fun e => hy (by rw [e]; exact (eo.kindOf x).trans hk)] at hz
    obtain ⟨c, z', h1, ⟨o, h2, h2'⟩, h3⟩ := l.cell y z hz hy
    exact ⟨c, z', h1, ⟨o, kp c (fr_cell h1) (l.cok y c h1).2 o h2, h2'⟩, rr _ _ h3⟩
  · obtain ⟨⟨v', o, h2, h2'⟩, h3⟩ := l.cok n c hc
    exact ⟨⟨v', o, kp c (fr_cell hc) h3 o h2, h2'⟩, h3⟩
theorem fr_one {a : Addr} {h' : Heap} (ha : a ∈ fr env) (e : Ext [a] h ρ h' ρ') : Ext (fr env) h ρ h' ρ' := e.mono fun y hy => by rw [List.mem_singleton.mp hy]; exact ha
theorem sound_store {x : Str} {v : AV} {u : Value} {K : Loc → Prop} {Q : Unit → Shared → Prop} (eo : EnvOk env sc) (k : storeI sc x v L K) (S : St B ρ σ s) (l : Lo B env L ρ s.heap) (r : RepV B s.heap ρ v u)
    (q : ∀ L' s', St B ρ σ s' → Lo B env L' ρ s'.heap → Ext (fr env) s.heap ρ s'.heap ρ → K L' → L' = putS x v L → Q () s') : wpAny (model prog w) A (storeName env x u) Q no s := by
  obtain ⟨hk | hk, hv, k⟩ := storeI_inv k
  · exact sound_storeL eo (lamOk_of hv) hk S l r fun s' S' l' E' => q _ _ S' l' (fr_one fr_locals E') k rfl
  · obtain ⟨c, hc⟩ := l.cells x ((eo.kindOf x).trans hk)
    obtain ⟨⟨v0, hv0⟩, hcl⟩ := l.cok x c hc
    refine wpAny_storeName_cell (eo.scope ▸ eo.kind) ((eo.kindOf x).trans hk) hc hv0 fun h' hc' sb => ?_
    obtain ⟨S', E', rr, kp⟩ := frame_turned (tk := s.toks) S l (fr_cell hc) sb (let ⟨o, e, _⟩ := hc'; ⟨o, e⟩)
    have hnl : env.kindOf x ≠ some .local := by rw [eo.kindOf, hk]; decide
    refine q _ _ S' ⟨?_, fun y z hz hy => ?_, fun n c' hc2 => ?_, l.apart, l.cells, l.own, l.lamPut (lamOk_of hv), l.code⟩ (fr_one (fr_cell hc) E') k rfl
    · obtain ⟨m, hn, hm⟩ := l.ns
      refine ⟨m, hn.at fun o e => kp _ fr_locals hcl.symm o e, fun y z hz hy => ?_⟩
      rw [lookS_putS, if_neg fun e => hnl (by rw [← e]; exact hy)] at hz
      obtain ⟨z', h1, h2⟩ := hm y z hz hy
      exact ⟨z', h1, rr _ _ h2⟩
    · rw [lookS_putS] at hz
      by_cases hxy : y = x
      · rw [if_pos hxy] at hz
        cases hz
        exact ⟨c, u, by rw [hxy]; exact hc, hc', rr _ _ r⟩
      · rw [if_neg hxy] at hz
        obtain ⟨c2, z', h1, ⟨o, h2, h2'⟩, h3⟩ := l.cell y z hz hy
        exact ⟨c2, z', h1, ⟨o, kp c2 (fr_cell h1) (fun e => hxy (l.apart y x c (by rw [← e]; exact h1) hc)) o h2, h2'⟩, rr _ _ h3⟩
    · obtain ⟨⟨v', o, h2, h2'⟩, h3⟩ := l.cok n c' hc2
      by_cases hcc : c' = c
      · rw [hcc]; exact ⟨⟨_, hc'⟩, hcl⟩
      · exact ⟨⟨v', o, kp c' (fr_cell hc2) hcc o h2, h2'⟩, h3⟩
inductive ListAt (B : Bs) (h : Heap) (ρ : Rho) (σ : Hp) (n k : Nat) (v : Value) : Prop
  | mk (p : Addr × Addr) (its : Array Value) (e : Nat) (hp : ρ[n]? = some p) (hv : v = .ref p.1) (h2 : p.2 = p.1) (ho : h.get? p.1 = some (listOf its e)) (hs : its.size = k) (hl : k ≤ 1000000) (hi : ∀ i, ∃ o, itemAt σ n i = some o ∧ (match o with
      | none => its[i]? = none
      | some v => ∃ w, its[i]? = some w ∧ RepV B h ρ v w)) : ListAt B h ρ σ n k v
theorem St.listAt (S : St B ρ σ s) {n k : Nat} {v : Value} (ho : Mine.lenAt σ n = some k) (r : RepV B s.heap ρ (.loc n) v) :
    ListAt B s.heap ρ σ n k v := by
  unfold Mine.lenAt at ho
  split at ho
  · rename_i f hn
    cases ho
    obtain ⟨p, its, e, h1, h2, h3, h4, h5, h6, h7⟩ := S.nums hn r
    refine ⟨p, its, e, h1, h2, h3, h4, h5, h6, fun i => ⟨_, by unfold itemAt; rw [hn], ?_⟩⟩
    cases hb : Nat.blt i k with
    | false =>
      have : ¬ i < k := fun q => by rw [Nat.blt_eq.mpr q] at hb; cases hb
      exact Array.getElem?_eq_none (by omega)
    | true =>
      obtain ⟨t, ht⟩ := h7 i (Nat.blt_eq.mp hb)
      exact ⟨_, ht, .int _ _⟩
  · rename_i vs hn
    cases ho
    obtain ⟨p, hp, rfl⟩ := r.loc_inv
    have hn' := hn
    rw [nth_eq] at hn'
    obtain ⟨e1, hlen, its, e, ho, hr⟩ := S.obj n p _ hp hn'
    refine ⟨p, its, e, hp, rfl, e1, ho, by rw [← Array.length_toList, hr.len], hlen, fun i => ⟨_, by unfold itemAt; rw [hn], ?_⟩⟩
    cases hz : nth vs i with
    | none =>
      rw [nth_eq] at hz
      have := List.getElem?_eq_none_iff.mp hz
      exact Array.getElem?_eq_none (by rw [← Array.length_toList, hr.len]; exact this)
    | some z =>
      obtain ⟨u, h1, h2⟩ := hr.at_ hz
      exact ⟨u, by rw [← Array.getElem?_toList]; exact h1, h2⟩
  · cases ho
theorem item_len {n i : Nat} {o : Option AV} (h : itemAt σ n i = some o) : ∃ k, lenAt σ n = some k := by
  unfold itemAt at h
  unfold lenAt
  split at h
  · exact ⟨_, rfl⟩
  · exact ⟨_, rfl⟩
  · cases h
theorem iter_hid {it l : Addr} {i : Nat} (x : h.IsListIter it l i) : Hid h it := by
  obtain ⟨o, ho, hc, hd⟩ := x
  intro o' ho'
  rw [ho] at ho'
  cases ho'
  refine ⟨fun its e q => ?_, fun f x q => ?_, fun a b t u v q => ?_, fun f q => ?_, fun vs q t e1 e2 => ?_, fun its e q => ?_⟩
  · rw [q] at hc; exact absurd hc (by simp)
  · rw [q] at hc; exact absurd hc (by simp)
  · rw [q] at hc; exact absurd hc (by simp)
  · rw [q] at hd; cases hd
  · rw [e1] at hd; cases hd; cases e2
  · rw [q] at hc; exact absurd hc (by simp)
end
end Mine
end
section
set_option maxRecDepth 100000
set_option linter.unusedVariables false
open PySem PySem.W PyProof.Rows PySem.Claim2Try PySem.Pin
namespace Mine
/-- an iterator at x that gives what src tells -/
structure Iter (prog : Program) (w : World) (B : Bs) (A : Around) (src : Hp → Nat → Option (Option AV)) (x : Addr) (It : Nat → Heap → Prop) (ρ1 : Rho) : Prop where
  stable : ∀ {i h h'}, It i h → (∀ o, h.get? x = some o → h'.get? x = some o) → It i h'
  hid : ∀ {i h}, It i h → Hid h x ∧ ∃ o, h.get? x = some o
  self : ∀ {i} {s : Shared} {Q : Value → Shared → Prop} {E}, It i s.heap → Q (.ref x) s → wpAny (model prog w) A (pyIter (.ref x)) Q E s
  fin : ∀ {i σ' ρ'} {s' : Shared} {Q : Option Value → Shared → Prop} {E}, St B ρ' σ' s' → It i s'.heap → (∀ (m : Nat) p, ρ1[m]? = some p → ρ'[m]? = some p) → src σ' i = some none →
    (∀ h', (∀ b o, b ≠ x → s'.heap.get? b = some o → h'.get? b = some o) → Q none { s' with heap := h' }) → wpAny (model prog w) A (pyNext (.ref x)) Q E s'
  step : ∀ {i v σ' ρ'} {s' : Shared} {Q : Option Value → Shared → Prop} {E}, St B ρ' σ' s' → It i s'.heap → NotOwn ρ' x → (∀ (m : Nat) p, ρ1[m]? = some p → ρ'[m]? = some p) → src σ' i = some (some v) →
    (∀ u h' tk, It (i + 1) h' → (∀ b o, b ≠ x → s'.heap.get? b = some o → h'.get? b = some o) → RepV B h' ρ' v u → Q (some u) { s' with heap := h', toks := tk }) → wpAny (model prog w) A (pyNext (.ref x)) Q E s'
section
variable {prog : Program} {w : World} {B : Bs} {G : Pg} {I : In} {d : Nat} {A : Around} {E : Value → Shared → Prop} {env : Env} {sc : Scope} {ρ ρ' : Rho} {σ : Hp} {s : Shared} {L : Loc} {h : Heap}
theorem St.base (S : St B ρ σ s) {a : Addr} (ha : s.heap.get? a = none) : B.hb.get? a = none := by
  cases hz : B.hb.get? a with
  | none => rfl
  | some o => rw [S.keep a o hz] at ha; cases ha
theorem one_hid {x : Addr} {h' : Heap} (hx : Hid h x) (th : ∃ o, h'.get? x = some o) (kp : ∀ b o, b ≠ x → h.get? b = some o → h'.get? b = some o) : Ext [x] h ρ h' ρ ∧ ∀ y ∈ [x], Hid h y :=
  ⟨.of_keep (fun b o hb e => kp b o (fun z => hb (z ▸ List.mem_singleton.mpr rfl)) e) fun y hy => by rw [List.mem_singleton.mp hy]; exact th, fun y hy => by rw [List.mem_singleton.mp hy]; exact hx⟩
theorem iter_list (hh : A.handled = none) {x : Addr} {n : Nat} {p : Addr × Addr} (hp : ρ[n]? = some p) : Iter prog w B A (fun σ i => itemAt σ n i) x (fun i h => h.IsListIter x p.1 i) ρ where
  stable := fun ⟨o, a, b⟩ kk => ⟨o, kk _ a, b⟩
  hid := fun q => ⟨iter_hid q, let ⟨o, e, _⟩ := q; ⟨o, e⟩⟩
  self := fun it q => wpAny_pyIter_listiter it q
  fin := fun S' it' hat hi q => by
    obtain ⟨k2, hk2⟩ := item_len hi
    obtain ⟨p2, its2, e2, hp2, _, _, hl2, _, _, hit2⟩ := S'.listAt hk2 (.loc n p (hat n p hp))
    rw [hat n p hp] at hp2
    cases hp2
    obtain ⟨o2, ho2, hval⟩ := hit2 _
    rw [show itemAt _ n _ = some none from hi] at ho2
    cases ho2
    exact wpAny_pyNext_list_end hh it' (isList_x hl2) hval fun h2 eb => q h2 fun b o hb e => eb b o hb e
  step := fun S' it' nx hat hi q => by
    obtain ⟨k2, hk2⟩ := item_len hi
    obtain ⟨p2, its2, e2, hp2, _, _, hl2, _, _, hit2⟩ := S'.listAt hk2 (.loc n p (hat n p hp))
    rw [hat n p hp] at hp2
    cases hp2
    obtain ⟨o2, ho2, hval⟩ := hit2 _
    rw [show itemAt _ n _ = some (some _) from hi] at ho2
    cases ho2
    obtain ⟨w', hw', rw'⟩ := hval
    refine wpAny_pyNext_list_item it' (isList_x hl2) hw' fun h2 it2 sb2 => ?_
    obtain ⟨e3, h3⟩ := one_hid (ρ := _) (iter_hid it') (let ⟨o, e, _⟩ := it2; ⟨o, e⟩) fun b o hb e => (sb2.2 b hb).trans e
    exact q w' h2 _ it2 (fun b o hb e => (sb2.2 b hb).trans e) (rw'.ext e3 h3)
theorem range_size {a b : Int} : Builtin.Range.rangeSize a b 1 = ((b - a).toNat : Int) := by
  unfold Builtin.Range.rangeSize
  rw [if_pos (by decide)]
  split
  · rw [Int.ediv_one]; omega
  · omega
theorem range_hid {it : Addr} {x left step : Int} (q : IsRangeIter h it x left step) : Hid h it := by
  intro o' ho'
  rw [q] at ho'
  cases ho'
  refine ⟨fun its e q => ?_, fun f x q => ?_, fun a b t u v q => ?_, fun f q => ?_, fun vs q t e1 e2 => ?_, fun its e q => ?_⟩
  · exact absurd (congrArg Obj.cls q) (by simp)
  · exact absurd (congrArg Obj.cls q) (by simp)
  · exact absurd (congrArg Obj.cls q) (by simp)
  · cases q
  · cases e1; cases e2
  · exact absurd (congrArg Obj.cls q) (by simp)
theorem blt_false {i N : Nat} (h : ¬ i < N) : Nat.blt i N = false := by rw [Bool.eq_false_iff]; exact fun z => h (Nat.blt_eq.mp z)
theorem iter_range (hh : A.handled = none) {x : Addr} {N : Nat} {a : Int} : Iter prog w B A (rangeSrc N a) x (fun i h => IsRangeIter h x (a + i) (N - i) 1) ρ where
  stable := fun q kk => kk _ q
  hid := fun q => ⟨range_hid q, _, q⟩
  self := fun it q => wpAny_pyIter_rangeiter it q
  fin := fun {i σ' ρ' s' Q E} S' it' hat hs q => by
    have hi : ¬ i < N := fun z => by
      unfold rangeSrc at hs
      rw [Nat.blt_eq.mpr z] at hs
      cases hs
    exact wpAny_pyNext_range_end hh it' (by omega) fun h2 eb => q h2 fun b o hb e => eb b o hb e
  step := fun {i v σ' ρ' s' Q E} S' it' nx hat hs q => by
    have hi : i < N := Classical.byContradiction fun z => by
      unfold rangeSrc at hs
      rw [blt_false z] at hs
      cases hs
    unfold rangeSrc at hs
    rw [Nat.blt_eq.mpr hi] at hs
    cases hs
    refine wpAny_pyNext_range_item it' (by omega) fun h2 it2 sb2 => q _ h2 (s'.toks + 1) ?_ (fun b o hb e => (sb2.2 b hb).trans e) (.int _ _)
    have e1 : a + (i : Int) + 1 = a + ((i + 1 : Nat) : Int) := by omega
    have e2 : (N : Int) - (i : Int) - 1 = (N : Int) - ((i + 1 : Nat) : Int) := by omega
    rw [← e1, ← e2]
    exact it2
theorem keyiter_hid {it dd : Addr} {i n ep : Nat} (q : h.IsKeyIter it dd i n ep) : Hid h it := by
  obtain ⟨o, ho, hc, hd⟩ := q
  intro o' ho'
  rw [ho] at ho'
  cases ho'
  refine ⟨fun its e q => ?_, fun f x q => ?_, fun a b t u v q => ?_, fun f q => ?_, fun vs q t e1 e2 => ?_, fun its e q => ?_⟩
  · rw [q] at hc; exact absurd hc (by simp)
  · rw [q] at hc; exact absurd hc (by simp)
  · rw [q] at hc; exact absurd hc (by simp)
  · rw [q] at hd; cases hd
  · rw [e1] at hd; cases hd; cases e2
  · rw [q] at hc; exact absurd hc (by simp)
theorem keySrc_inv {n ep N i : Nat} {o : Option AV} (hs : keySrc n ep N σ i = some o) : ∃ es, nth σ n = some (.idict (some ep) es) ∧ es.length = N ∧ o = (es[i]?).map fun x => .int x.1 := by
  have hs : (match nth σ n with
    | some (.idict (some e) es) => cond (Nat.beq e ep && Nat.beq es.length N) (some ((nth es i).map fun x => AV.int x.1)) none
    | _ => none) = some o := hs
  cases hn : nth σ n with
  | none => rw [hn] at hs; cases hs
  | some ob =>
    rw [hn] at hs
    cases ob with
    | idict e es =>
      cases e with
      | none => cases hs
      | some e =>
        have hs : cond (Nat.beq e ep && Nat.beq es.length N) (some ((nth es i).map fun x => AV.int x.1)) none = some o := hs
        cases hc : Nat.beq e ep && Nat.beq es.length N with
        | false => rw [hc] at hs; cases hs
        | true =>
          rw [hc] at hs
          cases hs
          rw [Bool.and_eq_true] at hc
          obtain rfl := Nat.eq_of_beq_eq_true hc.1
          exact ⟨es, rfl, Nat.eq_of_beq_eq_true hc.2, by rw [nth_eq]⟩
    | _ => cases hs
theorem RepPs.at_ {es : List (Int × AV)} {kvs : List (Int × Value)} (r : RepPs B h ρ es kvs) : ∀ i : Nat, (es[i]?).map (·.1) = (kvs[i]?).map (·.1) := by
  induction r with
  | nil => intro i; rfl
  | cons _ _ ih =>
    intro i
    cases i with
    | zero => rfl
    | succ i => rw [List.getElem?_cons_succ, List.getElem?_cons_succ]; exact ih i
theorem iter_dict (hh : A.handled = none) {x : Addr} {n N ep : Nat} {p : Addr × Addr} (hp : ρ[n]? = some p) : Iter prog w B A (keySrc n ep N) x (fun i h => h.IsKeyIter x p.1 i N ep) ρ where
  stable := fun ⟨o, a, b⟩ kk => ⟨o, kk _ a, b⟩
  hid := fun q => ⟨keyiter_hid q, let ⟨o, e, _⟩ := q; ⟨o, e⟩⟩
  self := fun it q => wpAny_pyIter_keyiter it q
  fin := fun {i σ' ρ' s' Q E} S' it' hat hs q => by
    obtain ⟨es, hn, hN, ho⟩ := keySrc_inv hs
    obtain ⟨p2, kvs, ep', hp2, _, _, _, _, hep, hD, rp⟩ := S'.dictR hn (.loc n p (hat n p hp))
    rw [hat n p hp] at hp2
    cases hp2
    obtain rfl := hep _ rfl
    have hl := rp.len
    rw [hN] at hl
    subst hl
    have ha := rp.at_ i
    have hk : kvs[i]? = none := by
      have := Option.map_eq_none_iff.mp ho.symm
      rw [this] at ha
      exact Option.map_eq_none_iff.mp ha.symm
    exact wpAny_pyNext_dict_end hh it' (hD prog w) hk fun h2 eb => q h2 fun b o hb e => eb b o hb e
  step := fun {i v σ' ρ' s' Q E} S' it' nx hat hs q => by
    obtain ⟨es, hn, hN, ho⟩ := keySrc_inv hs
    obtain ⟨p2, kvs, ep', hp2, _, _, _, _, hep, hD, rp⟩ := S'.dictR hn (.loc n p (hat n p hp))
    rw [hat n p hp] at hp2
    cases hp2
    obtain rfl := hep _ rfl
    have hl := rp.len
    rw [hN] at hl
    subst hl
    obtain ⟨e0, he, hv⟩ := Option.map_eq_some_iff.mp ho.symm
    have ha := rp.at_ i
    rw [he] at ha
    obtain ⟨kv, hk, hkv⟩ := Option.map_eq_some_iff.mp ha.symm
    obtain ⟨k, u⟩ := kv
    refine wpAny_pyNext_dict_item (knd := intKind prog w) it' (hD prog w) hk fun key h2 hkey it2 sb2 => ?_
    obtain ⟨t, rfl⟩ := Value.isInt_shape hkey
    subst hv
    have e1 : k = e0.1 := hkv
    exact q _ h2 _ it2 (fun b o hb e => (sb2.2 b hb).trans e) (e1 ▸ .int _ _)
/-- what is iterated -/
theorem sound_iter (ao : AOk d A) {v : AV} {u : Value} {K : (Hp → Nat → Option (Option AV)) → Nat → Hp → Prop} {Q : Value → Shared → Prop} {E : Value → Shared → Prop} (k : srcK σ v K) (S : St B ρ σ s) (r : RepV B s.heap ρ v u)
    (q : ∀ src n σ1 x It o, K src n σ1 → St B ρ σ1 s → Iter prog w B A src x It ρ → s.heap.objs.size = x → It 0 (s.heap.push o) → Q (.ref x) { s with heap := s.heap.push o }) : wpAny (model prog w) A (pyIter u) Q E s := by
  cases v with
  | loc n =>
    rcases condB k with k | k
    · obtain ⟨n', ep, es, e, hn, k⟩ := dictAtK_inv k
      cases e
      obtain ⟨p, kvs, ep', hp, rfl, e1, e2, e3, _, hD, rp⟩ := S.dictR hn r
      obtain ⟨o, es', ho, q2⟩ := hD prog w
      obtain ⟨S', _⟩ := S.set (h' := s.heap) (tk := s.toks) (d := s.drawn) (o := .idict (some ep') es) hp (fun b o hb _ hbo => hbo) ⟨_, ho⟩ (by rw [e1]; exact ⟨_, ho⟩)
        ⟨e1, beq_eq_false_iff_ne.mp e2, e3, kvs, ⟨ep', (fun e h => by cases h; rfl), hD⟩, rp⟩
      rw [← setN_eq] at S'
      refine wpAny_pyIter_dict e2 (hD prog w) ?_
      rw [rp.len]
      exact q _ _ _ _ _ _ (k ep') S' (iter_dict ao.handled hp) rfl ⟨_, Heap.get?_push_size _ rfl, rfl, rfl⟩
    · obtain ⟨kk, hlen, k⟩ := someK_inv k
      obtain ⟨p, its, e, hp, rfl, _, hl, _, _, _⟩ := S.listAt hlen r
      exact wpAny_pyIter_list (isList_x hl) (q _ kk _ _ _ _ k S (iter_list ao.handled hp) rfl ⟨_, Heap.get?_push_size _ rfl, rfl, rfl⟩)
  | rng a b =>
    obtain ⟨hc, k⟩ := condF k
    simp only [Bool.and_eq_true, decide_eq_true_eq] at hc
    cases r with | rng _ _ rr tt uu vv hno hr =>
    refine wpAny_pyIter_range hr (small_one (by omega) (by omega) (by omega) (by omega)) ?_
    rw [range_size]
    have h0 : IsRangeIter (s.heap.push { cls := .type "range_iterator", data := .fields #[rawInt a, rawInt ((b - a).toNat : Int), rawInt 1] }) s.heap.objs.size (a + ((0 : Nat) : Int)) (((b - a).toNat : Int) - ((0 : Nat) : Int)) 1 := by
      rw [show a + ((0 : Nat) : Int) = a from Int.add_zero a, show ((b - a).toNat : Int) - ((0 : Nat) : Int) = ((b - a).toNat : Int) from Int.sub_zero _]
      exact Heap.get?_push_size _ rfl
    exact q _ _ _ _ _ _ k S (iter_range ao.handled) rfl h0
  | _ => exact False.elim k
end
end Mine
end
section
set_option maxRecDepth 100000
set_option linter.unusedVariables false
open PySem PySem.W PyProof.Rows PySem.Claim2Try PySem.Pin
namespace Mine
theorem memS_iff {x : Str} : ∀ {l : List Str}, memS x l = true ↔ x ∈ l
  | [] => ⟨fun h => (by cases h), fun h => (by cases h)⟩
  | y :: r => by
    unfold memS
    cases h : eqS x y with
    | true => exact ⟨fun _ => by rw [eqS_iff.mp h]; exact List.mem_cons_self .., fun _ => rfl⟩
    | false =>
      show memS x r = true ↔ _
      rw [memS_iff]
      exact ⟨fun q => List.mem_cons_of_mem _ q, fun q => (List.mem_cons.mp q).resolve_left (eqS_ne h)⟩
theorem nodupS_iff : ∀ {l : List Str}, nodupS l = true → l.Nodup
  | [], _ => List.nodup_nil
  | x :: r, h => by
    unfold nodupS at h
    cases hm : memS x r with
    | true => rw [hm] at h; cases h
    | false =>
      rw [hm] at h
      refine List.nodup_cons.mpr ⟨fun q => ?_, nodupS_iff h⟩
      rw [memS_iff.mpr q] at hm; cases hm
section
variable {prog : Program} {w : World} {B : Bs} {G : Pg} {I : In} {d : Nat} {A : Around} {env : Env} {sc : Scope} {ρ ρ' : Rho} {σ : Hp} {s : Shared} {L : Loc} {h : Heap}
theorem set_push {its : Array Value} {N : Nat} {f : Nat → Int} {x : Int} {t : Tok} (hs : its.size = N) (hf : ∀ i, i < N → ∃ t, its[i]? = some (.int (f i) t)) : ∀ i, i < N + 1 → ∃ t', (its.push (.int x t))[i]? = some (.int (setF f N x i) t') := by
  intro i hi
  unfold setF
  rw [Array.getElem?_push]
  by_cases e : i = its.size
  · rw [if_pos e, e, hs, Nat.beq_refl]
    exact ⟨t, rfl⟩
  · rw [if_neg e, show Nat.beq i N = false by rw [Bool.eq_false_iff]; intro q; exact e ((Nat.eq_of_beq_eq_true q).trans hs.symm)]
    exact hf i (by omega)
theorem RepVs.app {vs us : List AV} {ws xs : List Value} (a : RepVs B h ρ vs ws) (b : RepVs B h ρ us xs) : RepVs B h ρ (vs ++ us) (ws ++ xs) := by
  induction vs generalizing ws with
  | nil => cases a; exact b
  | cons v r ih => cases a with | cons x y => exact .cons x (ih y)
theorem isInt_inv {v : AV} (h : isInt v = true) : ∃ x, v = .int x := by
  cases v with
  | int x => exact ⟨x, rfl⟩
  | _ => exact absurd h Bool.false_ne_true
/-- a list, told after a value more -/
theorem push_rep {p : Addr × Addr} {o o' : AObj} {v : AV} {u : Value} (ho : pushO o v = some o') (r : RepO B h ρ p o) (rv : RepV B h ρ v u) :
    ∃ its e, h.get? p.1 = some (listOf its e) ∧ its.size ≤ 1000 ∧ p.2 = p.1 ∧ ∀ h' e', Ext [] h ρ h' ρ → h'.get? p.1 = some (listOf (its.push u) e') → RepO B h' ρ p o' := by
  cases o with
  | nums N f =>
    obtain ⟨e1, its, e, h1, h2, h3, h4⟩ := r
    have ho : cond (isInt v) (cond (decide (N ≤ 1000)) (some (.nums (N + 1) (setF f N (intOf v)))) none) (cond (Nat.beq N 0) (some (.list [v])) none) = some o' := ho
    cases hi : isInt v with
    | true =>
      obtain ⟨x, rfl⟩ := isInt_inv hi
      rw [hi] at ho
      cases hN : decide (N ≤ 1000) with
      | false => rw [hN] at ho; cases ho
      | true =>
        rw [hN] at ho
        cases ho
        have hN := of_decide_eq_true hN
        obtain ⟨t, rfl⟩ := rv.int_inv
        exact ⟨its, e, h1, by omega, e1, fun h' e' E g => ⟨e1, _, e', g, by rw [Array.size_push, h2], by omega, set_push h2 h4⟩⟩
    | false =>
      rw [hi] at ho
      cases hN : Nat.beq N 0 with
      | false => rw [hN] at ho; cases ho
      | true =>
        rw [hN] at ho
        cases ho
        obtain rfl := Nat.eq_of_beq_eq_true hN
        obtain rfl : its = #[] := Array.eq_empty_of_size_eq_zero h2
        exact ⟨_, e, h1, by decide, e1, fun h' e' E g => ⟨e1, by show 1 ≤ 1000000; omega, _, e', g, .cons (rv.ext0 E) .nil⟩⟩
  | list vs =>
    obtain ⟨e1, hl, its, e, h1, h2⟩ := r
    have ho : cond (decide (vs.length ≤ 1000)) (some (.list (vs ++ [v]))) none = some o' := ho
    cases hN : decide (vs.length ≤ 1000) with
    | false => rw [hN] at ho; cases ho
    | true =>
      rw [hN] at ho
      cases ho
      have hN := of_decide_eq_true hN
      refine ⟨its, e, h1, by rw [← Array.length_toList, h2.len]; exact hN, e1, fun h' e' E g => ⟨e1, by rw [List.length_append, List.length_singleton]; omega, _, e', g, ?_⟩⟩
      rw [Array.toList_push]
      exact (h2.ext0 E).app (.cons (rv.ext0 E) .nil)
  | _ => cases ho
theorem sound_append {n : Nat} {v : AV} {u : Value} {K : Hp → Prop} {Q : Value → Shared → Prop} {p : Addr × Addr} {E : Value → Shared → Prop} (k : appendI n v σ K) (S : St B ρ σ s) (hp : ρ[n]? = some p) (rv : RepV B s.heap ρ v u)
    (q : ∀ σ' s', St B ρ σ' s' → Ext [] s.heap ρ s'.heap ρ → K σ' → Q .none s') : wpAny (model prog w) A (call (.builtin "list.append") [.ref p.1, u]) Q E s := by
  obtain ⟨o, ho, k⟩ := someK_inv k
  obtain ⟨o', ho', k⟩ := someK_inv k
  rw [nth_eq] at ho
  obtain ⟨its, e, h1, h2, h3, h4⟩ := push_rep ho' (S.obj n p o hp ho) rv
  refine wpAny_list_append_plain ⟨e, h1⟩ (fun h' hp' sb => ?_) (by rw [sizeLine]; omega)
  obtain ⟨e', g⟩ := hp'
  have E' : Ext [] s.heap ρ h' ρ := ⟨⟨⟨[], by simp, fun _ q => nomatch q⟩, fun b o hn _ e => (sb.2 b (hn p (mem_of_at hp)).1).trans e⟩, fun b o e => by
    by_cases hb : b = p.1
    · rw [hb]; exact ⟨_, g⟩
    · exact ⟨o, (sb.2 b hb).trans e⟩⟩
  obtain ⟨S', _⟩ := S.set (h' := h') (tk := s.toks) (d := s.drawn) (o := o') hp (fun b o hb _ hbo => (sb.2 b hb).trans hbo) ⟨_, g⟩ (by rw [h3]; exact ⟨_, g⟩) (h4 h' e' E' g)
  rw [setN_eq] at k
  exact q _ _ S' E' k
theorem folded_plain {iter : Expr} (hs : noSet iter = true) (x : Value) : foldedSetIterable iter env x = pure x := by
  cases iter <;> first | rfl | exact absurd hs Bool.false_ne_true
/-- the free names of a comprehension: cells of the outer frame -/
structure Clos (scope : Scope) (env : Env) (cl : List (Str × Addr)) : Prop where
  eq : closureFor scope env = pure cl
  sub : ∀ n c, cl.lookup n = some c → env.cells.lookup n = some c
  has : ∀ y ∈ scope.names, y.2 = .free → ∃ c, cl.lookup y.1 = some c
theorem clos_gen (f : Str × NameKind → List (Str × Addr) → Sem (ForInStep (List (Str × Addr)))) (hf : ∀ n k cs, f (n, k) cs = if (k == .free) = true then (do let c ← cellOf env n; pure (.yield ((n, c) :: cs))) else pure (.yield cs)) :
    ∀ (names : List (Str × NameKind)) (cs : List (Str × Addr)), (∀ y ∈ names, y.2 = .free → ∃ c, env.cells.lookup y.1 = some c) → (∀ n c, cs.lookup n = some c → env.cells.lookup n = some c) →
      ∃ cl, forIn names cs f = pure cl ∧ (∀ n c, cl.lookup n = some c → env.cells.lookup n = some c) ∧ (∀ n c, cs.lookup n = some c → ∃ c', cl.lookup n = some c') ∧ ∀ y ∈ names, y.2 = .free → ∃ c, cl.lookup y.1 = some c
  | [], cs, _, hc => ⟨cs, rfl, hc, fun n c e => ⟨c, e⟩, fun _ h => nomatch h⟩
  | (n, k) :: r, cs, hn, hc => by
    have hr : ∀ y ∈ r, y.2 = .free → ∃ c, env.cells.lookup y.1 = some c := fun y hy => hn y (List.mem_cons_of_mem _ hy)
    rw [List.forIn_cons, hf]
    by_cases hk : (k == .free) = true
    · obtain ⟨c, hc2⟩ := hn (n, k) (List.mem_cons_self ..) (beq_iff_eq.mp hk)
      have look : ∀ m, List.lookup m ((n, c) :: cs) = if m = n then some c else cs.lookup m := fun m => by
        rw [List.lookup_cons]
        by_cases e : m = n
        · rw [if_pos e, e, beq_self_eq_true]
        · rw [if_neg e, show (m == n) = false from beq_eq_false_iff_ne.mpr e]
      obtain ⟨cl, h1, h2, h3, h4⟩ := clos_gen f hf r ((n, c) :: cs) hr (fun m c' e => by
        rw [look] at e
        by_cases hm : m = n
        · rw [if_pos hm] at e; cases e; rw [hm]; exact hc2
        · rw [if_neg hm] at e; exact hc m c' e)
      refine ⟨cl, ?_, h2, fun m c' e => ?_, fun y hy hf' => ?_⟩
      · rw [if_pos hk]
        unfold cellOf
        rw [hc2]
        exact h1
      · by_cases hm : m = n
        · exact h3 m c (by rw [look, if_pos hm])
        · exact h3 m c' (by rw [look, if_neg hm]; exact e)
      · rcases List.mem_cons.mp hy with rfl | hy
        · exact h3 n c (by rw [look, if_pos rfl])
        · exact h4 y hy hf'
    · obtain ⟨cl, h1, h2, h3, h4⟩ := clos_gen f hf r cs hr hc
      refine ⟨cl, ?_, h2, h3, fun y hy hf' => ?_⟩
      · rw [if_neg hk]; exact h1
      · rcases List.mem_cons.mp hy with rfl | hy
        · exact (hk (beq_iff_eq.mpr hf')).elim
        · exact h4 y hy hf'
theorem clos_of {scope : Scope} (hn : ∀ y ∈ scope.names, y.2 = .free → ∃ c, env.cells.lookup y.1 = some c) : ∃ cl, Clos scope env cl := by
  obtain ⟨cl, h1, h2, _, h4⟩ := clos_gen (env := env) (fun x r => if (x.2 == .free) = true then (do let c ← cellOf env x.1; pure (.yield ((x.1, c) :: r))) else pure (.yield r)) (fun _ _ _ => rfl) scope.names [] hn (fun _ _ e => nomatch e)
  exact ⟨cl, congrArg (fun t => t >>= fun cs => pure cs) h1, h2, h4⟩
end
end Mine
end
section
set_option maxRecDepth 100000
set_option linter.unusedVariables false
open PySem PySem.W PyProof.Rows PySem.Claim2Try PySem.Pin
namespace Mine
section
variable {prog : Program} {w : World} {B : Bs} {G : Pg} {I : In} {d : Nat} {A : Around} {env : Env} {sc : Scope} {ρ ρ' : Rho} {σ : Hp} {s : Shared} {L : Loc} {h : Heap}
theorem kindL {sc : Scope} (y : Str) : kindS y sc = sc.names.lookup y := by
  unfold kindS
  induction sc.names with
  | nil => rfl
  | cons z r ih =>
    obtain ⟨z, kk⟩ := z
    show cond (eqS y z) (some kk) (lookS y r) = _
    rw [List.lookup_cons]
    cases hq : eqS y z with
    | true => rw [eqS_iff.mp hq]; simp
    | false => rw [show (y == z) = false from beq_eq_false_iff_ne.mpr (eqS_ne hq)]; exact ih
structure CompOk (scope sc : Scope) (x : Str) : Prop where
  kind : scope.kind = .function
  x : scope.names.lookup x = some .local
  nodup : (scope.names.map (·.1)).Nodup
  free : ∀ y ∈ scope.names, y.2 = .free → kindS y.1 sc = some .cell
  cell : ∀ y ∈ scope.names, y.2 ≠ .cell
  notW : isW scope = false
theorem lookup_of_mem {α : Type} : ∀ {l : List (Str × α)} {n : Str} {c : α}, (l.map (·.1)).Nodup → (n, c) ∈ l → l.lookup n = some c
  | (k, v) :: r, n, c, hd, h => by
    rw [List.lookup_cons]
    rw [List.map_cons, List.nodup_cons] at hd
    rcases List.mem_cons.mp h with e | h
    · cases e; rw [beq_self_eq_true]
    · have hne : n ≠ k := fun e => hd.1 (by rw [← e]; exact List.mem_map_of_mem (f := (·.1)) h)
      rw [show (n == k) = false from beq_eq_false_iff_ne.mpr hne]
      exact lookup_of_mem hd.2 h
theorem compScope_inv {scope : Scope} {x : Str} (hc : compScope scope sc x = true) : CompOk scope sc x := by
  unfold compScope at hc
  rw [Bool.and_eq_true, Bool.and_eq_true, Bool.and_eq_true, Bool.and_eq_true, List.all_eq_true, Bool.not_eq_true'] at hc
  obtain ⟨⟨⟨⟨h0, h1⟩, h2⟩, h3⟩, h4⟩ := hc
  refine ⟨?_, ?_, nodupS_iff h3, fun y hy e => ?_, fun y hy e => ?_, h0⟩
  · cases hk : scope.kind <;> first | rfl | (rw [hk] at h1; cases h1)
  · rw [← kindL]
    cases hk : kindS x scope with
    | none => rw [hk] at h2; cases h2
    | some kd => rw [hk] at h2; cases kd <;> first | rfl | cases h2
  · have := h4 y hy
    rw [e] at this
    cases hk : kindS y.1 sc with
    | none => rw [hk] at this; cases this
    | some kd => rw [hk] at this; cases kd <;> first | rfl | cases this
  · have := h4 y hy; rw [e] at this; cases this
theorem relI_eq (eo : EnvOk env sc) {scope : Scope} : relabel scope env = relI scope sc := by
  unfold relabel relI
  congr 1
  refine List.map_congr_left fun y _ => ?_
  obtain ⟨n, k⟩ := y
  show (if (k == NameKind.free && env.scope.kind == .function && env.kindOf n == some .cell) = true then (n, NameKind.cell) else (n, k)) = cond (k == NameKind.free && kindS n sc == some .cell) (n, .cell) (n, k)
  rw [eo.scope, eo.kind, eo.kindOf, show (ScopeKind.function == ScopeKind.function) = true from rfl, Bool.and_true]
  cases (k == NameKind.free && kindS n sc == some .cell) <;> rfl
/-- a name's kind inside -/
theorem relI_kind {scope : Scope} {x : Str} (co : CompOk scope sc x) {n : Str} {k : NameKind} (hm : (n, k) ∈ scope.names) : (relI scope sc).names.lookup n = some (if k = .free then .cell else k) := by
  refine lookup_of_mem ?_ ?_
  · have e : (relI scope sc).names.map (·.1) = scope.names.map (·.1) := by
      show (scope.names.map _).map _ = _
      rw [List.map_map]
      refine List.map_congr_left fun y _ => ?_
      show (cond _ (y.1, NameKind.cell) (y.1, y.2)).1 = y.1
      cases (y.2 == NameKind.free && kindS y.1 sc == some .cell) <;> rfl
    rw [e]; exact co.nodup
  · refine List.mem_map.mpr ⟨(n, k), hm, ?_⟩
    show cond (k == NameKind.free && kindS n sc == some .cell) (n, NameKind.cell) (n, k) = _
    by_cases hk : k = .free
    · rw [if_pos hk, hk, co.free _ hm hk]; rfl
    · rw [if_neg hk, show (k == NameKind.free) = false from beq_eq_false_iff_ne.mpr hk]; rfl
theorem relI_mem {scope : Scope} {n : Str} {k : NameKind} (h : (relI scope sc).names.lookup n = some k) : ∃ k0, (n, k0) ∈ scope.names ∧ (k = k0 ∨ (k0 = .free ∧ k = .cell)) := by
  obtain ⟨y, hy, e⟩ := List.mem_map.mp (mem_of_lookup h)
  obtain ⟨n0, k0⟩ := y
  have e : cond (k0 == NameKind.free && kindS n0 sc == some .cell) (n0, NameKind.cell) (n0, k0) = (n, k) := e
  cases hc : (k0 == NameKind.free && kindS n0 sc == some .cell) with
  | true =>
    rw [hc] at e
    cases e
    rw [Bool.and_eq_true] at hc
    exact ⟨k0, hy, .inr ⟨beq_iff_eq.mp hc.1, rfl⟩⟩
  | false => rw [hc] at e; cases e; exact ⟨_, hy, .inl rfl⟩
theorem freeL_mem {x : Str} {v : AV} : ∀ {names : List (Str × NameKind)}, lookS x (names.filterMap fun (n, k) => cond (k == NameKind.free) ((lookS n L).map (n, ·)) none) = some v → (x, NameKind.free) ∈ names ∧ lookS x L = some v
  | [], e => by cases e
  | (n, k) :: r, e => by
    rw [List.filterMap_cons] at e
    have rest : lookS x (r.filterMap fun (n, k) => cond (k == NameKind.free) ((lookS n L).map (n, ·)) none) = some v → (x, NameKind.free) ∈ (n, k) :: r ∧ lookS x L = some v := fun e => let ⟨a, b⟩ := freeL_mem e; ⟨List.mem_cons_of_mem _ a, b⟩
    cases hk : k == NameKind.free with
    | false => simp only [hk, cond_false] at e; exact rest e
    | true =>
      simp only [hk, cond_true] at e
      cases hl : lookS n L with
      | none => simp only [hl, Option.map_none] at e; exact rest e
      | some u =>
        simp only [hl, Option.map_some] at e
        have e : cond (eqS x n) (some u) _ = some v := e
        cases hq : eqS x n with
        | false => rw [hq] at e; exact rest e
        | true =>
          rw [hq] at e
          cases e
          rw [eqS_iff.mp hq]
          exact ⟨by rw [← beq_iff_eq.mp hk]; exact List.mem_cons_self .., hl⟩
theorem eo_comp (eo : EnvOk env sc) {scope : Scope} {x : Str} (co : CompOk scope sc x) {cl : List (Str × Addr)} {C : Addr} : EnvOk (compEnvC scope cl C env) (relI scope sc) :=
  ⟨relI_eq eo, co.kind, eo.glob, eo.blt⟩
theorem lookS_all {P : AV → Bool} : ∀ {L : Loc}, (L.all fun y => P y.2) = true → ∀ y v, lookS y L = some v → P v = true
  | [], _, _, _, e => by cases e
  | (z, u) :: r, h, y, v, e => by
    rw [List.all_cons, Bool.and_eq_true] at h
    have e : cond (eqS y z) (some u) (lookS y r) = some v := e
    cases hq : eqS y z with
    | true => rw [hq] at e; cases e; exact h.1
    | false => rw [hq] at e; exact lookS_all h.2 y v e
theorem noLams_ok {L : Loc} (h : noLams L = true) : ∀ y v, lookS y L = some v → lamOk env v := fun y v e => lamOk_of (lookS_all (P := notLam) h y v e)
theorem relI_W (scope sc : Scope) : isW (relI scope sc) = isW scope := by
  unfold isW relI
  rw [List.any_map]
  congr 1
  funext y
  obtain ⟨n, k⟩ := y
  show eqS (cond (k == NameKind.free && kindS n sc == some .cell) (n, NameKind.cell) (n, k)).1 "wrap" = eqS n "wrap"
  cases (k == NameKind.free && kindS n sc == some .cell) <;> rfl
/-- the frame of a comprehension -/
theorem lo_comp (eo : EnvOk env sc) {scope : Scope} {x : Str} (co : CompOk scope sc x) {cl : List (Str × Addr)} (Cl : Clos scope env cl) {C : Addr} {mm : Str → Option Value} (l : Lo B env L ρ h) (hn : h.Ns C mm) (nC : NotOwn ρ C) (bC : B.hb.get? C = none) (hlam : noLams (freeL scope L) = true) :
    Lo B (compEnvC scope cl C env) (freeL scope L) ρ h := by
  have kd : ∀ n, (compEnvC scope cl C env).kindOf n = (relI scope sc).names.lookup n := fun n => ((eo_comp eo co).kindOf n).trans (kindL n)
  refine ⟨⟨mm, hn, fun y v hv hk => ?_⟩, fun y v hv hk => ?_, fun n c hc => ?_, fun n n' c h1 h2 => l.apart n n' c (Cl.sub _ _ h1) (Cl.sub _ _ h2), fun y hy => ?_, fun y hy => ?_, noLams_ok hlam, fun q => ?_⟩
  · obtain ⟨hm, _⟩ := freeL_mem hv
    rw [kd, relI_kind co hm, if_pos rfl] at hk
    cases hk
  · obtain ⟨hm, hl⟩ := freeL_mem hv
    obtain ⟨c, hc⟩ := Cl.has _ hm rfl
    obtain ⟨c', w', h1, h2, h3⟩ := l.cell y v hl (by rw [eo.kindOf, co.free _ hm rfl]; decide)
    have e : c' = c := Option.some.inj (h1.symm.trans (Cl.sub _ _ hc))
    exact ⟨c, w', hc, e ▸ h2, h3⟩
  · obtain ⟨h1, h2⟩ := l.cok n c (Cl.sub _ _ hc)
    refine ⟨h1, fun e => ?_⟩
    have e : c = C := e
    subst e
    obtain ⟨v, o, ho, hd⟩ := h1
    obtain ⟨o', es, ep, ho', hd', _⟩ := hn
    rw [ho] at ho'
    cases ho'
    rw [hd] at hd'
    cases hd'
  · rw [kd] at hy
    obtain ⟨k0, hm, e | ⟨e, _⟩⟩ := relI_mem hy
    · exact (co.cell _ hm e.symm).elim
    · exact Cl.has _ hm e
  · rcases mem_fr hy with rfl | ⟨n, e⟩
    · exact ⟨nC, bC⟩
    · exact l.own y (fr_cell (Cl.sub _ _ e))
  · exact absurd ((relI_W scope sc).symm.trans ((congrArg isW (eo_comp (cl := cl) (C := C) eo co).scope).symm.trans q)) (by rw [co.notW]; exact Bool.false_ne_true)
theorem fr_comp {scope : Scope} {cl : List (Str × Addr)} (Cl : Clos scope env cl) {C y : Addr} (hy : y ∈ fr (compEnvC scope cl C env)) : y = C ∨ y ∈ fr env := by
  rcases mem_fr hy with rfl | ⟨n, e⟩
  · exact .inl rfl
  · exact .inr (fr_cell (Cl.sub _ _ e))
inductive CompInv (B : Bs) (src : Hp → Nat → Option (Option AV)) (cev : AV → Hp → KV → Prop) (n0 : Nat) (K : Hp → Prop) (It : Nat → Heap → Prop) (it C acc : Addr) (hh : Heap) (ρ : Rho) (m : Nat) (s' : Shared) : Prop
  | mk (i : Nat) (σ' : Hp) (ρ' : Rho) (mm : Str → Option Value) (kl : compLoop src cev n0 m i σ' K) (S' : St B ρ' σ' s') (it' : It i s'.heap) (ns' : s'.heap.Ns C mm)
    (n1 : NotOwn ρ' it) (n2 : NotOwn ρ' C) (E' : Ext [it, C] hh ρ s'.heap ρ') (ac' : ρ'[n0]? = some (acc, acc)) : CompInv B src cev n0 K It it C acc hh ρ m s'
/-- the loop of a comprehension, in any use of it -/
theorem sound_compBlock (sn : Snd prog w B I d) (ao : AOk d A) (eo : EnvOk env sc) {elt iter : Expr} {x : Str} {px pos : Pos} {scope : Scope} {v : AV} {u : Value} {K : KV} {E : Value → Shared → Prop} {cl : List (Str × Addr)} {RR : Value → Addr → Result → Shared → Prop} (co : CompOk scope sc x) (Cl : Clos scope env cl) (hlam : noLams (freeL scope L) = true)
    (k : compI I sc elt x scope v L σ K) (S : St B ρ σ s) (l : Lo B env L ρ s.heap) (r : RepV B s.heap ρ v u)
    (fin : ∀ acc C mm σ' ρ' s', ∀ n0, RepV B s'.heap ρ' (.loc n0) acc → St B ρ' σ' s' → s'.heap.Ns C mm → NotOwn ρ' C → s.heap.get? C = none → Ext [] s.heap ρ s'.heap ρ' → K (.loc n0) σ' → RR acc C (.ok .next) s') :
    wpAny (model prog w) A (pyIter u) (fun it s₂ => wpAny (model prog w) A (newList []) (fun acc s₃ => wpAny (model prog w) A (newFunctionEnv scope env.globals cl [] env.qual none .none (some env)) (fun cenv s₄ =>
      codeAny (model prog w) A (.compStart (.ListComp elt [⟨.Name x px, iter, [], 0⟩] scope pos) 0 it acc { cenv with scope := relabel scope env }) (RR acc cenv.locals) s₄) E s₃) E s₂) E s := by
  refine sound_iter ao k S r fun src n σ it It o k S IT hit it0 => ?_
  obtain ⟨hh, g, dd, t, os⟩ := s
  dsimp only at hit it0 ⊢
  have f0 : hh.get? it = none := hit ▸ get?_size _
  have S2 : St B ρ σ ⟨hh.push o, g, dd, t, os⟩ := S.push _
  have g2 : ∀ b o', hh.get? b = some o' → (hh.push o).get? b = some o' := fun b o' q => Heap.get?_push_of_some _ q
  generalize hh.push o = H2 at *
  unfold newList
  refine wpAny_newObj_type ?_ (by size_fits)
  dsimp only
  obtain ⟨S3, E3⟩ := S2.newNums (its := #[]) (e := 0) (N := 0) (f := fun _ => 0) rfl (by omega) (fun i hi => absurd hi (Nat.not_lt_zero _)) t dd
  have hacc : (ρ ++ [(H2.objs.size, H2.objs.size)])[σ.length]? = some (H2.objs.size, H2.objs.size) := S2.lenAt
  dsimp only at S3 E3
  have g3 : ∀ b o', H2.get? b = some o' → (H2.push (listOf #[] 0)).get? b = some o' := fun b o' q => Heap.get?_push_of_some _ q
  show wpAny _ _ _ _ _ ⟨H2.push (listOf #[] 0), g, dd, t, os⟩
  generalize H2.push (listOf #[] 0) = H3 at *
  generalize H2.objs.size = acc at *
  refine wpAny_newFunctionEnv co.cell (fun _ q => nomatch q) (fun H4 hns4 sb4 => ?_) co.kind
  have fC : H3.get? H3.objs.size = none := get?_size _
  dsimp only at hns4 sb4 ⊢
  generalize H3.objs.size = C at *
  have g4 : ∀ b o', H3.get? b = some o' → H4.get? b = some o' := fun b o' q => by
    have hb : b ≠ C := fun z => by rw [z, fC] at q; cases q
    exact (sb4.2 b hb).trans (Heap.get?_push_of_some _ q)
  have S4 : St B (ρ ++ [(acc, acc)]) (σ ++ [.nums 0 (fun _ => 0)]) ⟨H4, g, dd, t, os⟩ := S3.grows g4
  have fC1 : hh.get? C = none := by
    cases hz : hh.get? C with
    | none => rfl
    | some o' => rw [g3 _ _ (g2 _ _ hz)] at fC; cases fC
  obtain ⟨hI0, oI0, hoI0⟩ := IT.hid it0
  have hCit : C ≠ it := fun z => by
    rw [← z] at hoI0
    rw [g3 _ _ hoI0] at fC; cases fC
  have hE4 : Ext [it, C] hh ρ H4 (ρ ++ [(acc, acc)]) := by
    have a1 : Ext [it, C] hh ρ H2 ρ := .grow g2
    exact (a1.trans E3.loc).trans (.grow g4)
  have nIt : NotOwn (ρ ++ [(acc, acc)]) it := E3.notOwn (S.notOwn f0) hoI0
  have nC : NotOwn (ρ ++ [(acc, acc)]) C := S3.notOwn fC
  have two : ∀ {y : Addr}, y ∈ [it, C] → y = it ∨ y = C := fun q => by simpa using q
  have fr2 : ∀ y ∈ [it, C], hh.get? y = none := fun y hy => by rcases two hy with rfl | rfl <;> assumption
  have eoC := eo_comp (cl := cl) (C := C) eo co
  have loop : codeAny (model prog w) A (.compLoop (.ListComp elt [⟨.Name x px, iter, [], 0⟩] scope pos) 0 (.ref it) (.ref acc) (compEnvC scope cl C env)) (RR (.ref acc) C) ⟨H4, g, dd, t, os⟩ := by
    refine codeAny_compLoop_list (CompInv B src (compEv I sc scope elt x L) σ.length (fun σ2 => K (.loc σ.length) σ2) It it C acc hh ρ) (fun m s' ci => ?_) n ⟨0, _, _, _, k, S4, IT.stable it0 (fun o' q => g4 _ _ (g3 _ _ q)), hns4, nIt, nC, hE4, hacc⟩
    obtain ⟨i, σ', ρ', mm, kl, S', it', ns', n1, n2, E', ac'⟩ := ci
    have hat : ∀ (m : Nat) p, ρ[m]? = some p → ρ'[m]? = some p := fun m p e => E'.at e
    have fin2 : K (.loc σ.length) σ' → src σ' i = some none → wpAny (model prog w) A (pyNext (.ref it)) (fun r s₁ => r = none ∧ RR (.ref acc) C (.ok .next) s₁) (notedBy (model prog w) A (compEnvC scope cl C env) fun e s' => RR (.ref acc) C (.error e) s') s' := fun kf hs =>
      IT.fin S' it' hat hs fun h2 kp => ⟨rfl, fin _ C mm σ' ρ' _ _ (.loc _ _ ac') (S'.keeps (X := [it]) (fun b o' hb q => kp b o' (fun z => hb (z ▸ List.mem_singleton.mpr rfl)) q) (fun y hy => by rw [List.mem_singleton.mp hy]; exact ⟨(IT.hid it').1, n1, S.base f0⟩)) (ns'.at fun o' q => kp C o' hCit q) n2 fC1
        ⟨⟨E'.pre, fun b o' hn _ q => kp b o' (fun z => by rw [z, f0] at q; cases q) (E'.keep b o' hn (fun z => by rw [fr2 b z] at q; cases q) q)⟩, fun b o' q => let ⟨o2, q2⟩ := E'.there b o' q; ⟨o2, kp b o2 (fun z => by rw [z, f0] at q; cases q) q2⟩⟩ kf⟩
    have turn : ∀ m0 v', m0 < m → src σ' i = some (some v') → (compEv I sc scope elt x L v' σ' fun u σ1 => appendI σ.length u σ1 fun σ2 => compLoop src (compEv I sc scope elt x L) σ.length m0 (i + 1) σ2 fun σ2 => K (.loc σ.length) σ2) →
        wpAny (model prog w) A (pyNext (.ref it)) (fun r s₁ => ∃ u', r = some u' ∧ wpAny (model prog w) A (assign (.Name x px) (compEnvC scope cl C env) u') (fun _ s₂ => wpAny (model prog w) A (eval elt (compEnvC scope cl C env)) (fun y s₃ =>
          wpAny (model prog w) A (call (.builtin "list.append") [.ref acc, y]) (fun _ s' => ∃ m', m' < m ∧ CompInv B src (compEv I sc scope elt x L) σ.length (fun σ2 => K (.loc σ.length) σ2) It it C acc hh ρ m' s') no s₃) no s₂) no s₁) no s' := fun m0 v' hm hs kl => by
      refine IT.step S' it' n1 hat hs fun u' h2 tk it2 kp ru => ⟨u', rfl, ?_⟩
      obtain ⟨e2, h2x⟩ := one_hid (ρ := ρ') (IT.hid it').1 (IT.hid it2).2 kp
      have S2' : St B ρ' σ' { s' with heap := h2, toks := tk } := S'.keeps (X := [it]) (fun b o' hb q => kp b o' (fun z => hb (z ▸ List.mem_singleton.mpr rfl)) q) (fun y hy => by rw [List.mem_singleton.mp hy]; exact ⟨(IT.hid it').1, n1, S.base f0⟩)
      have E2 : Ext [it, C] hh ρ h2 ρ' := E'.trans (e2.mono fun y hy => by rw [List.mem_singleton.mp hy]; exact List.mem_cons_self ..)
      have lo : Lo B env L ρ' h2 := l.ext E2 (fun y hy o' q => by rw [fr2 y hy] at q; cases q) fun y hy hm => by
        obtain ⟨o', q⟩ := (l.hid y hy).2
        rw [fr2 y hm] at q; cases q
      have lC := lo_comp eo co Cl lo (ns'.at fun o' q => kp C o' hCit q) n2 (S.base fC1) hlam
      obtain ⟨hv', kl⟩ := condF kl
      show wpAny (model prog w) A (do standAt px; bindName (compEnvC scope cl C env) x u') _ _ _
      refine wpAny_bind (wpAny_standAt (wpAny_bindName ?_))
      refine sound_storeL eoC (lamOk_of hv') ((kindL x).trans (relI_kind co (mem_of_lookup co.x))) S2' lC ru fun s5 S5 l5 E5 => ?_
      have nlf : it ∉ [C] := fun hm => hCit (List.mem_singleton.mp hm).symm
      have it5 : It (i + 1) s5.heap := IT.stable it2 fun o' q => E5.keep _ _ n1 nlf q
      have E5' : Ext [it, C] hh ρ s5.heap ρ' := E2.trans (E5.mono fun y hy => by rw [List.mem_singleton.mp hy]; exact List.mem_cons_of_mem _ (List.mem_cons_self ..))
      refine wpAny_got (sn.ev kl ao eoC S5 l5) fun yv y σ6 ρ6 s6 r6 S6 E6 k6 => ?_
      obtain ⟨o6, q6⟩ := (IT.hid it5).2
      have n16 : NotOwn ρ6 it := E6.notOwn n1 q6
      obtain ⟨m5, ns5, _⟩ := l5.ns
      have n26 : NotOwn ρ6 C := let ⟨o', q1⟩ := (l5.hid C fr_locals).2; E6.notOwn n2 q1
      refine sound_append k6 S6 (E6.at ac') r6 fun σ7 s7 S7 E7 kl => ⟨m0, hm, i + 1, σ7, ρ6, m5, kl, S7, ?_, ?_, n16, n26, (E5'.trans E6.loc).trans E7.loc, E6.at ac'⟩
      · exact IT.stable it5 fun o' q => E7.keep _ _ n16 (fun z => nomatch z) (E6.keep _ _ n1 (fun z => nomatch z) q)
      · exact ns5.at fun o' q => E7.keep _ _ n26 (fun z => nomatch z) (E6.keep _ _ n2 (fun z => nomatch z) q)
    cases m with
    | zero =>
      unfold compLoop at kl
      cases hs : src σ' i with
      | none => rw [hs] at kl; exact kl.elim
      | some ov =>
        rw [hs] at kl
        cases ov with
        | some _ => exact kl.elim
        | none => exact wpAny_mono (fin2 kl hs) (fun r s₁ q => by rw [q.1]; exact q.2) fun _ _ z => z
    | succ m =>
      unfold compLoop at kl
      cases hs : src σ' i with
      | none => rw [hs] at kl; exact kl.elim
      | some ov =>
        rw [hs] at kl
        cases ov with
        | none => exact wpAny_mono (fin2 kl hs) (fun r s₁ q => by rw [q.1]; exact q.2) fun _ _ z => z
        | some v' =>
          refine wpAny_mono (turn m v' (Nat.lt_succ_self m) hs kl) (fun r s₁ ⟨u', e, q⟩ => ?_) fun _ _ z => z.elim
          subst e
          exact wpAny_mono q (fun _ _ q => wpAny_mono q (fun _ _ q => wpAny_mono q (fun _ _ q => q) fun _ _ z => z.elim) fun _ _ z => z.elim) fun _ _ z => z.elim
  exact codeAny_compStart_list loop (IT.self (IT.stable it0 (fun o' q => g4 _ _ (g3 _ _ q))) loop)
end
end Mine
end
section
set_option maxRecDepth 100000
set_option linter.unusedVariables false
open PySem PySem.W PyProof.Rows PySem.Claim2Try PySem.Pin
namespace Mine
section
variable {prog : Program} {w : World} {B : Bs} {G : Pg} {I : In} {d : Nat} {A : Around} {env : Env} {sc : Scope} {ρ ρ' : Rho} {σ : Hp} {s : Shared} {L : Loc} {h : Heap}
theorem clos_comp (eo : EnvOk env sc) {scope : Scope} {x : Str} (co : CompOk scope sc x) (l : Lo B env L ρ h) : ∃ cl, Clos scope env cl :=
  clos_of fun y hy e => l.cells y.1 ((eo.kindOf y.1).trans (co.free y hy e))
theorem CompOk.names {scope : Scope} {x : Str} (co : CompOk scope sc x) : ∀ y ∈ scope.names, y.2 = .local → scope.names.lookup y.1 = some .local := fun y hy e => by
  obtain ⟨n, k⟩ := y
  have e : k = .local := e
  subst e
  exact lookup_of_mem co.nodup hy
/-- the frame of a comprehension is let go -/
theorem comp_left {C : Addr} {mm : Str → Option Value} {h' h1 : Heap} {ρ1 : Rho} (S : St B ρ σ s) (hn : s.heap.Ns C mm) (nC : NotOwn ρ C) (fC : h1.get? C = none) (bC : B.hb.get? C = none) (e : Ext [] h1 ρ1 s.heap ρ) (sb : Heap.SameBut C s.heap h') :
    St B ρ σ { s with heap := h' } ∧ Ext [] h1 ρ1 h' ρ := by
  have kp : ∀ b o, b ∉ [C] → s.heap.get? b = some o → h'.get? b = some o := fun b o hb q => (sb.2 b fun z => hb (z ▸ List.mem_singleton.mpr rfl)).trans q
  have ne : ∀ b o, h1.get? b = some o → b ∉ [C] := fun b o q z => by rw [List.mem_singleton.mp z, fC] at q; cases q
  exact ⟨S.keeps kp fun y hy => by rw [List.mem_singleton.mp hy]; exact ⟨ns_hid hn, nC, bC⟩, ⟨⟨e.pre, fun b o hn' _ q => kp b o (ne b o q) (e.keep b o hn' (fun z => nomatch z) q)⟩, fun b o q => let ⟨o', q'⟩ := e.there b o q; ⟨o', kp b o' (ne b o q) q'⟩⟩⟩
theorem sound_comp (sn : Snd prog w B I d) (ao : AOk d A) (eo : EnvOk env sc) {elt iter : Expr} {x : Str} {px pos : Pos} {scope : Scope} {K : KV} (hnf : compScope scope sc x = true) (hset : noSet iter = true) (hlam : noLams (freeL scope L) = true) (S : St B ρ σ s) (l : Lo B env L ρ s.heap)
    (k : I.ev sc iter L σ fun v σ1 => compI I sc elt x scope v L σ1 K) : wpAny (model prog w) A (eval (.ListComp elt [⟨.Name x px, iter, [], 0⟩] scope pos) env) (PV B ρ s.heap K) no s := by
  have co := compScope_inv hnf
  obtain ⟨cl, Cl⟩ := clos_comp eo co l
  rw [eval_ListComp]
  refine wpAny_comprehension_free (use := none) rfl (folded_plain hset) Cl.eq co.kind co.names (wpAny_got (sn.ev k ao eo S l) fun v u σ1 ρ1 s1 r S1 e1 k1 => ?_)
  refine sound_compBlock (RR := fun acc C => compPost (model prog w) A no none (PV B ρ s.heap K) acc C) sn ao eo co Cl hlam k1 S1 (l.ext0 e1) r fun acc C mm σ' ρ' s' n0 ra S' ns nC fC E' kf => ⟨mm, ns, fun h' sb => ?_⟩
  obtain ⟨S2, E2⟩ := comp_left S' ns nC fC (S1.base fC) E' sb
  cases ra with | loc _ p hp => exact PV.of (.loc _ p hp) S2 (e1.trans E2) kf
end
end Mine
end
section
set_option maxRecDepth 100000
set_option linter.unusedVariables false
open PySem PySem.W PyProof.Rows PySem.Claim2Try PySem.Pin
namespace Mine
theorem fm_congr {α β : Type} {f g : α → Option β} : ∀ {l : List α}, (∀ x ∈ l, f x = g x) → l.filterMap f = l.filterMap g
  | [], _ => rfl
  | x :: r, h => by rw [List.filterMap_cons, List.filterMap_cons, h x (List.mem_cons_self ..), fm_congr fun y hy => h y (List.mem_cons_of_mem _ hy)]
theorem zip_lookup {α : Type} : ∀ {ns : List Str} {ws : List α}, ns.length = ws.length → ns.Nodup → (∀ n ∈ ns, ((ns.zip ws).lookup n).isSome = true) ∧ ns.filterMap (fun n => ((ns.zip ws).lookup n).map (n, ·)) = ns.zip ws
  | [], [], _, _ => ⟨fun _ h => (nomatch h), rfl⟩
  | n :: ns, x :: ws, hl, hd => by
    obtain ⟨h1, h2⟩ := zip_lookup (ns := ns) (ws := ws) (Nat.succ.inj hl) (List.nodup_cons.mp hd).2
    have hne : ∀ m ∈ ns, ((n, x) :: ns.zip ws).lookup m = (ns.zip ws).lookup m := fun m hm => by
      rw [List.lookup_cons, show (m == n) = false from beq_eq_false_iff_ne.mpr fun e => (List.nodup_cons.mp hd).1 (e ▸ hm)]
    refine ⟨fun m hm => ?_, ?_⟩
    · rw [List.zip_cons_cons]
      rcases List.mem_cons.mp hm with rfl | hm
      · rw [List.lookup_cons, beq_self_eq_true]; rfl
      · rw [hne m hm]; exact h1 m hm
    · rw [List.zip_cons_cons, List.filterMap_cons, List.lookup_cons, beq_self_eq_true]
      show (n, x) :: _ = _
      congr 1
      refine Eq.trans (fm_congr fun m hm => ?_) h2
      rw [hne m hm]
theorem wpAny_forE {M : Model} {A : Around} {E : Value → Shared → Prop} {s : Shared} {α β : Type} {l : List α} {b : β} {f : α → β → Sem (ForInStep β)} {Q : β → Shared → Prop} (h : l = []) (q : Q b s) : wpAny M A (forIn l b f) Q E s := by rw [h]; exact wpAny_forN q
theorem bind_plain {s : Shared} {fd : FuncData} {ws : List Value} (h1 : fd.params.posonlyargs = []) (h2 : fd.params.kwonlyargs = []) (h3 : fd.params.vararg = none) (h4 : fd.params.kwarg = none) (h5 : fd.defaults = .none) (hl : (fd.params.args.map (·.arg)).length = ws.length) (hd : (fd.params.args.map (·.arg)).Nodup) :
    BindsTo s fd ⟨ws, []⟩ ((fd.params.args.map (·.arg)).zip ws) := by
  intro M A E Q hq
  obtain ⟨f1, f2, ⟨po, ar, va, ko, kd, ka, de⟩, f4, f5, f6, f7, f8, f9, f10, f11, f12, f13, f14, f15⟩ := fd
  cases h1; cases h2; cases h3; cases h4; cases h5
  dsimp only at hl hd hq
  obtain ⟨z1, z2⟩ := zip_lookup hl hd
  unfold bindArgs
  refine wpAny_bind (wpAny_forN ?_)
  refine wpAny_to (v := none) rfl ?_
  refine wpAny_no (show ¬ ((decide (ws.length > (ar.map (·.arg)).length) && true) = true) by rw [hl]; simp) ?_
  have hmiss : ∀ l : List Str, (∀ n ∈ l, n ∈ ar.map (·.arg)) → List.filter (fun n => (List.lookup n ((ar.map (·.arg)).zip ws)).isNone) l = [] := fun l hm => by
    rw [List.filter_eq_nil_iff]
    intro n hn q
    have := z1 n (hm n hn)
    rw [Option.isNone_iff_eq_none] at q
    rw [q] at this; cases this
  refine wpAny_no (show ¬ ((!(List.filter (fun n => (List.lookup n ((ar.map (·.arg)).zip ws)).isNone) (List.take _ (ar.map (·.arg)))).isEmpty) = true) by rw [hmiss _ fun n hn => List.mem_of_mem_take hn]; decide) ?_
  refine wpAny_bind (wpAny_forE (show List.zip _ (List.drop _ ([] : List Value)) = [] by rw [List.drop_nil, List.zip_nil_right]) ?_)
  refine wpAny_bind (wpAny_forN ?_)
  refine wpAny_is (v := List.filterMap (fun n => (((ar.map (·.arg)).zip ws).lookup n).map (n, ·)) (([] ++ ar.map (·.arg)) ++ [])) rfl ?_
  rw [List.append_nil, List.nil_append, z2]
  exact hq
noncomputable def afterLoad {α : Type} (t : Sem α) (o : Obj) : Sem α := match t with
  | .load _ _ k => k o
  | t => t
theorem wpAny_loads {M : Model} {A : Around} {α : Type} {t : Sem α} {a : Addr} {p : Option Value} {o : Obj} {s : Shared} {Q : α → Shared → Prop} {E : Value → Shared → Prop} (ht : t = Sem.load a p (afterLoad t)) (ho : s.heap.get? a = some o) (q : wpAny M A (afterLoad t o) Q E s) : wpAny M A t Q E s := by
  have h : wpAny M A (loadPart a p >>= afterLoad t) Q E s := wpAny_bind (wpAny_loadPart ho q)
  exact Eq.mpr (congrArg (fun t => wpAny M A t Q E s) ht) h
theorem two_of {α : Type} {l : List α} (h : l.length = 2) : ∃ a b, l = [a, b] := by
  cases l with
  | nil => cases h
  | cons a r =>
    cases r with
    | nil => cases h
    | cons b r =>
      cases r with
      | nil => exact ⟨a, b, rfl⟩
      | cons _ _ => cases h
theorem bind_init {s : Shared} {fd : FuncData} {T : Addr} {o : Obj} {items : Array Value} {n : Nat} {a b c : Arg} {x m p : Value} (h1 : fd.params.posonlyargs = []) (h2 : fd.params.kwonlyargs = []) (h3 : fd.params.vararg = none) (h4 : fd.params.kwarg = none) (ha : fd.params.args = [a, b, c]) (e1 : a.arg = nSelf) (e2 : b.arg = nMemory) (e3 : c.arg = nPc)
    (hd : fd.defaults = .ref T) (ho : s.heap.get? T = some o) (hs : o.data = .seq items n) (hn : items.size = 2) : BindsTo s fd ⟨[x], [(nMemory, m), (nPc, p)]⟩ [(nSelf, x), (nMemory, m), (nPc, p)] := by
  intro M A E Q hq
  obtain ⟨f1, f2, ⟨po, ar, va, ko, kd, ka, de⟩, f4, f5, f6, f7, f8, f9, f10, f11, f12, f13, f14, f15⟩ := fd
  obtain ⟨a1, a2, a3⟩ := a
  obtain ⟨b1, b2, b3⟩ := b
  obtain ⟨c1, c2, c3⟩ := c
  obtain ⟨o1, o2, o3, o4⟩ := o
  obtain ⟨l⟩ := items
  cases h1; cases h2; cases h3; cases h4; cases ha; cases e1; cases e2; cases e3; cases hd; cases hs
  obtain ⟨d1, d2, rfl⟩ := two_of (l := l) hn
  refine wpAny_loads (a := T) (p := none) (by kernel_rfl) ho ?_
  exact wpAny_is (by kernel_rfl) hq
end Mine
end
section
set_option maxRecDepth 100000
set_option linter.unusedVariables false
open PySem PySem.W PyProof.Rows PySem.Claim2Try PySem.Pin
namespace Mine
section
variable {prog : Program} {w : World} {B : Bs} {G : Pg} {I : In} {d : Nat} {A : Around} {E : Value → Shared → Prop} {env : Env} {sc : Scope} {ρ ρ' : Rho} {σ : Hp} {s : Shared} {L : Loc} {h : Heap}
theorem kept_fn {M : Model} {a : Addr} {o : Obj} {fd : FuncData} (ho : h.get? a = some o) (hd : o.data = .func fd) : Kept M (.ref a) h := by
  refine ⟨.frame, .inl rfl, (Looks.ld (part := none) ho).andThen ?_⟩
  rw [hd]; exact .now
theorem AOk.deeper (ao : AOk (d + 1) A) (env : Env) : AOk d (A.deeper env) := by
  obtain ⟨h1, h2, h3⟩ := ao
  refine ⟨?_, ?_, h3⟩
  · show A.depth + 1 + 2 * d ≤ 900; omega
  · show A.units + 3 + 8 * d ≤ 9000; omega
theorem AOk.less {d' : Nat} (ao : AOk d A) (h : d' ≤ d) : AOk d' A := ⟨by have := ao.depth; omega, by have := ao.units; omega, ao.handled⟩
theorem AOk.room1 (ao : AOk d A) : A.depth < recursionLimit := by have := ao.depth; rw [recursionLimit]; omega
inductive LamA (pa : Arguments) (x : Str) : Prop
  | mk (a : Arg) (h1 : pa.posonlyargs = []) (h2 : pa.kwonlyargs = []) (h3 : pa.vararg = none) (h4 : pa.kwarg = none) (h5 : pa.defaults = []) (h6 : pa.kw_defaults = []) (h7 : pa.args = [a]) (h8 : a.arg = x) : LamA pa x
theorem lamArgs_inv {pa : Arguments} {x : Str} (h : lamArgs pa = some x) : LamA pa x := by
  unfold lamArgs at h
  cases hc : (pa.posonlyargs.isEmpty && pa.kwonlyargs.isEmpty && pa.vararg.isNone && pa.kwarg.isNone && pa.defaults.isEmpty && pa.kw_defaults.isEmpty) with
  | false => rw [hc] at h; cases h
  | true =>
    rw [hc] at h
    simp only [Bool.and_eq_true, List.isEmpty_iff, Option.isNone_iff_eq_none] at hc
    obtain ⟨⟨⟨⟨⟨h1, h2⟩, h3⟩, h4⟩, h5⟩, h6⟩ := hc
    cases ha : pa.args with
    | nil => rw [ha] at h; cases h
    | cons a r =>
      rw [ha] at h
      cases r with
      | nil => cases h; exact ⟨a, h1, h2, h3, h4, h5, h6, ha, rfl⟩
      | cons _ _ => cases h
theorem RepKs.nil_inv {kws : List (Str × Value)} (r : RepKs B h ρ [] kws) : kws = [] := by
  obtain ⟨h1, _⟩ := r
  cases kws with
  | nil => rfl
  | cons _ _ => cases h1
/-- the frame of a lambda -/
theorem lo_lam {lsc : Scope} {x : Str} (eo : EnvOk env sc) (co : CompOk lsc sc x) {env' : Env} (eo' : EnvOk env' lsc) {v : AV} {u : Value} (l : Lo B env L ρ h) (hsub : ∀ n c, env'.cells.lookup n = some c → env.cells.lookup n = some c) (hhas : ∀ y ∈ lsc.names, y.2 = .free → ∃ c, env'.cells.lookup y.1 = some c)
    {mm : Str → Option Value} (hn : h.Ns env'.locals mm) (hx : mm x = some u) (nC : NotOwn ρ env'.locals) (bC : B.hb.get? env'.locals = none) (rv : RepV B h ρ v u) (hv : notLam v = true) (hlam : noLams (freeL lsc L) = true) : Lo B env' ((x, v) :: freeL lsc L) ρ h := by
  have kd : ∀ n, env'.kindOf n = lsc.names.lookup n := fun n => (eo'.kindOf n).trans (kindL n)
  have two : ∀ {y z}, lookS y ((x, v) :: freeL lsc L) = some z → (y = x ∧ v = z) ∨ ((y, NameKind.free) ∈ lsc.names ∧ lookS y L = some z) := fun {y z} e => by
    have e : cond (eqS y x) (some v) (lookS y (freeL lsc L)) = some z := e
    cases hq : eqS y x with
    | true => rw [hq] at e; cases e; exact .inl ⟨eqS_iff.mp hq, rfl⟩
    | false => rw [hq] at e; exact .inr (freeL_mem e)
  refine ⟨⟨mm, hn, fun y z hz hk => ?_⟩, fun y z hz hk => ?_, fun n c hc => ?_, fun n n' c h1 h2 => l.apart n n' c (hsub _ _ h1) (hsub _ _ h2), fun y hy => ?_, fun y hy => ?_, fun y z hz => ?_, fun q => ?_⟩
  · rcases two hz with ⟨rfl, rfl⟩ | ⟨hm, _⟩
    · exact ⟨u, hx, rv⟩
    · rw [kd, lookup_of_mem co.nodup hm] at hk; cases hk
  · rcases two hz with ⟨rfl, rfl⟩ | ⟨hm, hl⟩
    · exact (hk ((kd _).trans co.x)).elim
    · obtain ⟨c, hc⟩ := hhas _ hm rfl
      obtain ⟨c', w', h1, h2, h3⟩ := l.cell y z hl (by rw [eo.kindOf, co.free _ hm rfl]; decide)
      have e : c' = c := Option.some.inj (h1.symm.trans (hsub _ _ hc))
      exact ⟨c, w', hc, e ▸ h2, h3⟩
  · obtain ⟨h1, h2⟩ := l.cok n c (hsub _ _ hc)
    refine ⟨h1, fun e => ?_⟩
    subst e
    obtain ⟨v, o, ho, hd⟩ := h1
    obtain ⟨o', es, ep, ho', hd', _⟩ := hn
    rw [ho] at ho'
    cases ho'
    rw [hd] at hd'
    cases hd'
  · rw [kd] at hy
    exact (co.cell _ (mem_of_lookup hy) rfl).elim
  · rcases mem_fr hy with rfl | ⟨n, e⟩
    · exact ⟨nC, bC⟩
    · exact l.own y (fr_cell (hsub _ _ e))
  · have e : cond (eqS y x) (some v) (lookS y (freeL lsc L)) = some z := hz
    cases hq : eqS y x with
    | true => rw [hq] at e; cases e; exact lamOk_of hv
    | false => rw [hq] at e; exact noLams_ok hlam y z e
  · rw [eo'.scope, co.notW] at q; cases q
theorem oneArg_inv {vs : List AV} {K : AV → Prop} (k : oneArg vs K) : ∃ v, vs = [v] ∧ K v := by
  cases vs with
  | nil => exact False.elim k
  | cons v r =>
    cases r with
    | nil => exact ⟨v, rfl, k⟩
    | cons _ _ => exact False.elim k
inductive LamF (f : Expr) (L : Loc) : Prop
  | mk (x : Str) (p : Pos) (a : Addr) (cl : List (Str × Addr)) (pa : Arguments) (lb : Expr) (lsc : Scope) (hf : f = .Name x p) (hl : lookS x L = some (.lam a cl pa lb lsc)) : LamF f L
theorem isLamF_inv {f : Expr} (h : isLamF f L = true) : LamF f L := by
  cases f with
  | Name x p =>
    have h : isLamO (lookS x L) = true := h
    cases hl : lookS x L with
    | none => rw [hl] at h; exact absurd h Bool.false_ne_true
    | some v =>
      rw [hl] at h
      cases v with
      | lam a cl pa lb lsc => exact ⟨x, p, a, cl, pa, lb, lsc, rfl, hl⟩
      | _ => exact absurd h Bool.false_ne_true
  | _ => exact absurd h Bool.false_ne_true
theorem isLocalO_inv {o : Option NameKind} (h : isLocalO o = true) : o = some .local := by
  cases o with
  | none => cases h
  | some k => cases k <;> first | rfl | cases h
theorem sound_lamCode (ok : Ok B G) (sn : Snd prog w B I d) (ao : AOk (d + 1) A) (eo : EnvOk env sc) {x : Str} {a : Addr} {cl : List (Str × Addr)} {pa : Arguments} {lb : Expr} {lsc : Scope} {fw u : Value} {v : AV} {K : KV} (ha : lamArgs pa = some x) (hs : lamSc lsc sc x = true) (hv : notLam v = true) (hf : noLams (freeL lsc L) = true)
    (hl : lamOk env (.lam a cl pa lb lsc)) (k : I.ev lsc lb ((x, v) :: freeL lsc L) σ K) (S : St B ρ σ s) (l : Lo B env L ρ s.heap) (rf : RepV B s.heap ρ (.lam a cl pa lb lsc) fw) (r : RepV B s.heap ρ v u) :
    Kept (model prog w) fw s.heap ∧ wpAny (model prog w) A (call fw [u] []) (PV B ρ s.heap K) no s := by
  cases rf with | lam _ _ _ _ _ name qual pm ct c hn ho hc hr =>
  refine ⟨kept_fn ho rfl, wpAny_call ?_⟩
  unfold lamSc at hs
  rw [Bool.and_eq_true, Bool.and_eq_true, Bool.not_eq_true', Bool.not_eq_true'] at hs
  obtain ⟨⟨hs1, hs2⟩, hs3⟩ := hs
  have co := compScope_inv hs1
  obtain ⟨ar, p1, p2, p3, p4, p5, p6, p7, p8⟩ := lamArgs_inv ha
  refine kla_callFunE ao.room1 ho rfl hs3 hs2 rfl hr ?_
  have hb := bind_plain (s := s) (fd := kla_fn name qual pa lb lsc cl pm (.ref c) ct) (ws := [u]) p1 p2 p3 p4 rfl (by show (pa.args.map (·.arg)).length = 1; rw [p7]; rfl) (by show (pa.args.map (·.arg)).Nodup; rw [p7]; simp)
  have hz : ((kla_fn name qual pa lb lsc cl pm (.ref c) ct).params.args.map (·.arg)).zip [u] = [(x, u)] := by
    show (pa.args.map (·.arg)).zip [u] = _
    rw [p7, ← p8]; rfl
  rw [hz] at hb
  refine hb _ _ _ _ (wpAny_newFunctionEnv co.cell (fun y hy => ?_) (fun h1 hns sb => ⟨?_, kla_codeExpr ?_⟩) co.kind)
  · rw [List.mem_singleton.mp hy]; exact co.x
  · have kk : ∀ b o, s.heap.get? b = some o → h1.get? b = some o := fun b o e => (sb.2 b (Nat.ne_of_lt (Heap.lt_size e))).trans (Heap.get?_push_of_some _ e)
    exact (ok.lim.keeps S.keep).keeps kk
  · have kk : ∀ b o, s.heap.get? b = some o → h1.get? b = some o := fun b o e => (sb.2 b (Nat.ne_of_lt (Heap.lt_size e))).trans (Heap.get?_push_of_some _ e)
    have E1 : Ext [] s.heap ρ h1 ρ := .grow kk
    have l' : Lo B (newEnv lsc s.heap.objs.size mainGlobals cl (qual ++ ".<locals>.") (some a) (.ref c) none builtinsNs) ((x, v) :: freeL lsc L) ρ h1 :=
      lo_lam eo co ⟨rfl, co.kind, rfl, rfl⟩ (l.ext0 E1) hl.1 hl.2 hns (by show List.lookup x [(x, u)] = _; rw [List.lookup_cons, beq_self_eq_true]) (S.notOwn (get?_size _)) (S.base (get?_size _)) (r.ext0 E1) hv hf
    refine wpAny_mono (sn.ev k (ao.deeper _) ⟨rfl, co.kind, rfl, rfl⟩ (S.grows kk) l') (fun w s' x => x.up E1) fun _ _ z => z.elim
theorem sound_lamCall (ok : Ok B G) (sn : Snd prog w B I d) (ao : AOk (d + 1) A) (eo : EnvOk env sc) {f : Expr} {args : List Expr} {kws : List Keyword} {pos : Pos} {K : KV} (hf : isLamF f L = true) (k : lamC I sc f args kws L σ K) (S : St B ρ σ s) (l : Lo B env L ρ s.heap) :
    wpAny (model prog w) A (eval (.Call f args kws pos) env) (PV B ρ s.heap K) no s := by
  obtain ⟨x, p, a, cl, pa, lb, lsc, rfl, hx⟩ := isLamF_inv hf
  obtain ⟨hc, k1⟩ := condF k
  clear k
  have kk : lamK (lookS x L) _ := k1
  clear k1
  rw [hx] at kk
  rw [Bool.and_eq_true, Bool.and_eq_true, Bool.and_eq_true, List.isEmpty_iff, Bool.not_eq_true'] at hc
  obtain ⟨⟨⟨h1, rfl⟩, h3⟩, h4⟩ := hc
  rw [eval_Call_plain (f := .Name x p) (fun _ _ _ e => nomatch e)]
  have hn : nameI G sc x L fun v => v = .lam a cl pa lb lsc ∧ σ = σ := by
    unfold nameI
    rw [show kindS x sc = some .local from isLocalO_inv h3]
    show localI x (lookS x L) _
    rw [hx]
    show cond (eqS x debugName) False _
    rw [show eqS x debugName = false from h4]
    exact ⟨rfl, rfl⟩
  refine wpAny_then (K := fun v σ1 => v = .lam a cl pa lb lsc ∧ σ1 = σ) (sound_name ok (K := fun v σ1 => v = .lam a cl pa lb lsc ∧ σ1 = σ) hn eo S l) fun v u σ1 ρ1 s1 r S1 e1 k1 => ?_
  obtain ⟨rfl, rfl⟩ := k1
  have l1 := l.ext0 e1
  refine wpAny_mono (sound_argsG sn (ao.less (Nat.le_succ d)) eo (fs := []) (kws := []) (C := fun vs ks σ' => cond ks.isEmpty (someK (lamArgs pa) fun x => oneArg vs fun v => cond (lamSc lsc sc x && notLam v && noLams (freeL lsc L)) (I.ev lsc lb ((x, v) :: freeL lsc L) σ' K) False) False) h1 rfl S1 l1 (fun {vs ks σ' ρ' s' ws kws} kc S' e' rs rk => ?_) kk) (fun _ _ x => x.up e1) fun _ _ x => x
  obtain ⟨hk, kc⟩ := condF kc
  rw [List.isEmpty_iff] at hk
  subst hk
  rw [rk.nil_inv]
  obtain ⟨y, hy, kc⟩ := someK_inv kc
  obtain ⟨v, rfl, kc⟩ := oneArg_inv kc
  obtain ⟨hg, kc⟩ := condF kc
  rw [Bool.and_eq_true, Bool.and_eq_true] at hg
  cases rs with | cons ra rb =>
  cases rb
  exact sound_lamCode ok sn ao eo hy hg.1.1 hg.1.2 hg.2 (l.lam x _ hx) kc S' (l1.ext0 e') (r.ext0 e') ra
end
end Mine
end
section
set_option maxRecDepth 100000
set_option linter.unusedVariables false
open PySem PySem.W PyProof.Rows PySem.Claim2Try PySem.Pin
namespace Mine
section
variable {prog : Program} {w : World} {B : Bs} {G : Pg} {I : In} {d : Nat} {A : Around} {env : Env} {sc : Scope} {ρ ρ' : Rho} {σ : Hp} {s : Shared} {L : Loc} {h : Heap}
theorem AOk.room (ao : AOk d A) : A.units < cLine := by have := ao.units; rw [cLine]; omega
theorem sound_cmpE (sn : Snd prog w B I d) (ao : AOk d A) (eo : EnvOk env sc) {l r : Expr} {op : CmpOp} {K : Bool → Hp → Prop} (S : St B ρ σ s) (lo : Lo B env L ρ s.heap) (hm : behindInMarks op r = false)
    (k : I.ev sc l L σ fun a σ1 => I.ev sc r L σ1 fun b σ2 => cmpI op a b σ2 fun t => K t σ2) {Q : Value → Shared → Prop} (q : ∀ t s', PB B ρ s.heap K t s' → Q (.bool t) s') :
    wpAny (model prog w) A (eval l env) (fun a s₁ => wpAny (model prog w) A (eval r env) (fun b s₂ => wpAny (model prog w) A (compareOp op a b) Q no s₂) no s₁) no s := by
  refine wpAny_got (sn.ev k ao eo S lo) fun a u σ1 ρ1 s1 ra S1 e1 k1 => ?_
  refine wpAny_got (sn.ev k1 ao eo S1 (lo.ext0 e1)) fun b v σ2 ρ2 s2 rb S2 e2 k2 => ?_
  exact sound_cmp k2 S2 (ra.ext0 e2) rb ao.room fun t kt => q t s2 ⟨σ2, ρ2, S2, e1.trans e2, kt⟩
theorem sound_index (ok : Ok B G) (sn : Snd prog w B I d) (ao : AOk d A) (eo : EnvOk env sc) {o i : Expr} {pos : Pos} {K : KV} (hno : ∀ lo hi p, i ≠ .Slice lo hi none p)
    (k : I.ev sc o L σ fun v σ1 => I.ev sc i L σ1 fun w σ2 => itemI G v w σ2 fun u => K u σ2) (S : St B ρ σ s) (l : Lo B env L ρ s.heap) : wpAny (model prog w) A (eval (.Subscript o i pos) env) (PV B ρ s.heap K) no s := by
  refine Subscript_ (wpAny_got (sn.ev k ao eo S l) fun v u σ1 ρ1 s1 r S1 e1 k1 => ?_)
  refine wpAny_got (sn.ev k1 ao eo S1 (l.ext0 e1)) fun x y σ2 ρ2 s2 rx S2 e2 k2 => ?_
  obtain ⟨⟨T, id, hT, hl⟩, hg⟩ := sound_item (prog := prog) (w := w) (A := A) ok k2 S2 (r.ext0 e2) rx
  refine sub_tail hT hl (.inl (subscripted_plain ?_)) (wpAny_mono hg (fun _ _ x => x.up (e1.trans e2)) fun _ _ x => x)
  cases i with
  | Slice a b c p =>
    cases c with
    | none => exact (hno _ _ _ rfl).elim
    | some _ => rfl
  | _ => rfl
theorem sound_callPlain (ok : Ok B G) (sn : Snd prog w B I d) (ao : AOk d A) (ao2 : AOk (d + 1) A) (eo : EnvOk env sc) {f : Expr} {args : List Expr} {kws : List Keyword} {pos : Pos} {K : KV} (hno : ∀ o n p, f ≠ .Attribute o n p)
    (k : cond (isLamF f L) (lamC I sc f args kws L σ K) <| cond (args.all noStar && kws.all kwNamed) (I.ev sc f L σ fun v σ1 => seqI (fun e σ1 K1 => I.ev sc e L σ1 K1) args σ1 fun vs σ2 => kwI (fun e σ1 K1 => I.ev sc e L σ1 K1) kws σ2 fun ks σ3 => I.ca v vs ks σ3 K) False) (S : St B ρ σ s) (l : Lo B env L ρ s.heap) : wpAny (model prog w) A (eval (.Call f args kws pos) env) (PV B ρ s.heap K) no s := by
  cases hq : isLamF f L with
  | true => rw [hq] at k; exact sound_lamCall ok sn ao2 eo hq k S l
  | false =>
  rw [hq] at k
  obtain ⟨hc, k⟩ := condF k
  rw [Bool.and_eq_true] at hc
  rw [eval_Call_plain hno]
  refine wpAny_then (sn.ev k ao eo S l) fun v u σ1 ρ1 s1 r S1 e1 k1 => ?_
  exact wpAny_mono (sound_args sn ao eo (first := []) (fs := []) hc.1 hc.2 S1 (l.ext0 e1) r .nil k1) (fun _ _ x => x.up e1) fun _ _ x => x
inductive NameV : Expr → Prop
  | mk (x : Str) (p : Pos) : NameV (.Name x p)
theorem isNameE_v {e : Expr} (h : isNameE e = true) : NameV e := by
  cases e with
  | Name x p => exact .mk x p
  | _ => exact absurd h Bool.false_ne_true
theorem compPat_inv {gens : List Comprehension} {q : Str × Expr} (h : compPat gens = some q) : ∃ px, gens = [⟨.Name q.1 px, q.2, [], 0⟩] := by
  cases gens with
  | nil => cases h
  | cons g r =>
    cases r with
    | cons _ _ => cases h
    | nil =>
      obtain ⟨t, it, ifs, as⟩ := g
      have h : cond (isNameE t && ifs.isEmpty && decide (as = 0)) (some (nmOf t, it)) none = some q := h
      cases hc : isNameE t && ifs.isEmpty && decide (as = 0) with
      | false => rw [hc] at h; cases h
      | true =>
        rw [hc] at h
        cases h
        rw [Bool.and_eq_true, Bool.and_eq_true, List.isEmpty_iff] at hc
        obtain ⟨⟨c1, rfl⟩, c3⟩ := hc
        obtain rfl := of_decide_eq_true c3
        cases isNameE_v c1 with | mk x p => exact ⟨p, rfl⟩
theorem sys_ne (ok : Ok B G) (S : St B ρ σ s) : s.heap.objs.size ≠ sysModules := by
  obtain ⟨m, ⟨o, _, _, ho, _⟩, _⟩ := ok.lim
  have := Heap.lt_size (S.keep _ _ ho)
  intro e
  rw [e] at this
  exact absurd this (by decide)
theorem sound_dict0 (ok : Ok B G) {pos : Pos} {K : KV} (k : K (.loc σ.length) (σ ++ [.idict none []])) (S : St B ρ σ s) : wpAny (model prog w) A (eval (.Dict [] [] pos) env) (PV B ρ s.heap K) no s := by
  rw [eval_Dict_empty]
  refine wpAny_bind (wpAny_standAt ?_)
  unfold newDict
  refine wpAny_newObj_type ?_ (by size_fits)
  have hD : ∀ prog w, (s.heap.push { cls := .type "dict", data := .dict #[] }).DictAt (intKind prog w) s.heap.objs.size [] 0 := fun _ _ =>
    ⟨_, #[], Heap.get?_push_size _ rfl, ⟨rfl, rfl, rfl⟩, rfl, (fun _ he => nomatch he), .nil, List.nodup_nil⟩
  obtain ⟨S', E'⟩ := S.new (h' := s.heap.push { cls := .type "dict", data := .dict #[] }) (tk := s.toks) (d := s.drawn) (p := (s.heap.objs.size, s.heap.objs.size)) (o := .idict none []) (fun b o e => Heap.get?_push_of_some _ e) (get?_size _) (get?_size _) ⟨_, Heap.get?_push_size _ rfl⟩ ⟨_, Heap.get?_push_size _ rfl⟩
    ⟨rfl, sys_ne ok S, Nat.zero_le _, [], ⟨0, (fun _ z => nomatch z), hD⟩, .nil⟩
  exact PV.of (.loc _ _ S.lenAt) S' E' k
theorem sound_evB (ok : Ok B G) (sn : Snd prog w B I d) (ao : AOk d A) (ao2 : AOk (d + 1) A) (eo : EnvOk env sc) {e : Expr} {K : KV} (k : evB G I sc e L σ K) (S : St B ρ σ s) (l : Lo B env L ρ s.heap) : wpAny (model prog w) A (eval e env) (PV B ρ s.heap K) no s := by
  cases e with
  | Constant c x p => exact sound_const k S
  | Name x p => exact sound_name ok k eo S l
  | BinOp a op b p =>
    refine wpAny_BinOp (wpAny_got (sn.ev k ao eo S l) fun a u σ1 ρ1 s1 ra S1 e1 k1 => ?_)
    refine wpAny_got (sn.ev k1 ao eo S1 (l.ext0 e1)) fun b v σ2 ρ2 s2 rb S2 e2 k2 => ?_
    exact wpAny_mono (sound_bin k2 S2 (ra.ext0 e2) rb) (fun _ _ x => x.up (e1.trans e2)) fun _ _ x => x
  | UnaryOp op a p =>
    rw [arm_eval_UnaryOp]
    refine wpAny_then (sn.ev k ao eo S l) fun a u σ1 ρ1 s1 ra S1 e1 k1 => wpAny_bind (wpAny_standAt (wpAny_holding ?_))
    exact wpAny_mono (sound_un k1 S1 ra) (fun _ _ x => x.up e1) fun _ _ x => x
  | Compare a ops rs p =>
    cases ops with
    | nil => exact False.elim k
    | cons op ops =>
      cases ops with
      | cons _ _ => exact False.elim k
      | nil =>
        cases rs with
        | nil => exact False.elim k
        | cons r rs =>
          cases rs with
          | cons _ _ => exact False.elim k
          | nil =>
            obtain ⟨hm, k⟩ := condT k
            exact wpAny_Compare1 (sound_cmpE sn ao eo (K := fun t σ2 => K (.bool t) σ2) S l hm k fun t s' ⟨σ2, ρ2, S2, e2, kt⟩ => PV.of (.bool t) S2 e2 kt) hm
  | IfExp t a b p =>
    rw [arm_eval_IfExp]
    refine wpAny_bind (wpAny_gotB (sn.ts k ao eo S l) fun b σ1 ρ1 s1 S1 e1 k1 => ?_)
    cases b with
    | true => exact wpAny_mono (sn.ev k1 ao eo S1 (l.ext0 e1)) (fun _ _ x => x.up e1) fun _ _ x => x
    | false => exact wpAny_mono (sn.ev k1 ao eo S1 (l.ext0 e1)) (fun _ _ x => x.up e1) fun _ _ x => x
  | BoolOp op es p =>
    rw [arm_eval_BoolOp]
    exact sound_chain sn ao eo k S l
  | Attribute o a p =>
    obtain ⟨hb, k⟩ := condF k
    rw [arm_eval_Attribute, base_plain hb]
    refine wpAny_then (sn.ev k ao eo S l) fun v u σ1 ρ1 s1 r S1 e1 k1 => wpAny_bind (wpAny_standAt (wpAny_bind (wpAny_holding ?_)))
    exact wpAny_mono (sound_attr ok k1 S1 r) (fun _ _ x => wpAny_bind (wpAny_letTemporaryGo (wpAny_pure (x.up e1)))) fun _ _ x => x
  | Subscript o i p =>
    cases i with
    | Slice lo hi st p2 =>
      cases st with
      | none => exact sound_slice ok sn ao eo S l k
      | some _ => exact sound_index ok sn ao eo (fun _ _ _ e => nomatch e) k S l
    | _ => exact sound_index ok sn ao eo (fun _ _ _ e => nomatch e) k S l
  | List es p =>
    obtain ⟨hc, k⟩ := condF k
    rw [Bool.and_eq_true] at hc
    exact sound_list sn ao eo hc.1 (Nat.blt_eq.mp hc.2) S l k
  | Tuple es x p =>
    obtain ⟨hc, k⟩ := condF k
    rw [Bool.and_eq_true] at hc
    exact sound_tuple sn ao eo hc.1 (Nat.blt_eq.mp hc.2) S l k
  | Call f args kws pos =>
    cases f with
    | Attribute o m ap =>
      obtain ⟨hc, k'⟩ := condF k
      clear k
      simp only [Bool.and_eq_true, List.isEmpty_iff] at hc
      obtain ⟨⟨⟨⟨h1, rfl⟩, h3⟩, h4⟩, h5⟩ := hc
      exact sound_methodCall ok sn ao eo S l h1 h3 (Nat.blt_eq.mp h4) h5 k'
    | _ => exact sound_callPlain ok sn ao ao2 eo (fun _ _ _ e => nomatch e) k S l
  | ListComp elt gens scope p =>
    obtain ⟨q, hg, k⟩ := someK_inv k
    obtain ⟨px, rfl⟩ := compPat_inv hg
    obtain ⟨hc, k⟩ := condF k
    rw [Bool.and_eq_true, Bool.and_eq_true] at hc
    exact sound_comp sn ao eo hc.1.1 hc.1.2 hc.2 S l k
  | Dict ks vs p =>
    cases ks with
    | cons _ _ => exact False.elim k
    | nil =>
      cases vs with
      | cons _ _ => exact False.elim k
      | nil => exact sound_dict0 ok k S
  | _ => exact False.elim k
theorem sound_and (sn : Snd prog w B I d) (ao : AOk d A) (eo : EnvOk env sc) {op : BoolOp} : ∀ {es : List Expr} {K : Bool → Hp → Prop} {σ : Hp} {ρ : Rho} {s : Shared}, andI (fun e σ1 K1 => I.ts sc e L σ1 K1) op es σ K → St B ρ σ s → Lo B env L ρ s.heap →
    wpAny (model prog w) A (allTrue op es env) (PB B ρ s.heap K) no s
  | [], K, σ, ρ, s, k, S, l => by
    cases op <;> exact wpAny_pure ⟨σ, ρ, S, .refl .., k⟩
  | e :: r, K, σ, ρ, s, k, S, l => by
    show wpAny _ A (isTrue e env (eval e env) >>= _) _ _ _
    refine wpAny_bind (wpAny_gotB (sn.ts k ao eo S l) fun b σ1 ρ1 s1 S1 e1 k1 => ?_)
    cases op with
    | And =>
      cases b with
      | false => exact wpAny_pure ⟨σ1, ρ1, S1, e1, k1⟩
      | true => exact wpAny_mono (sound_and sn ao eo k1 S1 (l.ext0 e1)) (fun _ _ x => x.up e1) fun _ _ x => x
    | Or =>
      cases b with
      | true => exact wpAny_pure ⟨σ1, ρ1, S1, e1, k1⟩
      | false => exact wpAny_mono (sound_and sn ao eo k1 S1 (l.ext0 e1)) (fun _ _ x => x.up e1) fun _ _ x => x
/-- the shapes of a test -/
inductive TsV : Expr → Prop
  | not (x : Expr) (p : Pos) : TsV (.UnaryOp .Not x p)
  | bool (op : BoolOp) (es : List Expr) (p : Pos) : TsV (.BoolOp op es p)
  | ife (a b c : Expr) (p : Pos) : TsV (.IfExp a b c p)
  | cmp (l : Expr) (os : List CmpOp) (rs : List Expr) (p : Pos) : TsV (.Compare l os rs p)
  | other (e : Expr) : (∀ G I sc L σ K, tsB G I sc e L σ K = (I.ev sc e L σ fun v σ1 => truthI v fun b => K b σ1)) → (∀ env t, isTrue e env t = (do let v ← t; standAt e.pos; holding [v] (truthy v))) → TsV e
theorem tsV (e : Expr) : TsV e := by
  cases e with
  | UnaryOp op x p => cases op <;> first | exact .not x p | exact .other _ (fun _ _ _ _ _ _ => rfl) fun _ _ => rfl
  | BoolOp o v p => exact .bool o v p
  | IfExp a b c p => exact .ife a b c p
  | Compare a b c p => exact .cmp a b c p
  | _ => exact .other _ (fun _ _ _ _ _ _ => rfl) fun _ _ => rfl
/-- a comparison of two -/
theorem cmp1 {l : Expr} {os : List CmpOp} {rs : List Expr} {p : Pos} {K : Bool → Hp → Prop} (k : tsB G I sc (.Compare l os rs p) L σ K) : ∃ op r, os = [op] ∧ rs = [r] ∧ cond (behindInMarks op r) False (I.ev sc l L σ fun a σ1 => I.ev sc r L σ1 fun b σ2 => cmpI op a b σ2 fun t => K t σ2) := by
  cases os with
  | nil => exact False.elim k
  | cons op os =>
    cases os with
    | cons _ _ => exact False.elim k
    | nil =>
      cases rs with
      | nil => exact False.elim k
      | cons r rs =>
        cases rs with
        | cons _ _ => exact False.elim k
        | nil => exact ⟨op, r, rfl, rfl, k⟩
theorem sound_tsB (sn : Snd prog w B I d) (ao : AOk d A) (eo : EnvOk env sc) {e : Expr} {K : Bool → Hp → Prop} (k : tsB G I sc e L σ K) (S : St B ρ σ s) (l : Lo B env L ρ s.heap) : wpAny (model prog w) A (isTrue e env (eval e env)) (PB B ρ s.heap K) no s := by
  cases tsV e with
  | not x p =>
    show wpAny _ A (do return !(← isTrue x env (eval x env))) _ _ _
    exact wpAny_bind (wpAny_mono (sn.ts (K := fun b σ1 => K (!b) σ1) k ao eo S l) (fun b s1 q => wpAny_pure q) fun _ _ x => x)
  | bool op es p =>
    show wpAny _ A (allTrue op es env) _ _ _
    exact sound_and sn ao eo k S l
  | ife t a b p =>
    show wpAny _ A (do if ← isTrue t env (eval t env) then isTrue a env (eval a env) else isTrue b env (eval b env)) _ _ _
    refine wpAny_bind (wpAny_gotB (sn.ts (K := fun c σ1 => cond c (I.ts sc a L σ1 K) (I.ts sc b L σ1 K)) k ao eo S l) fun c σ1 ρ1 s1 S1 e1 k1 => ?_)
    cases c with
    | true => exact wpAny_mono (sn.ts k1 ao eo S1 (l.ext0 e1)) (fun _ _ x => x.up e1) fun _ _ x => x
    | false => exact wpAny_mono (sn.ts k1 ao eo S1 (l.ext0 e1)) (fun _ _ x => x.up e1) fun _ _ x => x
  | cmp x os rs p =>
    obtain ⟨op, r, rfl, rfl, k⟩ := cmp1 k
    obtain ⟨hm, k⟩ := condT k
    exact wpAny_isTrue_Compare1 (sound_cmpE sn ao eo S l hm k fun t s' q => wpAny_truthy_bool q) hm
  | other e h1 h2 =>
    rw [h1] at k
    rw [h2]
    refine wpAny_then (sn.ev k ao eo S l) fun v u σ1 ρ1 s1 r S1 e1 k1 => wpAny_bind (wpAny_standAt (wpAny_holding ?_))
    exact sound_truth k1 r fun t kt => ⟨σ1, ρ1, S1, e1, kt⟩
end
end Mine
end
section
set_option maxRecDepth 100000
set_option linter.unusedVariables false
open PySem PySem.W PyProof.Rows PySem.Claim2Try PySem.Pin
namespace Mine
section
variable {prog : Program} {w : World} {B : Bs} {G : Pg} {I : In} {d : Nat} {A : Around} {E : Value → Shared → Prop} {env : Env} {sc : Scope} {ρ ρ' : Rho} {σ : Hp} {s : Shared} {L : Loc} {h : Heap}
theorem assign_sub (o i : Expr) (p : Pos) (u : Value) (env : Env) : assign (.Subscript o i p) env u = (do
      let ov ← holding [u] (eval o env)
      let iv ← holding [u, ov] (eval i env)
      standAt p
      holding [u, ov, iv] (setItem ov iv u)
      release (match i with | .Slice _ _ none _ => [iv, u, ov] | _ => [u, ov, iv]) []) := rfl
theorem sound_asgItem (ok : Ok B G) (sn : Snd prog w B I d) (ao : AOk d A) (eo : EnvOk env sc) {o i : Expr} {p : Pos} {v : AV} {u : Value} {K : Loc → Hp → Prop} (k : I.ev sc o L σ fun u σ1 => I.ev sc i L σ1 fun w σ2 => setItemI u w v σ2 fun σ3 => K L σ3) (S : St B ρ σ s) (l : Lo B env L ρ s.heap) (r : RepV B s.heap ρ v u) :
    wpAny (model prog w) A (assign (.Subscript o i p) env u) (PU B ρ s.heap env K) no s := by
  rw [assign_sub]
  refine wpAny_bind (wpAny_holding (wpAny_got (sn.ev k ao eo S l) fun y ov σ1 ρ1 s1 ry S1 e1 k1 => ?_))
  refine wpAny_bind (wpAny_holding (wpAny_got (sn.ev k1 ao eo S1 (l.ext0 e1)) fun z iv σ2 ρ2 s2 rz S2 e2 k2 => wpAny_bind (wpAny_standAt (wpAny_bind (wpAny_holding ?_)))))
  exact sound_setItem k2 S2 (ry.ext0 e2) rz ((r.ext0 e1).ext0 e2) fun σ3 s3 S3 e3 k3 => wpAny_release ⟨L, σ3, ρ2, S3, ((l.ext0 e1).ext0 e2).ext0 e3, ((e1.trans e2).trans e3).loc, k3⟩
theorem sound_asg1 (ok : Ok B G) (sn : Snd prog w B I d) (ao : AOk d A) (eo : EnvOk env sc) {t : Expr} {v : AV} {u : Value} {K : Loc → Hp → Prop} (k : asg1 I sc t v L σ K) (S : St B ρ σ s) (l : Lo B env L ρ s.heap) (r : RepV B s.heap ρ v u) :
    wpAny (model prog w) A (assign t env u) (PU B ρ s.heap env K) no s := by
  cases t with
  | Name x p =>
    show wpAny _ A (do standAt p; bindName env x u) _ _ _
    refine wpAny_bind (wpAny_standAt (wpAny_bindName ?_))
    exact sound_store (K := fun L1 => K L1 σ) eo k S l r fun L' s' S' l' E' k' _ => ⟨L', σ, ρ, S', l', E', k'⟩
  | Attribute o a p =>
    show wpAny _ A (do let ov ← holding [u] (eval o env); standAt p.atName; holding [u, ov] (setAttr ov a u); release [u, ov] []) _ _ _
    refine wpAny_bind (wpAny_holding (wpAny_got (sn.ev k ao eo S l) fun y ov σ1 ρ1 s1 ry S1 e1 k1 => wpAny_bind (wpAny_standAt (wpAny_bind (wpAny_holding ?_)))))
    exact sound_setAttr ok k1 S1 ry (r.ext0 e1) fun σ2 s2 S2 e2 k2 => wpAny_release ⟨L, σ2, ρ1, S2, (l.ext0 e1).ext0 e2, (e1.trans e2).loc, k2⟩
  | Subscript o i p =>
    cases i with
    | Slice lo hi st p2 =>
      cases st with
      | some _ => exact False.elim k
      | none =>
        rw [assign_sub]
        refine wpAny_bind (wpAny_holding (wpAny_got (sn.ev k ao eo S l) fun y ov σ1 ρ1 s1 ry S1 e1 k1 => ?_))
        refine wpAny_bind (wpAny_holding (sound_sliceObj (K := fun a b σ3 => setSliceI y a b v σ3 fun σ4 => K L σ4) sn ao eo S1 (l.ext0 e1) k1 fun a b va vb sl σ3 ρ3 s3 ra rb hsl S3 e3 k3 => wpAny_bind (wpAny_standAt (wpAny_bind (wpAny_holding ?_)))))
        exact sound_setSlice k3 S3 (ry.ext0 e3) ra rb ((r.ext0 e1).ext0 e3) hsl fun σ4 s4 S4 e4 k4 => wpAny_release ⟨L, σ4, ρ3, S4, ((l.ext0 e1).ext0 e3).ext0 e4, ((e1.trans e3).trans e4).loc, k4⟩
    | _ => exact sound_asgItem ok sn ao eo k S l r
  | _ => exact False.elim k
theorem sound_asgs (ok : Ok B G) (sn : Snd prog w B I d) (ao : AOk d A) (eo : EnvOk env sc) : ∀ {ts : List Expr} {vs : List AV} {us : List Value} {K : Loc → Hp → Prop} {L : Loc} {σ : Hp} {ρ : Rho} {s : Shared}, asgs I sc ts vs L σ K → St B ρ σ s → Lo B env L ρ s.heap → RepVs B s.heap ρ vs us →
    wpAny (model prog w) A (assignInOrder ((ts.map fun t => assign t env)) us) (PU B ρ s.heap env K) no s
  | [], [], us, K, L, σ, ρ, s, k, S, l, r => by
    cases r
    exact wpAny_pure ⟨L, σ, ρ, S, l, .refl .., k⟩
  | t :: ts, v :: vs, us, K, L, σ, ρ, s, k, S, l, r => by
    cases r with | cons a b =>
    show wpAny _ A (do holding _ (assign t env _); assignInOrder _ _) _ _ _
    refine wpAny_bind (wpAny_holding (wpAny_gotU (sound_asg1 ok sn ao eo k S l a) fun L1 σ1 ρ1 s1 S1 l1 e1 k1 => ?_))
    refine wpAny_mono (sound_asgs ok sn ao eo k1 S1 l1 (b.ext e1 fun y hy => (l.hid y hy).1)) (fun _ _ x => x.up e1) fun _ _ x => x
  | [], _ :: _, _, _, _, _, _, _, k, _, _, _ => k.elim
  | _ :: _, [], _, _, _, _, _, _, k, _, _, _ => k.elim
theorem each_plain {ts : List Expr} (hs : ts.all noStarT = true) : assignEach ts env = ts.map fun t => (false, assign t env) := by
  induction ts with
  | nil => rfl
  | cons t r ih =>
    rw [List.all_cons, Bool.and_eq_true] at hs
    rw [List.map_cons, ← ih hs.2]
    cases t <;> first | rfl | cases hs.1
theorem tupVK_inv {v : AV} {K : List AV → Prop} (k : tupVK v K) : ∃ vs, v = .tup vs ∧ K vs := by
  cases v with
  | tup vs => exact ⟨vs, rfl, k⟩
  | _ => exact False.elim k
theorem sound_asgI (ok : Ok B G) (sn : Snd prog w B I d) (ao : AOk d A) (eo : EnvOk env sc) {t : Expr} {v : AV} {u : Value} {K : Loc → Hp → Prop} (k : asgI I sc t v L σ K) (S : St B ρ σ s) (l : Lo B env L ρ s.heap) (r : RepV B s.heap ρ v u) :
    wpAny (model prog w) A (assign t env u) (PU B ρ s.heap env K) no s := by
  unfold asgI at k
  split at k
  · rename_i ts x1 p
    obtain ⟨vs, rfl, k⟩ := tupVK_inv k
    obtain ⟨hc, k⟩ := condF k
    rw [Bool.and_eq_true] at hc
    obtain ⟨a, its, e, rfl, _, ho, rs⟩ := r.tup_inv
    show wpAny _ A (do standAt p; unpack (.ref a) (assignEach ts env)) _ _ _
    refine wpAny_bind (wpAny_standAt ?_)
    have hn : (assignEach ts env).length = its.size := by
      rw [each_plain hc.1, List.length_map, ← Array.length_toList, rs.len]
      exact Nat.eq_of_beq_eq_true hc.2
    have hs : (assignEach ts env).findIdx? (·.1) = none := by
      rw [each_plain hc.1, List.findIdx?_eq_none_iff]
      intro y hy
      obtain ⟨z, _, rfl⟩ := List.mem_map.mp hy
      rfl
    have hm : (assignEach ts env).map (·.2) = ts.map fun t => assign t env := by rw [each_plain hc.1, List.map_map]; rfl
    refine wpAny_unpack_tuple ao.handled ⟨_, ho, rfl, e, rfl⟩ hn hs fun h' eb => ?_
    have E' : Ext [] s.heap ρ h' ρ := .grow fun b o q => eb b o (Nat.ne_of_lt (Heap.lt_size q)) q
    rw [hm]
    exact wpAny_mono (sound_asgs ok sn ao eo k (S.grows fun b o q => eb b o (Nat.ne_of_lt (Heap.lt_size q)) q) (l.ext0 E') (rs.ext0 E')) (fun _ _ x => x.up E'.loc) fun _ _ x => x
  · exact sound_asg1 ok sn ao eo k S l r
end
end Mine
end
section
set_option maxRecDepth 100000
set_option linter.unusedVariables false
open PySem PySem.W PyProof.Rows PySem.Claim2Try PySem.Pin
namespace Mine
section
variable {prog : Program} {w : World} {B : Bs} {G : Pg} {I : In} {d : Nat} {A : Around} {E : Value → Shared → Prop} {env : Env} {sc : Scope} {ρ ρ' : Rho} {σ : Hp} {s : Shared} {L : Loc} {h : Heap}
theorem RepF.next_inv {f : AF} (r : RepF B h ρ f .next) : f = .next := by cases r; rfl
theorem sound_stmts (sn : Snd prog w B I d) (ao : AOk d A) (eo : EnvOk env sc) : ∀ {bo : List Stmt} {K : KF} {L : Loc} {σ : Hp} {ρ : Rho} {s : Shared}, stmtsI (I.ex sc) bo L σ K → St B ρ σ s → Lo B env L ρ s.heap →
    wpAny (model prog w) A (execs bo env) (PF B ρ s.heap env K) no s
  | [], K, L, σ, ρ, s, k, S, l => wpAny_execs_nil ⟨.next, L, σ, ρ, .next, S, l, .refl .., k⟩
  | st :: r, K, L, σ, ρ, s, k, S, l => by
    refine wpAny_execs_cons (wpAny_gotF (sn.ex k ao eo S l) fun fl f L1 σ1 ρ1 s1 rf S1 l1 e1 k1 => ?_)
    cases rf with
    | next => exact wpAny_mono (sound_stmts sn ao eo k1 S1 l1) (fun _ _ x => x.up e1) fun _ _ x => x
    | brk => exact ⟨_, L1, σ1, ρ1, .brk, S1, l1, e1, k1⟩
    | cont => exact ⟨_, L1, σ1, ρ1, .cont, S1, l1, e1, k1⟩
    | ret rv => exact ⟨_, L1, σ1, ρ1, .ret rv, S1, l1, e1, k1⟩
theorem lookS_del {x y : Str} {v : AV} : ∀ {L : Loc}, lookS y (delS x L) = some v → y ≠ x ∧ lookS y L = some v
  | [], e => by cases e
  | (z, u) :: r, e => by
    have e : lookS y (cond (eqS x z) (delS x r) ((z, u) :: delS x r)) = some v := e
    show y ≠ x ∧ cond (eqS y z) (some u) (lookS y r) = some v
    cases h : eqS x z with
    | true =>
      rw [h] at e
      obtain ⟨h1, h2⟩ := lookS_del (L := r) e
      refine ⟨h1, ?_⟩
      cases h3 : eqS y z with
      | true => exact absurd ((eqS_iff.mp h3).trans (eqS_iff.mp h).symm) h1
      | false => exact h2
    | false =>
      rw [h] at e
      have e : cond (eqS y z) (some u) (lookS y (delS x r)) = some v := e
      cases h3 : eqS y z with
      | true =>
        rw [h3] at e
        exact ⟨fun q => eqS_ne h (q.symm.trans (eqS_iff.mp h3)), e⟩
      | false =>
        rw [h3] at e
        obtain ⟨h1, h2⟩ := lookS_del (L := r) e
        exact ⟨h1, h2⟩
theorem Lo.del {x : Str} (l : Lo B env L ρ h) : Lo B env (delS x L) ρ h :=
  ⟨let ⟨m, h1, h2⟩ := l.ns; ⟨m, h1, fun y v e => h2 y v (lookS_del e).2⟩, fun y v e => l.cell y v (lookS_del e).2, l.cok, l.apart, l.cells, l.own, fun y v e => l.lam y v (lookS_del e).2, l.code⟩
theorem exec_forName {t : Expr} {bo : List Stmt} {it : Value} {v : Value} {Q : Unit → Shared → Prop} (ht : isName t = true) (q : Q () s) : wpAny (model prog w) A (letOwnedTupleGo t it v) Q E s := by
  cases t with
  | Name x p => exact wpAny_pure q
  | _ => exact absurd ht Bool.false_ne_true
inductive ForInv (B : Bs) (env : Env) (src : Hp → Nat → Option (Option AV)) (bd : Loc → Hp → KF → Prop) (asg : AV → Loc → Hp → (Loc → Hp → Prop) → Prop) (K : KF) (It : Nat → Heap → Prop) (x : Addr) (h1 : Heap) (ρ1 : Rho) (m : Nat) (s' : Shared) : Prop
  | mk (i : Nat) (L' : Loc) (σ' : Hp) (ρ' : Rho) (kl : genLoop src bd asg m i L' σ' K) (S' : St B ρ' σ' s') (l' : Lo B env L' ρ' s'.heap) (it' : It i s'.heap) (nx' : NotOwn ρ' x) (E' : Ext (x :: fr env) h1 ρ1 s'.heap ρ') : ForInv B env src bd asg K It x h1 ρ1 m s'
theorem sound_gen (ok : Ok B G) (sn : Snd prog w B I d) (ao : AOk d A) (eo : EnvOk env sc) {src : Hp → Nat → Option (Option AV)} {x : Addr} {It : Nat → Heap → Prop} {t : Expr} {bo : List Stmt} {h1 : Heap} {ρ1 : Rho} {K : KF} {EE : Value → Shared → Prop} (ht : isName t = true) (IT : Iter prog w B A src x It ρ1)
    (fresh : h1.get? x = none) (base : B.hb.get? x = none) (locx : ∀ y ∈ fr env, ∃ o, h1.get? y = some o)
    {kk : Nat} (k : genLoop src (bodyD (nmOf t) (stmtsI (I.ex sc) bo)) (asgI I sc t) kk 0 L σ K) (S : St B ρ σ s) (l : Lo B env L ρ s.heap) (it0 : It 0 s.heap) (nx : NotOwn ρ x) (E0 : Ext (x :: fr env) h1 ρ1 s.heap ρ) :
    codeAny (model prog w) A (.forLoop t (.ref x) bo [] env) (fun r s' => match r with | .ok f => PF B ρ1 h1 env K f s' | .error e => EE e s') s := by
  have lx : ∀ y ∈ fr env, y ∉ [x] := fun y hy q => by obtain ⟨o, ho⟩ := locx y hy; rw [List.mem_singleton.mp q, fresh] at ho; cases ho
  have frx : ∀ b o, h1.get? b = some o → b ≠ x := fun b o e q => by rw [q, fresh] at e; cases e
  have dropx : ∀ {h4 : Heap} {ρ4 : Rho}, Ext (x :: fr env) h1 ρ1 h4 ρ4 → Ext (fr env) h1 ρ1 h4 ρ4 := fun e => e.drop fun y hy => by
    rcases List.mem_cons.mp hy with q | q
    · exact .inr (q ▸ fresh)
    · exact .inl q
  refine codeAny_forLoop_any (ForInv B env src (bodyD (nmOf t) (stmtsI (I.ex sc) bo)) (asgI I sc t) K It x h1 ρ1)
    (fun m s' ci => ?_) kk ⟨0, L, σ, ρ, k, S, l, it0, nx, E0⟩
  obtain ⟨i, L', σ', ρ', kl, S', l', it', nx', E'⟩ := ci
  have hat : ∀ (m : Nat) p, ρ1[m]? = some p → ρ'[m]? = some p := fun m p e => E'.at e
  have xall : ∀ y ∈ [x], Hid s'.heap y ∧ NotOwn ρ' y ∧ B.hb.get? y = none := fun y hy => by rw [List.mem_singleton.mp hy]; exact ⟨(IT.hid it').1, nx', base⟩
  have kpx : ∀ {h' : Heap}, (∀ b o, b ≠ x → s'.heap.get? b = some o → h'.get? b = some o) → ∀ b o, b ∉ [x] → s'.heap.get? b = some o → h'.get? b = some o := fun kp b o hb e => kp b o (fun z => hb (z ▸ List.mem_singleton.mpr rfl)) e
  have fin2 : K .next L' σ' → src σ' i = some none → wpAny (model prog w) A (pyNext (.ref x)) (fun r s₁ => r = none ∧ wpAny (model prog w) A (execs [] env) (fun f s₃ => match (Except.ok f : Result) with | .ok f => PF B ρ1 h1 env K f s₃ | .error e => EE e s₃) (notedBy (model prog w) A env fun e s' => EE e s') s₁) (notedBy (model prog w) A env fun e s' => EE e s') s' := by
    intro kf hs
    refine IT.fin S' it' hat hs fun h' kp => ⟨rfl, wpAny_execs_nil ?_⟩
    have EX : Ex [x] s'.heap ρ' h' ρ' := .of_keep (kpx kp)
    refine ⟨.next, L', σ', ρ', .next, S'.keeps (kpx kp) xall, l'.ex EX (fun y hy => (xall y hy).1) lx, ⟨⟨E'.pre, fun b o hn hx e => kp b o (frx b o e) ((dropx E').keep b o hn hx e)⟩, fun b o e => ?_⟩, kf⟩
    obtain ⟨o', e'⟩ := E'.there b o e
    exact ⟨o', kp b o' (frx b o e) e'⟩
  cases m with
  | zero =>
    unfold genLoop at kl
    cases hs : src σ' i with
    | none => rw [hs] at kl; exact kl.elim
    | some ov =>
      rw [hs] at kl
      cases ov with
      | some _ => exact kl.elim
      | none => exact wpAny_mono (fin2 kl hs) (fun r s1 q => by rw [q.1]; exact q.2) fun _ _ z => z
  | succ m =>
    unfold genLoop at kl
    cases hs : src σ' i with
    | none => rw [hs] at kl; exact kl.elim
    | some ov =>
      rw [hs] at kl
      cases ov with
      | none => exact wpAny_mono (fin2 kl hs) (fun r s1 q => by rw [q.1]; exact q.2) fun _ _ z => z
      | some v =>
        refine IT.step S' it' nx' hat hs fun u h' tk it2 kp ru => ?_
        have EX : Ext [x] s'.heap ρ' h' ρ' := .of_keep (kpx kp) fun y hy => by rw [List.mem_singleton.mp hy]; exact (IT.hid it2).2
        have S2 : St B ρ' σ' ⟨h', s'.gens, s'.drawn, tk, s'.os⟩ := S'.keeps (kpx kp) xall
        have l2 : Lo B env L' ρ' h' := l'.ext EX (fun y hy => (xall y hy).1) lx
        refine exec_forName (bo := bo) ht (wpAny_mono (wpAny_gotU (sound_asgI ok sn ao eo kl S2 l2 ru) fun L3 σ3 ρ3 s3 S3 l3 e3 k3 => ?_) (fun _ _ q => q) fun _ _ z => z.elim)
        refine wpAny_mono (wpAny_gotF (sound_stmts sn ao eo (show stmtsI (I.ex sc) bo L3 σ3 _ from k3) S3 l3) fun fl f L4 σ4 ρ4 s4 rf S4 l4 e4 k4 => ?_) (fun _ _ q => q) fun _ _ z => z.elim
        have nlx : x ∉ fr env := fun q => lx x q (List.mem_singleton.mpr rfl)
        have n3 : NotOwn ρ3 x := let ⟨o, e⟩ := (IT.hid it2).2; e3.notOwn nx' e
        have it3 : It (i + 1) s3.heap := IT.stable it2 fun o e => e3.keep _ o nx' nlx e
        have n4 : NotOwn ρ4 x := let ⟨o, e⟩ := (IT.hid it3).2; e4.notOwn n3 e
        have it4 : It (i + 1) s4.heap := IT.stable it3 fun o e => e4.keep _ o n3 nlx e
        have Ef : Ext (x :: fr env) h1 ρ1 s4.heap ρ4 :=
          ((E'.trans (EX.mono fun y hy => by rw [List.mem_singleton.mp hy]; exact List.mem_cons_self ..)).trans (e3.mono fun y hy => List.mem_cons_of_mem _ hy)).trans (e4.mono fun y hy => List.mem_cons_of_mem _ hy)
        cases rf with
        | next => exact ⟨m, Nat.lt_succ_self m, i + 1, _, σ4, ρ4, k4, S4, l4.del, it4, n4, Ef⟩
        | cont => exact ⟨m, Nat.lt_succ_self m, i + 1, _, σ4, ρ4, k4, S4, l4.del, it4, n4, Ef⟩
        | brk => exact ⟨.next, _, σ4, ρ4, .next, S4, l4.del, dropx Ef, k4⟩
        | ret rv => exact ⟨_, _, σ4, ρ4, .ret rv, S4, l4.del, dropx Ef, k4⟩
theorem sound_for (ok : Ok B G) (sn : Snd prog w B I d) (ao : AOk d A) (eo : EnvOk env sc) {t it : Expr} {bo : List Stmt} {pos : Pos} {K : KF} (hc : (isName t && noSet it) = true)
    (k : I.ev sc it L σ fun v σ1 => forI I sc t bo v L σ1 K) (S : St B ρ σ s) (l : Lo B env L ρ s.heap) : wpAny (model prog w) A (exec (.For t it bo [] pos) env) (PF B ρ s.heap env K) no s := by
  rw [Bool.and_eq_true] at hc
  refine wpAny_For (wpAny_got (sn.ev k ao eo S l) fun v u σ1 ρ1 s1 r S1 e1 k1 => ?_) (folded_plain hc.2)
  refine sound_iter ao k1 S1 r fun src n σ2 x It o k2 S1 IT hx it0 => ?_
  have fx : s1.heap.get? x = none := hx ▸ get?_size _
  refine codeAny_mono (sound_gen (EE := cameBackBy (model prog w) A env no) ok sn ao eo hc.1 IT fx (S1.base fx) (fun y hy => ((l.ext0 e1).hid y hy).2) k2 (S1.push o) ((l.ext0 e1).ext0 (.push o)) it0 (S1.notOwn fx) (.push o)) fun rr s4 q => ?_
  cases rr with
  | ok f => exact PF.up e1.loc q
  | error e => exact q
end
end Mine
end
section
set_option maxRecDepth 100000
set_option linter.unusedVariables false
open PySem PySem.W PyProof.Rows PySem.Claim2Try PySem.Pin
namespace Mine
section
variable {prog : Program} {w : World} {B : Bs} {G : Pg} {I : In} {d : Nat} {A : Around} {E : Value → Shared → Prop} {env : Env} {sc : Scope} {ρ ρ' : Rho} {σ : Hp} {s : Shared} {L : Loc} {h : Heap}
theorem drop_value {e : Expr} {pos : Pos} {v : Value} {Q : Flow → Shared → Prop} (q : Q .next s) : wpAny (model prog w) A (dropValue e pos v) Q no s := by
  unfold dropValue
  split
  · exact wpAny_pure q
  · exact wpAny_bind (wpAny_standAt (wpAny_bind (wpAny_runValue (codeAny_builtin entry_let_go (show wpAny _ _ (ret .none) _ _ s from wpAny_pure (wpAny_pure q))))))
  · exact wpAny_pure q
theorem swaps_plain {e : Expr} {t : Option Expr} {n : Nat} (hc : noComp e = true) : swapsWith e t n env = pure false := by
  cases e <;> first | rfl | cases hc
theorem EnvOk.notInteractive (eo : EnvOk env sc) : interactive env = false := by unfold interactive; rw [eo.scope, eo.kind]; rfl
noncomputable def swF (b0 b5 b1 b2 b3 b4 : Bool) (X r : Sem (Option (List Str))) : Sem (Option (List Str)) := if (b0 || b5) = true then pure none else if b1 = true then pure none else if b2 = true then pure none else if b3 = true then pure none else if b4 = true then X else r
theorem swF_some {b0 b5 b1 b2 b3 b4 : Bool} {X r : Sem (Option (List Str))} (h0 : b0 = false) (h5 : b5 = false) (h1 : b1 = false) (h2 : b2 = false) (h3 : b3 = false) (h4 : b4 = false) : swF b0 b5 b1 b2 b3 b4 X r = r := by subst h0 h5 h1 h2 h3 h4; rfl
theorem swF_none {b0 b5 b1 b2 b3 b4 : Bool} {X r : Sem (Option (List Str))} (h2 : b2 = true) : swF b0 b5 b1 b2 b3 b4 X r = pure none := by subst h2; cases b0 <;> cases b5 <;> cases b1 <;> rfl
theorem swapped_at (ts vs : List Expr) (x y : Nat) (p q : Pos) : ∃ X : Sem (Option (List Str)), swappedStores [.Tuple ts x p] (.Tuple vs y q) env = swF (!(ts.length == 2 || ts.length == 3) || vs.length != ts.length) (env.blockKind != .function) (vs.any isStar)
    ((namesAt env.kindOf ts).length != ts.length || (namesAt env.kindOf ts).eraseDups.length != (namesAt env.kindOf ts).length) (vs.all (foldedForSure 8)) (vs.all (constantsAlone 8)) X (pure (some (namesAt env.kindOf ts))) := ⟨_, rfl⟩
theorem names_short {kd : Str → Option NameKind} {a : Expr} {r : List Expr} (hn : isName a = false) : (namesAt kd (a :: r)).length ≠ (a :: r).length := by
  unfold namesAt
  have hf : locAt kd (((a :: r).head?.map (·.pos.line)).getD 0) a = none := by cases a <;> first | rfl | exact absurd (show true = false from hn) (by decide)
  rw [List.filterMap_cons, hf]
  exact Nat.ne_of_lt (Nat.lt_succ_of_le (List.length_filterMap_le _ r))
theorem swapped_none {t e : Expr} (hs : noSwap t e = true) : swappedStores [t] e env = pure none := by
  cases t with
  | Tuple ts x p =>
    cases e with
    | Tuple vs y q =>
      cases ts with
      | nil => unfold swappedStores; rfl
      | cons a r =>
        obtain ⟨X, e⟩ := swapped_at (env := env) (a :: r) vs x y p q
        rw [e]
        refine swF_none ?_
        rw [Bool.or_eq_true, bne_iff_ne]
        exact .inl (names_short ((Bool.not_eq_true' _).mp hs))
    | _ => rfl
  | List ts p => exact absurd hs Bool.false_ne_true
  | _ => rfl
end
end Mine
end
section
set_option maxRecDepth 100000
set_option linter.unusedVariables false
open PySem PySem.W PyProof.Rows PySem.Claim2Try PySem.Pin
namespace Mine
section
variable {prog : Program} {w : World} {B : Bs} {G : Pg} {I : In} {d : Nat} {A : Around} {E : Value → Shared → Prop} {env : Env} {sc : Scope} {ρ ρ' : Rho} {σ : Hp} {s : Shared} {L : Loc} {h : Heap}
theorem noComp_call {e : Expr} (h : callish e = true) : noComp e = true := by cases e <;> first | rfl | cases h
theorem each_one {t : Expr} (ht : ∀ e p, t ≠ .Starred e p) : (assignEach [t] env).map (·.2) = [assign t env] := by
  cases t <;> first | rfl | exact (ht _ _ rfl).elim
theorem asg_noStar {t : Expr} {v : AV} {K : Loc → Hp → Prop} (k : asgI I sc t v L σ K) : ∀ e p, t ≠ .Starred e p := by
  rintro e p rfl
  exact k
theorem exec_Assign_plain {t e : Expr} {pos : Pos} (h1 : noComp e = true) (h2 : noSwap t e = true) (h3 : ∀ e p, t ≠ .Starred e p) : exec (.Assign [t] e pos) env = (do standAt pos; let v ← eval e env; assign t env v; pure .next) := by
  have e0 : exec (.Assign [t] e pos) env = (do
      standAt pos
      if ← swapsWith e (some t) pos.line env then do
        evalThenUse e env fun v => assignAll v ((assignEach [t] env).map (·.2))
        pure .next
      else do
        let v ← eval e env
        assignStores env v (← swappedStores [t] e env) ((assignEach [t] env).map (·.2))) := rfl
  rw [e0, swaps_plain h1, swapped_none h2, each_one h3]
  rfl
theorem exec_Assign_raw {t e : Expr} {pos : Pos} (h1 : noComp e = true) : exec (.Assign [t] e pos) env = (do standAt pos; let v ← eval e env; assignStores env v (← swappedStores [t] e env) ((assignEach [t] env).map (·.2))) := by
  have e0 : exec (.Assign [t] e pos) env = (do
      standAt pos
      if ← swapsWith e (some t) pos.line env then do
        evalThenUse e env fun v => assignAll v ((assignEach [t] env).map (·.2))
        pure .next
      else do
        let v ← eval e env
        assignStores env v (← swappedStores [t] e env) ((assignEach [t] env).map (·.2))) := rfl
  rw [e0, swaps_plain h1]
  rfl
inductive C5 {α : Type} (b1 b2 b3 b4 b5 : Bool) (l ns : α) : Prop
  | mk (h1 : b1 = false) (h2 : b2 = false) (h3 : b3 = false) (h4 : b4 = false) (h5 : b5 = false) (e : l = ns) : C5 b1 b2 b3 b4 b5 l ns
theorem cond5 {α : Type} {b1 b2 b3 b4 b5 : Bool} {l ns : α} (h : cond b1 none (cond b2 none (cond b3 none (cond b4 none (cond b5 none (some l))))) = some ns) : C5 b1 b2 b3 b4 b5 l ns := by
  cases b1
  · cases b2
    · cases b3
      · cases b4
        · cases b5
          · exact ⟨rfl, rfl, rfl, rfl, rfl, Option.some.inj h⟩
          · cases h
        · cases h
      · cases h
    · cases h
  · cases h
theorem none_some {α : Type} {x : α} {C : Prop} (h : (none : Option α) = some x) : C := nomatch h
inductive SwV (sc : Scope) (ns : List Str) : Expr → Expr → Prop
  | mk (ts vs : List Expr) (x y : Nat) (p q : Pos) (h : swapL sc ts vs = some ns) : SwV sc ns (.Tuple ts x p) (.Tuple vs y q)
theorem swV_of {t e : Expr} {ns : List Str} (h : swapN sc t e = some ns) : SwV sc ns t e := by
  cases t with
  | Tuple ts x p =>
    cases e with
    | Tuple vs y q => exact ⟨ts, vs, x, y, p, q, h⟩
    | _ => exact none_some h
  | _ => exact none_some h
theorem swapped_some (eo : EnvOk env sc) {t e : Expr} {ns : List Str} (h : swapN sc t e = some ns) : swappedStores [t] e env = pure (some ns) := by
  obtain ⟨ts, vs, x, y, p, q, h⟩ := swV_of h
  obtain ⟨c1, c2, c3, c4, c5, rfl⟩ := cond5 h
  have hk : env.kindOf = fun n => kindS n sc := funext eo.kindOf
  obtain ⟨X, e⟩ := swapped_at (env := env) ts vs x y p q
  rw [e, hk]
  exact swF_some c1 (by
    show ((if env.scope.kind.isAnnotationScope then ScopeKind.function else env.scope.kind) != .function) = false
    rw [eo.scope, eo.kind]; rfl) c2 c3 c4 c5
theorem sound_stores (eo : EnvOk env sc) : ∀ {ns : List Str} {vs : List AV} {us : List Value} {K : Loc → Prop} {L : Loc} {ρ : Rho} {s : Shared}, storesI sc ns vs L K → St B ρ σ s → Lo B env L ρ s.heap → RepVs B s.heap ρ vs us →
    wpAny (model prog w) A (assignInOrder (ns.map fun n => bindName env n) us) (PU B ρ s.heap env fun L1 σ1 => K L1 ∧ σ1 = σ) no s
  | [], [], us, K, L, ρ, s, k, S, l, r => by
    cases r
    exact wpAny_pure ⟨L, σ, ρ, S, l, .refl .., k, rfl⟩
  | x :: ns, v :: vs, us, K, L, ρ, s, k, S, l, r => by
    cases r with | cons a b =>
    show wpAny _ A (do holding _ (bindName env x _); assignInOrder _ _) _ _ _
    refine wpAny_bind (wpAny_holding (wpAny_bindName (sound_store eo k S l a fun L1 s1 S1 l1 e1 k1 _ => ?_)))
    exact wpAny_mono (sound_stores eo k1 S1 l1 (b.ext e1 fun y hy => (l.hid y hy).1)) (fun _ _ x => x.up e1) fun _ _ x => x
  | [], _ :: _, _, _, _, _, _, k, _, _, _ => k.elim
  | _ :: _, [], _, _, _, _, _, k, _, _, _ => k.elim
theorem RepVs.rev {h : Heap} {vs : List AV} {ws : List Value} (r : RepVs B h ρ vs ws) : RepVs B h ρ vs.reverse ws.reverse := by
  induction vs generalizing ws with
  | nil => cases r; exact .nil
  | cons v r' ih => cases r with | cons a b => rw [List.reverse_cons, List.reverse_cons]; exact (ih b).app (.cons a .nil)
theorem storesI_len : ∀ {ns : List Str} {vs : List AV} {L : Loc} {K : Loc → Prop}, storesI sc ns vs L K → ns.length = vs.length
  | [], [], _, _, _ => rfl
  | x :: r, v :: s, L, K, k => by
    obtain ⟨_, _, k⟩ := storeI_inv k
    exact congrArg (· + 1) (storesI_len k)
  | [], _ :: _, _, _, k => k.elim
  | _ :: _, [], _, _, k => k.elim
inductive LamK (sc : Scope) (t e : Expr) (L : Loc) (σ : Hp) (K : KF) : Prop
  | mk (pa : Arguments) (lb : Expr) (lsc : Scope) (pos : Pos) (x : Str) (he : e = .Lambda pa lb lsc pos) (ha : lamArgs pa = some x) (ht : isNameE t = true) (hk : kindS (nmOf t) sc = some .local) (hw : isW sc = true) (hs : lamSc lsc sc x = true) (htab : tabAt pos σ = true) (k : ∀ a cl, K .next (putS (nmOf t) (.lam a cl pa lb lsc) L) σ) : LamK sc t e L σ K
theorem lamI_inv {t e : Expr} {K : KF} (k : lamI sc t e L σ K) : LamK sc t e L σ K := by
  cases e with
  | Lambda pa lb lsc pos =>
    obtain ⟨x, h1, k⟩ := someK_inv k
    obtain ⟨hc, k⟩ := condF k
    simp only [Bool.and_eq_true] at hc
    obtain ⟨⟨⟨⟨h2, h3⟩, h4⟩, h5⟩, h6⟩ := hc
    exact ⟨pa, lb, lsc, pos, x, rfl, h1, h2, isLocalO_inv h3, h4, h5, h6, k⟩
  | _ => exact False.elim k
theorem tabAt_inv {pos : Pos} (h : tabAt pos σ = true) : ∃ q, σ[0]? = some (.tab q) ∧ q.line = pos.line ∧ q.col = pos.col := by
  unfold tabAt at h
  cases hn : nth σ 0 with
  | none => rw [hn] at h; cases h
  | some o =>
    rw [hn] at h
    cases o with
    | tab q =>
      have h : (decide (q.line = pos.line) && decide (q.col = pos.col)) = true := h
      rw [Bool.and_eq_true] at h
      rw [nth_eq] at hn
      exact ⟨q, hn, of_decide_eq_true h.1, of_decide_eq_true h.2⟩
    | _ => cases h
theorem set_same {o : AObj} : ∀ {σ : Hp} {n : Nat}, σ[n]? = some o → σ.set n o = σ
  | [], _, h => by cases h
  | x :: r, 0, h => by cases h; rfl
  | x :: r, n + 1, h => congrArg (x :: ·) (set_same (n := n) h)
/-- a lambda is made -/
theorem sound_lamMake (ok : Ok B G) (ao : AOk d A) (eo : EnvOk env sc) {t e : Expr} {pos : Pos} {K : KF} (k : lamI sc t e L σ K) (S : St B ρ σ s) (l : Lo B env L ρ s.heap) : wpAny (model prog w) A (exec (.Assign [t] e pos) env) (PF B ρ s.heap env K) no s := by
  have k0 := lamI_inv k
  clear k
  obtain ⟨pa, lb, lsc, lp, x, rfl, ha, ht, hk, hw, hs, htab, k⟩ := k0
  cases isNameE_v ht with | mk y p =>
  have hs' := hs
  unfold lamSc at hs
  rw [Bool.and_eq_true, Bool.and_eq_true] at hs
  have co := compScope_inv hs.1.1
  obtain ⟨cl, Cl⟩ := clos_comp eo co l
  obtain ⟨ar, p1, p2, p3, p4, p5, p6, p7, p8⟩ := lamArgs_inv ha
  obtain ⟨q, hq, q1, q2⟩ := tabAt_inv htab
  obtain ⟨pp, hp, e1, e2, alt⟩ := S.at_ hq
  obtain ⟨hcode, hqual⟩ := l.code (by rw [eo.scope]; exact hw)
  have hdef : defaultsOf pa env = ([], []) := by
    rw [defaultsOf_eq, p5, p6]; rfl
  have fin : ∀ (H : Heap) (a c : Addr) (pm ct : Value) (tk : Nat), (∀ b o, b ≠ pp.1 → s.heap.get? b = some o → H.get? b = some o) → RepO B H ρ pp (.tab q) → H.get? a = some (lamObj "<lambda>" (env.qual ++ "<lambda>") pa lb lsc cl pm c ct) → NotOwn ρ a → NotOwn ρ c → H.CodeRec (.ref c) (env.qual ++ "<lambda>") →
      wpAny (model prog w) A (do assign (.Name y p) env (.ref a); pure .next : Sem Flow) (PF B ρ s.heap env K) no { s with heap := H, toks := tk } := fun H a c pm ct tk kp rO ho na nc hr => by
    have bb : ∃ o, H.get? pp.1 = some o := by
      obtain ⟨_, _, r⟩ := rO
      rcases r with r | ⟨_, r, _⟩ <;> exact ⟨_, r⟩
    obtain ⟨S1, E1⟩ := S.set (h' := H) (tk := tk) (d := s.drawn) (o := .tab q) hp (fun b o hb _ => kp b o hb) bb (by rw [e1]; exact bb) rO
    rw [set_same hq] at S1
    have rv : RepV B H ρ (.lam a cl pa lb lsc) (.ref a) := .lam a cl pa lb lsc _ _ pm ct c na ho nc hr
    refine wpAny_bind ?_
    show wpAny _ A (do standAt p; bindName env y (.ref a)) _ _ _
    refine wpAny_bind (wpAny_standAt (wpAny_bindName ?_))
    refine sound_storeL eo (v := .lam a cl pa lb lsc) ⟨Cl.sub, Cl.has⟩ hk S1 (l.ext0 E1) rv fun s' S' l' E' => wpAny_pure ?_
    exact ⟨.next, _, σ, ρ, .next, S', l', E1.loc.trans (fr_one fr_locals E'), k a cl⟩
  rw [exec_Assign_plain (t := .Name y p) (e := .Lambda pa lb lsc lp) rfl rfl (fun _ _ e => nomatch e)]
  refine wpAny_bind (wpAny_standAt (wpAny_bind (kla_eval hdef ?_)))
  have hgP : mainGlobals ≠ pp.1 := fun z => by
    obtain ⟨o, _, _, ho, _⟩ := ok.glob
    have := (S.above pp (mem_of_at hp)).1
    rw [← z, ho] at this; cases this
  have hC : CodeHd s.heap B.cw pp.1 := e2 ▸ ok.tab.keeps S.keep
  have hB : s.heap.BuiltinsAt B.mg pp.1 := e2 ▸ ok.blm.keeps S.keep
  rcases alt with hT | ⟨c, hT, nc, hr⟩
  · refine kla_makeFunction Cl.eq eo.glob (ok.glob.keeps S.keep) hcode hC hT trivial rfl hgP hB fun c' ctv h' tk hx hge hlt hrec htb => ?_
    have nA : ∀ b, s.heap.objs.size ≤ b → NotOwn ρ b := fun b hb => S.notOwn (Heap.get?_none_of_le hb)
    have hne : h'.objs.size ≠ pp.1 := fun z => absurd (Heap.lt_size htb) (by rw [← z]; exact Nat.lt_irrefl _)
    have hrec' := hrec.at fun o (e : h'.get? c' = some o) => Heap.get?_push_of_some (lamObj "<lambda>" (env.qual ++ "<lambda>") pa lb lsc cl ((B.mg "__name__").getD .none) c' ctv) e
    refine fin _ h'.objs.size c' _ ctv tk (fun b o hb e => Heap.get?_push_of_some _ (hx b o hb e)) ⟨e1, e2, .inr ⟨c', ?_, nA _ hge, hqual ▸ hrec'⟩⟩ (Heap.get?_push_size _ rfl) (nA _ (Nat.le_trans hge (Nat.le_of_lt hlt))) (nA _ hge) hrec'
    rw [q1, q2]
    exact Heap.get?_push_of_some _ htb
  · have hf : codeAmong lp [rawInt q.line, rawInt q.col, .ref c] = some (.ref c) := by
      rw [q1, q2]
      simp [codeAmong, rawInt]
    refine kla_makeFunctionHit Cl.eq eo.glob (ok.glob.keeps S.keep) hcode hC hT trivial hf hB fun ctv h' tk kp hsz => ?_
    have nA : NotOwn ρ h'.objs.size := S.notOwn (Heap.get?_none_of_le hsz)
    have hr2 : s.heap.CodeRec (.ref c) (env.qual ++ "<lambda>") := by rw [hqual]; exact hr
    have kp2 : ∀ b o, s.heap.get? b = some o → (h'.push (lamObj "<lambda>" (env.qual ++ "<lambda>") pa lb lsc cl ((B.mg "__name__").getD .none) c ctv)).get? b = some o := fun b o e => Heap.get?_push_of_some _ (kp b o e)
    exact fin _ h'.objs.size c _ ctv tk (fun b o _ e => kp2 b o e) ⟨e1, e2, .inr ⟨c, kp2 _ _ hT, nc, hr.keeps kp2⟩⟩ (Heap.get?_push_size _ rfl) nA nc (hr2.keeps kp2)
theorem sound_assign (ok : Ok B G) (sn : Snd prog w B I d) (ao : AOk d A) (eo : EnvOk env sc) {t e : Expr} {pos : Pos} {K : KF} (hc : (noComp e && noStarT t) = true)
    (k : cond (isLamE e) (lamI sc t e L σ K) <| optK (swapN sc t e) (cond (noSwap t e) (I.ev sc e L σ fun v σ1 => asgI I sc t v L σ1 fun L1 σ2 => K .next L1 σ2) False)
      fun ns => I.ev sc e L σ fun v σ1 => tupVK v fun vs => storesI sc ns.reverse vs.reverse L fun L1 => K .next L1 σ1) (S : St B ρ σ s) (l : Lo B env L ρ s.heap) : wpAny (model prog w) A (exec (.Assign [t] e pos) env) (PF B ρ s.heap env K) no s := by
  cases hq : isLamE e with
  | true => rw [hq] at k; exact sound_lamMake ok ao eo k S l
  | false =>
  rw [hq] at k
  rw [Bool.and_eq_true] at hc
  cases hn : swapN sc t e with
  | none =>
    rw [hn] at k
    obtain ⟨hs, k⟩ := condF k
    have h3 : ∀ e p, t ≠ .Starred e p := by rintro e p rfl; exact absurd hc.2 Bool.false_ne_true
    rw [exec_Assign_plain hc.1 hs h3]
    refine wpAny_bind (wpAny_standAt (wpAny_then (sn.ev k ao eo S l) fun v u σ1 ρ1 s1 r S1 e1 k1 => ?_))
    refine wpAny_bind (wpAny_gotU (sound_asgI ok sn ao eo k1 S1 (l.ext0 e1) r) fun L2 σ2 ρ2 s2 S2 l2 e2 k2 => wpAny_pure ?_)
    exact ⟨.next, L2, σ2, ρ2, .next, S2, l2, e1.loc.trans e2, k2⟩
  | some ns =>
    rw [hn] at k
    rw [exec_Assign_raw hc.1]
    refine wpAny_bind (wpAny_standAt (wpAny_then (sn.ev k ao eo S l) fun v u σ1 ρ1 s1 r S1 e1 k1 => ?_))
    refine wpAny_to (swapped_some eo hn) ?_
    obtain ⟨vs, rfl, k1⟩ := tupVK_inv k1
    obtain ⟨a, its, e0, rfl, _, ho, hr⟩ := r.tup_inv
    have hlen : ns.length = its.size := by
      have := storesI_len k1
      rw [List.length_reverse, List.length_reverse] at this
      rw [this, ← hr.len]; rfl
    show wpAny _ A (do rule "assign.swapped-stores"; let items ← unpackItems (.ref a) ns.length none; assignInOrder (ns.reverse.map fun n => bindName env n) items.reverse; (pure .next : Sem Flow)) _ _ _
    rw [hlen]
    refine wpAny_bind (wpAny_rule (wpAny_bind (wpAny_unpackItems_tuple ao.handled ⟨_, ho, rfl, e0, rfl⟩ fun h' eb => ?_)))
    have g : ∀ b o, s1.heap.get? b = some o → h'.get? b = some o := fun b o q => eb b o (Nat.ne_of_lt (Heap.lt_size q)) q
    have E' : Ext [] s1.heap ρ1 h' ρ1 := .grow g
    refine wpAny_bind (wpAny_gotU (sound_stores eo k1 (S1.grows g) ((l.ext0 e1).ext0 E') (hr.rev.ext0 E')) fun L2 σ2 ρ2 s2 S2 l2 e2 k2 => wpAny_pure ?_)
    obtain ⟨k2, rfl⟩ := k2
    exact ⟨.next, L2, _, ρ2, .next, S2, l2, (e1.trans E').loc.trans e2, k2⟩
inductive WhInv (B : Bs) (env : Env) (ts : Loc → Hp → (Bool → Hp → Prop) → Prop) (bd : Loc → Hp → KF → Prop) (K : KF) (h1 : Heap) (ρ : Rho) (m : Nat) (s' : Shared) : Prop
  | mk (L' : Loc) (σ' : Hp) (ρ' : Rho) (kl : whileLoop ts bd m L' σ' K) (S' : St B ρ' σ' s') (l' : Lo B env L' ρ' s'.heap) (E' : Ext (fr env) h1 ρ s'.heap ρ') : WhInv B env ts bd K h1 ρ m s'
theorem sound_while (sn : Snd prog w B I d) (ao : AOk d A) (eo : EnvOk env sc) {t : Expr} {bo : List Stmt} {pos : Pos} {n : Nat} {K : KF} (k : whileLoop (fun L σ K => I.ts sc t L σ K) (stmtsI (I.ex sc) bo) n L σ K) (S : St B ρ σ s) (l : Lo B env L ρ s.heap) :
    wpAny (model prog w) A (exec (.While t bo [] pos) env) (PF B ρ s.heap env K) no s := by
  refine wpAny_While (codeAny_whileLoop (WhInv B env (fun L σ K => I.ts sc t L σ K) (stmtsI (I.ex sc) bo) K s.heap ρ) (fun m s' ci => ?_) n ⟨L, σ, ρ, k, S, l, .refl ..⟩)
  obtain ⟨L', σ', ρ', kl, S', l', E'⟩ := ci
  cases m with
  | zero => exact False.elim kl
  | succ m =>
    refine wpAny_mono (wpAny_gotB (sn.ts kl ao eo S' l') fun b σ1 ρ1 s1 S1 e1 k1 => ?_) (fun _ _ z => z) fun _ _ z => z.elim
    have l1 := l'.ext0 e1
    cases b with
    | true =>
      rw [if_pos rfl]
      refine wpAny_mono (wpAny_gotF (sound_stmts sn ao eo k1 S1 l1) fun fl f L2 σ2 ρ2 s2 rf S2 l2 e2 k2 => ?_) (fun _ _ z => z) fun _ _ z => z.elim
      have Ef := (E'.trans e1.loc).trans e2
      cases rf with
      | next => exact ⟨m, Nat.lt_succ_self m, L2, σ2, ρ2, k2, S2, l2, Ef⟩
      | cont => exact ⟨m, Nat.lt_succ_self m, L2, σ2, ρ2, k2, S2, l2, Ef⟩
      | brk => exact ⟨.next, L2, σ2, ρ2, .next, S2, l2, Ef, k2⟩
      | ret rv => exact ⟨_, L2, σ2, ρ2, .ret rv, S2, l2, Ef, k2⟩
    | false =>
      rw [if_neg Bool.false_ne_true]
      exact wpAny_execs_nil ⟨.next, L', σ1, ρ1, .next, S1, l1, E'.trans e1.loc, k1⟩
theorem sound_exB (ok : Ok B G) (sn : Snd prog w B I d) (ao : AOk d A) (eo : EnvOk env sc) {st : Stmt} {K : KF} (k : exB G I sc st L σ K) (S : St B ρ σ s) (l : Lo B env L ρ s.heap) : wpAny (model prog w) A (exec st env) (PF B ρ s.heap env K) no s := by
  cases st with
  | Expr e p =>
    obtain ⟨hc, k⟩ := condF k
    rw [exec_Expr env _ _ eo.notInteractive (swaps_plain (noComp_call hc))]
    refine wpAny_bind (wpAny_standAt (wpAny_then (sn.ev k ao eo S l) fun v u σ1 ρ1 s1 r S1 e1 k1 => drop_value ?_))
    exact ⟨.next, L, σ1, ρ1, .next, S1, l.ext0 e1, e1.loc, k1⟩
  | Pass p => exact wpAny_Pass ⟨.next, L, σ, ρ, .next, S, l, .refl .., k⟩
  | Break p => exact wpAny_bind (wpAny_standAt (wpAny_pure ⟨.brk, L, σ, ρ, .brk, S, l, .refl .., k⟩))
  | Return e p =>
    cases e with
    | some e => exact wpAny_Return_some (wpAny_got (sn.ev k ao eo S l) fun v u σ1 ρ1 s1 r S1 e1 k1 => ⟨.ret v, L, σ1, ρ1, .ret r, S1, l.ext0 e1, e1.loc, k1⟩)
    | none => exact wpAny_Return_none ⟨.ret .none, L, σ, ρ, .ret .none, S, l, .refl .., k⟩
  | Assign ts e p =>
    cases ts with
    | nil => exact False.elim k
    | cons t ts =>
      cases ts with
      | cons _ _ => exact False.elim k
      | nil =>
        obtain ⟨hc, k⟩ := condF k
        exact sound_assign ok sn ao eo hc k S l
  | AugAssign t op e p =>
    cases t with
    | Name x q =>
      refine wpAny_AugAssign_Name ?_
      refine (sound_load (prog := prog) (w := w) (A := A) ok k eo S l fun a u ra ka => ?_).1
      refine wpAny_got (sn.ev ka ao eo S l) fun b v σ1 ρ1 s1 rb S1 e1 k1 => ?_
      refine wpAny_got (sound_inpl k1 S1 (ra.ext0 e1) rb) fun c x σ2 ρ2 s2 rc S2 e2 k2 => ?_
      have e12 := e1.trans e2
      exact sound_store eo k2 S2 (l.ext0 e12) rc fun L' s3 S3 l3 e3 k3 _ => ⟨.next, L', σ2, ρ2, .next, S3, l3, e12.loc.trans e3, k3⟩
    | Attribute o a0 q =>
      refine wpAny_AugAssign_AttributeAny ?_
      refine wpAny_got (sn.ev k ao eo S l) fun a ov σ1 ρ1 s1 ra S1 e1 k1 => ?_
      refine wpAny_got (sound_attr (K := fun x σ2 => I.ev sc e L σ2 fun y σ3 => inplI op x y σ3 fun r σ4 => setAttrI a a0 r σ4 fun σ5 => K .next L σ5) ok k1 S1 ra) fun b old σ2 ρ2 s2 rb S2 e2 k2 => ?_
      refine wpAny_got (sn.ev k2 ao eo S2 ((l.ext0 e1).ext0 e2)) fun c v σ3 ρ3 s3 rc S3 e3 k3 => ?_
      refine wpAny_got (sound_inpl k3 S3 (rb.ext0 e3) rc) fun y x σ4 ρ4 s4 ry S4 e4 k4 => ?_
      have e14 := ((e1.trans e2).trans e3).trans e4
      exact sound_setAttr ok k4 S4 (((ra.ext0 e2).ext0 e3).ext0 e4) ry fun σ5 s5 S5 e5 k5 => ⟨.next, L, σ5, ρ4, .next, S5, (l.ext0 e14).ext0 e5, (e14.trans e5).loc, k5⟩
    | _ => exact False.elim k
  | If t b o p =>
    refine wpAny_If (wpAny_gotB (sn.ts k ao eo S l) fun b σ1 ρ1 s1 S1 e1 k1 => ?_)
    cases b with
    | true => rw [if_pos rfl]; exact wpAny_mono (sound_stmts sn ao eo k1 S1 (l.ext0 e1)) (fun _ _ x => x.up e1.loc) fun _ _ z => z
    | false => rw [if_neg Bool.false_ne_true]; exact wpAny_mono (sound_stmts sn ao eo k1 S1 (l.ext0 e1)) (fun _ _ x => x.up e1.loc) fun _ _ z => z
  | While t bo el p =>
    cases el with
    | cons _ _ => exact False.elim k
    | nil => exact sound_while sn ao eo k S l
  | For t it bo el p =>
    cases el with
    | cons _ _ => exact False.elim k
    | nil =>
      obtain ⟨hc, k⟩ := condF k
      exact sound_for ok sn ao eo hc k S l
  | _ => exact False.elim k
end
end Mine
end
section
set_option maxRecDepth 100000
set_option linter.unusedVariables false
open PySem PySem.W PyProof.Rows PySem.Claim2Try PySem.Pin
namespace Mine
section
variable {prog : Program} {w : World} {B : Bs} {G : Pg} {I : In} {d : Nat} {A : Around} {E : Value → Shared → Prop} {env : Env} {sc : Scope} {ρ ρ' : Rho} {σ : Hp} {s : Shared} {L : Loc} {h : Heap}
theorem plainScope_inv (h : plainScope sc = true) : sc.kind = .function ∧ sc.isGenerator = false ∧ sc.isCoroutine = false := by
  unfold plainScope at h
  rw [Bool.and_eq_true, Bool.and_eq_true, Bool.and_eq_true, Bool.not_eq_true', Bool.not_eq_true'] at h
  obtain ⟨⟨⟨h1, h2⟩, h3⟩, _⟩ := h
  refine ⟨?_, h2, h3⟩
  cases hk : sc.kind <;> first | rfl | (rw [hk] at h1; cases h1)
theorem cellsFrom_has : ∀ {names : List (Str × NameKind)} {n : Nat} {acc : List (Str × Addr)} {x : Str}, (x, NameKind.cell) ∈ names ∨ (∃ c, acc.lookup x = some c) → ∃ c, (cellsFrom n names acc).lookup x = some c
  | [], _, _, _, .inr h => h
  | [], _, _, _, .inl h => nomatch h
  | (y, k) :: r, n, acc, x, h => by
    unfold cellsFrom
    have old : (∃ c, acc.lookup x = some c) → ∃ c, List.lookup x ((y, n) :: acc) = some c := fun ⟨c, e⟩ => by
      rw [List.lookup_cons]
      cases x == y with
      | true => exact ⟨n, rfl⟩
      | false => exact ⟨c, e⟩
    by_cases hk : (k == NameKind.cell) = true
    · rw [if_pos hk]
      refine cellsFrom_has ?_
      rcases h with h | h
      · rcases List.mem_cons.mp h with e | h
        · cases e; exact .inr ⟨n, by rw [List.lookup_cons, beq_self_eq_true]⟩
        · exact .inl h
      · exact .inr (old h)
    · rw [if_neg hk]
      refine cellsFrom_has (h.imp (fun h => ?_) id)
      rcases List.mem_cons.mp h with e | h
      · cases e; exact (hk rfl).elim
      · exact h
theorem rev_lookup {x n : Str} {v u : Value} {r : List (Str × Value)} {o : Option Value} (h : ((n, v) :: r).reverse.lookup x = some u ∨ (((n, v) :: r).reverse.lookup x = none ∧ o = some u)) :
    r.reverse.lookup x = some u ∨ (r.reverse.lookup x = none ∧ ((x = n ∧ v = u) ∨ (x ≠ n ∧ o = some u))) := by
  rw [List.reverse_cons, List.lookup_append] at h
  have one : List.lookup x [(n, v)] = if x = n then some v else none := by
    rw [List.lookup_cons]
    by_cases e : x = n
    · rw [if_pos e, e, beq_self_eq_true]
    · rw [if_neg e, show (x == n) = false from beq_eq_false_iff_ne.mpr e]; rfl
  cases hr : r.reverse.lookup x with
  | some u' =>
    rw [hr] at h
    rcases h with h | ⟨h, _⟩
    · exact .inl h
    · cases h
  | none =>
    rw [hr, one] at h
    refine .inr ⟨rfl, ?_⟩
    by_cases e : x = n
    · rw [if_pos e] at h
      rcases h with h | ⟨h, _⟩
      · cases h; exact .inl ⟨e, rfl⟩
      · cases h
    · rw [if_neg e] at h
      rcases h with h | ⟨_, h⟩
      · cases h
      · exact .inr ⟨e, h⟩
theorem bindL_at {kindOf : Str → Option NameKind} {x : Str} {u : Value} (hk : kindOf x = some .local) : ∀ {binds : List (Str × Value)} {m : Str → Option Value}, (binds.reverse.lookup x = some u ∨ (binds.reverse.lookup x = none ∧ m x = some u)) → bindL kindOf binds m x = some u
  | [], m, h => by
    rcases h with h | ⟨_, h⟩
    · cases h
    · exact h
  | (n, v) :: r, m, h => by
    unfold bindL
    refine bindL_at hk ?_
    obtain h | ⟨h0, ⟨e, e2⟩ | ⟨e, h2⟩⟩ := rev_lookup h
    · exact .inl h
    · subst e e2
      exact .inr ⟨h0, by rw [if_pos hk]; exact if_pos rfl⟩
    · refine .inr ⟨h0, ?_⟩
      by_cases hkn : kindOf n = some .local
      · rw [if_pos hkn]; exact (if_neg e).trans h2
      · rw [if_neg hkn]; exact h2
theorem bindC_at {kindOf : Str → Option NameKind} {x : Str} {u : Value} (hk : kindOf x ≠ some .local) : ∀ {binds : List (Str × Value)} {m : Str → Option Value}, (binds.reverse.lookup x = some u ∨ (binds.reverse.lookup x = none ∧ m x = some u)) → PySem.bindC kindOf binds m x = some u
  | [], m, h => by
    rcases h with h | ⟨_, h⟩
    · cases h
    · exact h
  | (n, v) :: r, m, h => by
    unfold PySem.bindC
    refine bindC_at hk ?_
    obtain h | ⟨h0, ⟨e, e2⟩ | ⟨e, h2⟩⟩ := rev_lookup h
    · exact .inl h
    · subst e e2
      exact .inr ⟨h0, by rw [if_neg hk]; exact if_pos rfl⟩
    · refine .inr ⟨h0, ?_⟩
      by_cases hkn : kindOf n = some .local
      · rw [if_pos hkn]; exact h2
      · rw [if_neg hkn]; exact (if_neg e).trans h2
theorem lams_of : ∀ {L : Loc}, (L.all fun x => ownName sc x.1 && notLam x.2) = true → noLams L = true
  | [], _ => rfl
  | x :: r, h => by
    rw [List.all_cons, Bool.and_eq_true, Bool.and_eq_true] at h
    show (notLam x.2 && noLams r) = true
    rw [h.1.2, lams_of h.2]; rfl
theorem Ok.code (ok : Ok B G) {c P : Addr} {q : Str} {ps : Array Value} (r : B.h0.CodeRec (.ref c) q) (t : B.h0.TableAt c P ps) : B.hb.CodeRec (.ref c) q := by
  obtain ⟨c', o, vs, tk, e1, e2, e3, e4⟩ := r
  cases e1
  obtain ⟨⟨o', vs', h1, h2, _⟩, _⟩ := t
  rw [e2] at h1
  cases h1
  exact ⟨_, o, vs, tk, rfl, ok.lift _ _ (by rw [h2]; exact ty_none _) e2, e3, e4⟩
theorem sound_body (ok : Ok B G) (sn : Snd prog w B I d) {name qual : Str} {pa : Arguments} {bo : List Stmt} {fw : Value} {args : Args} {L0 : Option Loc} {K : KV} {R : Result → Shared → Prop} {binds : Loc → List (Str × Value)} (fn : FnAt B.h0 0 fw name qual pa bo sc) (hw : isW sc = true → FnW B fw) (k : bodyI I L0 bo sc σ K) (S : St B ρ σ s) (room : A.depth < recursionLimit) (ao : ∀ env, AOk d (A.deeper env))
    (hb : ∀ L fd, L0 = some L → fd.params = pa → (∃ dv, B.h0.DefaultsAt 0 dv fd.defaults ∧ ConstVals pa.defaults dv) → BindsTo s fd args (binds L))
    (hn : ∀ L, L0 = some L → (binds L).map (·.1) = L.map (·.1)) (hr : ∀ L, L0 = some L → ∀ x v, lookS x L = some v → ∃ u, (binds L).reverse.lookup x = some u ∧ RepV B s.heap ρ v u)
    (q : ∀ v s', PV B ρ s.heap K v s' → R (.ok (.ret v)) s') : codeAny (model prog w) A (.call fw args) R s := by
  unfold bodyI at k
  cases L0 with
  | none => exact k.elim
  | some L =>
    obtain ⟨hc, k⟩ := condF k
    rw [Bool.and_eq_true] at hc
    obtain ⟨p1, p2, p3⟩ := plainScope_inv hc.1
    obtain ⟨a, dV, pm, c, doc, P, dv, rfl, _, _, _, hf, hcr, _, htab, hdef, hcv⟩ := fn
    have hcr := ok.code hcr htab
    have ownk : ∀ x ∈ binds L, sc.names.lookup x.1 = some .local ∨ sc.names.lookup x.1 = some .cell := fun y hy => by
      have hm : y.1 ∈ L.map (·.1) := by rw [← hn L rfl]; exact List.mem_map_of_mem hy
      obtain ⟨z, hz, e⟩ := List.mem_map.mp hm
      have h1 : (ownName sc z.1 && notLam z.2) = true := List.all_eq_true.mp hc.2 z hz
      rw [Bool.and_eq_true] at h1
      have h1 := h1.1
      rw [← e, ← kindL]
      unfold ownName at h1
      cases hk : kindS z.1 sc with
      | none => rw [hk] at h1; cases h1
      | some kd => rw [hk] at h1; cases kd <;> first | exact .inl rfl | exact .inr rfl | cases h1
    refine codeAny_call_function room (S.keep _ _ (ok.lift _ _ (ty_none _) hf)) rfl p3 p2 rfl (hcr.keeps S.keep) (hb L _ rfl rfl ⟨dv, hdef, hcv⟩ _ _ _ _ ?_)
    refine wpAny_newFunctionEnv_cells p1 (fun y hy => ?_) fun cenv he s1 x => ⟨(ok.lim.keeps S.keep).keeps x.toInCall.keep, ?_⟩
    · rcases ownk y hy with h | h
      · exact .inl h
      · obtain ⟨c, hc⟩ := cellsFrom_has (n := s.heap.objs.size + 1) (acc := []) (.inl (mem_of_lookup h))
        exact .inr ⟨h, Option.isSome_iff_exists.mpr ⟨c, hc⟩⟩
    · have el : cenv.locals = s.heap.objs.size := by rw [he]; rfl
      have ec : cenv.cells = cellsFrom (s.heap.objs.size + 1) sc.names [] := by rw [he]; rfl
      have eo : EnvOk cenv sc := by rw [he]; exact ⟨rfl, p1, rfl, rfl⟩
      have ecd : cenv.code = .ref c := by rw [he]; rfl
      have eq : cenv.qual = qual ++ ".<locals>." := by rw [he]; rfl
      clear he
      obtain ⟨h1, tk, rfl⟩ := x.toInCall.same
      have E0 : Ext [] s.heap ρ h1 ρ := .grow x.toInCall.keep
      have fresh : ∀ y ∈ fr cenv, s.heap.get? y = none := fun y hy => by
        rcases mem_fr hy with rfl | ⟨n, e⟩
        · rw [el]; exact get?_size _
        · have := x.above n y (PySem.mem_of_lookup e)
          rw [el] at this
          exact Heap.get?_none_of_le (Nat.le_of_lt this)
      have l0 : Lo B cenv L ρ h1 := by
        refine ⟨⟨_, x.toInCall.ns, fun y v hv hk => ?_⟩, fun y v hv hk => ?_, fun n c hc => ⟨⟨_, x.cell n c hc⟩, Nat.ne_of_gt (x.above n c (PySem.mem_of_lookup hc))⟩, fun n n' c e1 e2 => name_of_addr x.apart (PySem.mem_of_lookup e1) (PySem.mem_of_lookup e2), fun y hk => ?_, fun y hy => ⟨S.notOwn (fresh y hy), S.base (fresh y hy)⟩, noLams_ok (lams_of hc.2), fun q => ?_⟩
        · obtain ⟨u, a1, a2⟩ := hr L rfl y v hv
          exact ⟨u, bindL_at hk (.inl a1), a2.ext0 E0⟩
        · obtain ⟨u, a1, a2⟩ := hr L rfl y v hv
          have hm : (y, u) ∈ binds L := List.mem_reverse.mp (PySem.mem_of_lookup a1)
          have hk2 := ownk _ hm
          have hc2 : sc.names.lookup y = some .cell := hk2.resolve_left fun e => hk (((eo.kindOf y).trans (kindL y)).trans e)
          obtain ⟨c', hc'⟩ := cellsFrom_has (n := s.heap.objs.size + 1) (acc := []) (.inl (mem_of_lookup hc2))
          have cc := x.cell y c' (by rw [ec]; exact hc')
          rw [bindC_at hk (.inl a1)] at cc
          exact ⟨c', u, by rw [ec]; exact hc', cc, a2.ext0 E0⟩
        · rw [ec]
          exact cellsFrom_has (.inl (mem_of_lookup ((kindL y).symm.trans ((eo.kindOf y).symm.trans hk))))
        · obtain ⟨a', fd', ea, ho', hcw, hwq⟩ := hw (eo.scope ▸ q)
          cases ea
          rw [hf] at ho'
          cases ho'
          exact ⟨ecd.trans hcw, (congrArg (· ++ ("<lambda>" : Str)) eq).trans hwq⟩
      refine codeAny_func (wpAny_mono (wpAny_gotF (Q := fun f s' => R (.ok (.ret (match f with | .ret v => v | _ => .none))) s') (sound_stmts sn (ao cenv) eo k (S.grows x.toInCall.keep) l0) fun fl f L' σ' ρ' s' rf S' l' e' k' => ?_) (fun _ _ z => z) fun _ _ z => z.elim)
      have Ef : Ext [] s.heap ρ s'.heap ρ' := (E0.loc.trans e').drop fun y hy => .inr (fresh y hy)
      cases rf with
      | next => exact q _ _ (gc_good S' Ef .none (S.len.symm ▸ k'))
      | ret rv => exact q _ _ (gc_good S' Ef rv (S.len.symm ▸ k'))
      | brk => exact k'.elim
      | cont => exact k'.elim
theorem lookS_zip : ∀ {ns : List Str} {vs : List AV} {ws : List Value} {x : Str} {v : AV}, RepVs B h ρ vs ws → ns.length = vs.length → ns.Nodup → lookS x (ns.zip vs) = some v → ∃ u, (ns.zip ws).reverse.lookup x = some u ∧ RepV B h ρ v u
  | [], _, _, _, _, _, _, _, e => by cases e
  | n :: ns, [], _, _, _, _, hl, _, _ => by cases hl
  | n :: ns, v0 :: vs, _, x, v, r, hl, hd, e => by
    cases r with | cons a b =>
    rename_i w0 ws
    have hd' := List.nodup_cons.mp hd
    rw [List.zip_cons_cons, List.reverse_cons, List.lookup_append]
    have e : cond (eqS x n) (some v0) (lookS x (ns.zip vs)) = some v := e
    cases hq : eqS x n with
    | true =>
      rw [hq] at e
      cases e
      have hx := eqS_iff.mp hq
      subst hx
      have hno : List.lookup x (ns.zip ws).reverse = none := by
        rw [List.lookup_eq_none_iff]
        intro p hp
        rw [List.mem_reverse] at hp
        have hm : p.1 ∈ ns := (List.of_mem_zip hp).1
        rw [bne_iff_ne]
        intro z
        exact hd'.1 (z ▸ hm)
      refine ⟨w0, ?_, a⟩
      rw [hno]
      show List.lookup x [(x, w0)] = _
      rw [List.lookup_cons, beq_self_eq_true]
    | false =>
      rw [hq] at e
      obtain ⟨u, h1, h2⟩ := lookS_zip b (Nat.succ.inj hl) hd'.2 e
      exact ⟨u, by rw [h1]; rfl, h2⟩
end
end Mine
end
section
set_option maxRecDepth 100000
set_option linter.unusedVariables false
open PySem PySem.W PyProof.Rows PySem.Claim2Try PySem.Pin
namespace Mine
theorem call_type : fastLookup "type" (Str.ofString "__call__") = some (some (.builtin "type.__call__")) := by kernel_rfl
theorem type_mro : (fastBuiltinMro "type").map (·.contains (.type "type")) = some true := by kernel_rfl
section
variable {prog : Program} {w : World} {B : Bs} {G : Pg} {I : In} {d : Nat} {A : Around} {E : Value → Shared → Prop} {env : Env} {sc : Scope} {ρ ρ' : Rho} {σ : Hp} {s : Shared} {L : Loc} {h : Heap}
theorem kept_bm {M : Model} {q f : Addr} {self : Value} {o : Obj} {fd : FuncData} (hq : h.get? q = some (methodObj (.ref f) self)) (ho : h.get? f = some o) (hd : o.data = .func fd) : Kept M (.ref q) h := by
  refine ⟨.boundFrame, .inr (.inr rfl), (Looks.ld (part := none) hq).andThen ((Looks.ld (part := none) ho).andThen ?_)⟩
  rw [hd]; exact .now
inductive BindIR (pa : Arguments) (vs : List AV) (L : Loc) : Prop
  | mk (h1 : pa.posonlyargs = []) (h2 : pa.kwonlyargs = []) (h3 : pa.vararg = none) (h4 : pa.kwarg = none) (h5 : pa.defaults = []) (h6 : (pa.args.map (·.arg)).length = vs.length) (h7 : (pa.args.map (·.arg)).Nodup) (hL : L = (pa.args.map (·.arg)).zip vs) : BindIR pa vs L
theorem bindI_inv {pa : Arguments} {vs : List AV} {L : Loc} (h : bindI pa vs = some L) : BindIR pa vs L := by
  unfold bindI at h
  cases hc : pa.posonlyargs.isEmpty && pa.kwonlyargs.isEmpty && pa.vararg.isNone && pa.kwarg.isNone && pa.defaults.isEmpty && Nat.beq pa.args.length vs.length && nodupS (pa.args.map (·.arg)) with
  | false => rw [hc] at h; cases h
  | true =>
    rw [hc] at h
    cases h
    simp only [Bool.and_eq_true, List.isEmpty_iff, Option.isNone_iff_eq_none] at hc
    obtain ⟨⟨⟨⟨⟨⟨h1, h2⟩, h3⟩, h4⟩, h5⟩, h6⟩, h7⟩ := hc
    exact ⟨h1, h2, h3, h4, h5, by rw [List.length_map]; exact Nat.eq_of_beq_eq_true h6, nodupS_iff h7, rfl⟩
theorem sound_fn (ok : Ok B G) (sn : Snd prog w B I d) {name qual : Str} {pa : Arguments} {bo : List Stmt} {fw : Value} {vs : List AV} {ws : List Value} {K : KV} {R : Result → Shared → Prop} (fn : FnAt B.h0 0 fw name qual pa bo sc) (hw : isW sc = true → FnW B fw) (k : bodyI I (bindI pa vs) bo sc σ K) (S : St B ρ σ s) (ao : AOk (d + 1) A)
    (r : RepVs B s.heap ρ vs ws) (q : ∀ v s', PV B ρ s.heap K v s' → R (.ok (.ret v)) s') : codeAny (model prog w) A (.call fw ⟨ws, []⟩) R s := by
  refine sound_body ok sn (binds := fun _ => (pa.args.map (·.arg)).zip ws) fn hw k S ao.room1 (fun env => ao.deeper env) (fun L fd hL hp ⟨dv, hd, hcv⟩ => ?_) (fun L hL => ?_) (fun L hL x v hv => ?_) q
  · obtain ⟨h1, h2, h3, h4, h5, h6, h7, rfl⟩ := bindI_inv hL
    have hdn : fd.defaults = .none := by
      rw [h5] at hcv
      have : dv = [] := by cases dv with | nil => rfl | cons _ _ => cases hcv
      rcases hd with ⟨_, r⟩ | ⟨r, _⟩
      · exact r
      · exact (r this).elim
    subst hp
    exact bind_plain h1 h2 h3 h4 hdn (by rw [h6, r.len]) h7
  · obtain ⟨h1, h2, h3, h4, h5, h6, h7, rfl⟩ := bindI_inv hL
    rw [(zip_map (h6.trans r.len.symm)).1, (zip_map h6).1]
  · obtain ⟨h1, h2, h3, h4, h5, h6, h7, rfl⟩ := bindI_inv hL
    exact lookS_zip r h6 h7 hv
theorem args3_inv {l : List Arg} (h : args3 l = true) : ∃ a b c, l = [a, b, c] ∧ a.arg = nSelf ∧ b.arg = nMemory ∧ c.arg = nPc := by
  match l, h with
  | [a, b, c], h =>
    have h : (eqS a.arg nSelf && eqS b.arg nMemory && eqS c.arg nPc) = true := h
    rw [Bool.and_eq_true, Bool.and_eq_true] at h
    exact ⟨a, b, c, rfl, eqS_iff.mp h.1.1, eqS_iff.mp h.1.2, eqS_iff.mp h.2⟩
inductive BindCR (pa : Arguments) (s : AV) (vs : List AV) (ks : List (Str × AV)) (L : Loc) : Prop
  | mk (m p : AV) (hv : vs = []) (hk : ks = [(nMemory, m), (nPc, p)]) (h1 : pa.posonlyargs = []) (h2 : pa.kwonlyargs = []) (h3 : pa.vararg = none) (h4 : pa.kwarg = none) (h5 : pa.defaults.length = 2) (h6 : ∃ a b c, pa.args = [a, b, c] ∧ a.arg = nSelf ∧ b.arg = nMemory ∧ c.arg = nPc) (hL : L = [(nSelf, s), (nMemory, m), (nPc, p)]) : BindCR pa s vs ks L
theorem bindC_inv {pa : Arguments} {s : AV} {vs : List AV} {ks : List (Str × AV)} {L : Loc} (h : bindC pa s vs ks = some L) : BindCR pa s vs ks L := by
  match vs, ks, h with
  | [], [(x, m), (y, p)], h =>
    have h : cond (okC pa x y) (some [(nSelf, s), (nMemory, m), (nPc, p)]) none = some L := h
    cases hc : okC pa x y with
    | false => rw [hc] at h; cases h
    | true =>
      rw [hc] at h
      cases h
      unfold okC at hc
      simp only [Bool.and_eq_true, List.isEmpty_iff, Option.isNone_iff_eq_none] at hc
      obtain ⟨⟨⟨⟨⟨⟨⟨h1, h2⟩, h3⟩, h4⟩, h5⟩, h6⟩, h7⟩, h8⟩ := hc
      rw [eqS_iff.mp h6, eqS_iff.mp h7]
      exact ⟨m, p, rfl, rfl, h1, h2, h3, h4, Nat.eq_of_beq_eq_true h5, args3_inv h8, rfl⟩
theorem ConstVals.len : ∀ {es : List Expr} {vs : List Value}, ConstVals es vs → vs.length = es.length
  | [], [], _ => rfl
  | [], _ :: _, h => by cases h
  | _ :: _, [], h => by cases h
  | e :: r, v :: r', h => congrArg (· + 1) (ConstVals.len h.2)
/-- the class's own facts for a call of it -/
theorem cls_call (ok : Ok B G) (S : St B ρ σ s) {f : Addr} {fo : Obj} {fd : FuncData} (hl : B.l.lookup (Str.ofString "__init__") = some (.ref f)) (hf : B.hb.get? f = some fo) (hfc : fo.cls = .type "function") (hfd : fo.data = .func fd) {ws : List Value} {kws : List (Str × Value)} {Q : Value → Shared → Prop} :
    Kept (model prog w) (.ref B.C) s.heap ∧
    (codeAny (model prog w) (A.under (.builtin "type.__call__" ⟨.ref B.C :: ws, kws⟩)) (.call (.ref f) ⟨.ref (s.heap.objs.size + 1) :: ws, kws⟩) (InitBack (s.heap.objs.size + 1) fun r s' => match r with | .ok (.ret v) => Q v s' | .ok _ => False | .error e => no e s') { s with heap := (s.heap.push emptyDict).push (instObj B.C s.heap.objs.size) } →
      wpAny (model prog w) A (call (.ref B.C) ws kws) Q no s) := by
  obtain ⟨K0, X, _, _, _, _, hfind, hex, nm, q, sub, col, k0, k1, k2, k3, k5, hC⟩ := clsK ok S.keep [(f, fo)] (frag1 (S.keep _ _ hf))
  have hK := hex f fo frag1_self (fun _ e => by rw [hfd] at e; cases e) (fun _ _ e => by rw [hfd] at e; cases e)
  have hsp : specialIn K0 (.ref B.C) (Str.ofString "__call__") = some (some (.builtin "type.__call__")) := specialIn_ref hC rfl call_type
  have hin : instIn K0 (.ref B.C) (.type "type") = some true := by
    unfold instIn typeIn
    dsimp only
    rw [hC]
    exact type_mro
  have mk : makesIn K0 B.C = true := by
    unfold makesIn
    rw [hC]
    dsimp only
    rw [hsp, hin]
    simp
  refine ⟨?_, fun q => ?_⟩
  · obtain ⟨kk, a, b⟩ := looks_keep (M := model prog w) (K := K0) (f := .ref B.C) (by
      unfold keepIn
      dsimp only
      rw [hC]
      dsimp only
      rw [hsp]
      simp) X
    exact ⟨kk, a.elim .inl (fun e => .inr (.inl e)), b⟩
  · obtain ⟨hh, g, dd, t, os⟩ := s
    exact wpAny_call (make_core (makes_of X mk) (looks_findIn X (by rw [hfind]; exact congrArg some (by rw [hl]))) (fun self => bind_fn X self (by unfold typeIn; dsimp only; rw [hK]; exact congrArg some hfc)) (.inl rfl) q)
theorem St.newInst (S : St B ρ σ s) {H : Heap} (hH : (s.heap.push emptyDict).push (instObj B.C s.heap.objs.size) = H) : St B (ρ ++ [(s.heap.objs.size + 1, s.heap.objs.size)]) (σ ++ [.inst []]) { s with heap := H } ∧ Ext [] s.heap ρ H (ρ ++ [(s.heap.objs.size + 1, s.heap.objs.size)]) := by
  have g1 : ∀ b o, s.heap.get? b = some o → H.get? b = some o := fun b o e => hH ▸ Heap.get?_push_of_some _ (Heap.get?_push_of_some _ e)
  have hx : H.get? (s.heap.objs.size + 1) = some (instObj B.C s.heap.objs.size) := by
    have := Heap.get?_push_size (s.heap.push emptyDict) (o := instObj B.C s.heap.objs.size) rfl
    rw [Heap.size_push, hH] at this
    exact this
  have hdx : H.get? s.heap.objs.size = some emptyDict := hH ▸ Heap.get?_push_of_some _ (Heap.get?_push_size _ rfl)
  exact S.new (h' := H) (tk := s.toks) (d := s.drawn) (p := (s.heap.objs.size + 1, s.heap.objs.size)) (o := .inst []) g1 (Heap.get?_none_of_le (Nat.le_succ _)) (get?_size _) ⟨_, hx⟩ ⟨_, hdx⟩
    ⟨(Nat.succ_ne_self _).symm, _, fun _ => none, hx, rfl, (fun _ e => nomatch e), rfl, ⟨_, #[], 0, hdx, rfl, (fun e he => nomatch he), List.Pairwise.nil, fun _ => rfl⟩, fun _ => rfl⟩
theorem zip_unmap {α β : Type} : ∀ l : List (α × β), l = (l.map (·.1)).zip (l.map (·.2))
  | [] => rfl
  | x :: r => congrArg (x :: ·) (zip_unmap r)
theorem kws2 {m p : AV} {kws : List (Str × Value)} (rk : RepKs B h ρ [(nMemory, m), (nPc, p)] kws) : ∃ wm wp, kws = [(nMemory, wm), (nPc, wp)] ∧ RepV B h ρ m wm ∧ RepV B h ρ p wp := by
  obtain ⟨n1, r⟩ := rk
  have e := zip_unmap kws
  rw [n1] at e
  generalize kws.map (·.2) = ws at e r
  cases r with | cons a b => cases b with | cons b1 b2 => cases b2; exact ⟨_, _, e, a, b1⟩
theorem sound_cls (ok : Ok B G) (sn : Snd prog w B I d) {pa : Arguments} {bo : List Stmt} {vs : List AV} {ks : List (Str × AV)} {ws : List Value} {kws : List (Str × Value)} {K : KV} {Q : Value → Shared → Prop} (hd : defOf (clsFind initName G.body) = some (pa, bo, sc))
    (k : bodyI I (bindC pa (.loc σ.length) vs ks) bo sc (σ ++ [.inst []]) fun r σ1 => match r with | .none => K (.loc σ.length) σ1 | _ => False) (S : St B ρ σ s) (ao : AOk (d + 1) A) (r : RepVs B s.heap ρ vs ws) (rk : RepKs B s.heap ρ ks kws) :
    Kept (model prog w) (.ref B.C) s.heap ∧ wpAny (model prog w) A (call (.ref B.C) ws kws) (PV B ρ s.heap K) no s := by
  obtain ⟨fv, _, _, hl, fn, hw⟩ := ok.meth hd
  obtain ⟨f, fo, fd, rfl, hf, hfc, hfd⟩ := ok.ref fn
  obtain ⟨kp, go⟩ := cls_call (prog := prog) (w := w) (A := A) (ws := ws) (kws := kws) (Q := PV B ρ s.heap K) ok S hl hf hfc hfd
  refine ⟨kp, go ?_⟩
  clear go kp hl hf
  cases hL : bindC pa (.loc σ.length) vs ks with
  | none => rw [hL] at k; exact k.elim
  | some L =>
    rw [hL] at k
    obtain ⟨m, p, rfl, rfl, p1, p2, p3, p4, p5, ⟨a, b, c', e1, e2, e3, e4⟩, rfl⟩ := bindC_inv hL
    cases r
    obtain ⟨wm, wp, rfl, rm, rp⟩ := kws2 rk
    generalize hH : (s.heap.push emptyDict).push (instObj B.C s.heap.objs.size) = H
    obtain ⟨S1, E1⟩ := S.newInst hH
    have hself : (ρ ++ [(s.heap.objs.size + 1, s.heap.objs.size)])[σ.length]? = some (s.heap.objs.size + 1, s.heap.objs.size) := S.lenAt
    have rr : RepVs B H (ρ ++ [(s.heap.objs.size + 1, s.heap.objs.size)]) [.loc σ.length, m, p] [.ref (s.heap.objs.size + 1), wm, wp] := .cons (.loc _ _ hself) (.cons (rm.ext0 E1) (.cons (rp.ext0 E1) .nil))
    refine sound_body ok sn (binds := fun _ => [nSelf, nMemory, nPc].zip [.ref (s.heap.objs.size + 1), wm, wp]) fn hw k S1 (by have := ao.depth; rw [depth_under_kw, recursionLimit]; omega) (fun env => ?_) (fun L fd hL hp ⟨dv', hd', hcv'⟩ => ?_) (fun L hL => ?_) (fun L hL x v hv => ?_) (fun v s' ⟨av, σ1, ρ1, rv1, S2, E2, k2⟩ => ?_)
    · refine ⟨?_, ?_, ao.handled⟩
      · show (A.under _).depth + 1 + 2 * d ≤ 900
        rw [depth_under_kw]
        have := ao.depth
        omega
      · show A.units + 1 + 3 + 8 * d ≤ 9000
        have := ao.units
        omega
    · subst hp
      rcases hd' with ⟨z, _⟩ | ⟨_, T, eT, _, hT⟩
      · have := (ConstVals.len hcv').trans p5; rw [z] at this; cases this
      · exact bind_init p1 p2 p3 p4 e1 e2 e3 e4 eT (S1.keep _ _ (ok.lift _ _ (ty_none _) hT)) rfl ((ConstVals.len hcv').trans p5)
    · cases hL; rfl
    · cases hL
      exact lookS_zip (ns := [nSelf, nMemory, nPc]) rr rfl (nodupS_iff (by decide +kernel)) hv
    · cases av with
      | none => cases rv1; exact ⟨rfl, PV.of (.loc _ _ (E2.at hself)) S2 (E1.trans E2) k2⟩
      | _ => exact False.elim k2
end
end Mine
end
section
set_option maxRecDepth 100000
set_option linter.unusedVariables false
open PySem PySem.W PyProof.Rows PySem.Claim2Try PySem.Pin
namespace Mine
section
variable {prog : Program} {w : World} {B : Bs} {G : Pg} {I : In} {d : Nat} {A : Around} {E : Value → Shared → Prop} {env : Env} {sc : Scope} {ρ ρ' : Rho} {σ : Hp} {s : Shared} {L : Loc} {h : Heap}
inductive FnK (I : In) (o : Option Stmt) (vs : List AV) (σ : Hp) (K : KV) (kws : List (Str × Value)) : Prop
  | mk (hk : kws = []) (pa : Arguments) (bo : List Stmt) (sc : Scope) (hd : defOf o = some (pa, bo, sc)) (k : bodyI I (bindI pa vs) bo sc σ K) : FnK I o vs σ K kws
theorem fnI_inv {o : Option Stmt} {vs : List AV} {ks : List (Str × AV)} {K : KV} {kws : List (Str × Value)} (k : fnI I (defOf o) vs ks σ K) (rk : RepKs B h ρ ks kws) : FnK I o vs σ K kws := by
  cases hd : defOf o with
  | none => rw [hd] at k; exact k.elim
  | some x =>
    obtain ⟨pa, bo, sc⟩ := x
    rw [hd] at k
    obtain ⟨c, k⟩ := condF k
    rw [List.isEmpty_iff] at c
    subst c
    exact ⟨rk.nil_inv, pa, bo, sc, hd, k⟩
theorem call_dget {dd : Addr} {key dflt : Value} {i : Int} {kvs : List (Int × Value)} {Q : Value → Shared → Prop} (hk : Value.isInt i key = true) (hd : (dd == sysModules) = false) (hD : s.heap.DictOf (intKind prog w) dd kvs) (q : Q ((valueAt kvs i).getD dflt) { s with toks := s.toks + 1 }) :
    wpAny (model prog w) A (call (.builtin "dict.get") [.ref dd, key, dflt]) Q no s :=
  call_meetsIn F.slot_dict_get hD.typeIs F.entry_dict_get (F.args_dict_get_3 _ _ _) (meets_dict_get_default (intKind prog w) dd hk hd dflt) ⟨_, hD.mapOf, q⟩
theorem appK_inv {vs : List AV} {K : KV} (k : appK vs σ K) : ∃ n v, vs = [.loc n, v] ∧ appendI n v σ fun σ1 => K .none σ1 := by
  cases vs with
  | nil => exact False.elim k
  | cons a r =>
    cases r with
    | nil => exact False.elim (by cases a <;> exact k)
    | cons b r2 =>
      cases r2 with
      | cons _ _ => exact False.elim (by cases a <;> exact k)
      | nil =>
        cases a with
        | loc n => exact ⟨n, b, rfl, k⟩
        | _ => exact False.elim k
theorem dgetK_inv {vs : List AV} {K : KV} (k : dgetK vs σ K) : ∃ d i u, vs = [d, .int i, u] ∧ dictAtK σ d fun _ es => K ((lookK i es).getD u) σ := by
  cases vs with
  | nil => exact False.elim k
  | cons a r =>
    cases r with
    | nil => exact False.elim k
    | cons b r2 =>
      cases r2 with
      | nil => exact False.elim (by cases b <;> exact k)
      | cons c r3 =>
        cases r3 with
        | cons _ _ => exact False.elim (by cases b <;> exact k)
        | nil =>
          cases b with
          | int i => exact ⟨a, i, c, rfl, k⟩
          | _ => exact False.elim k
theorem _root_.Mine.St.lenR (S : St B ρ σ s) {v : AV} {u : Value} {k : Nat} (hl : lenOf σ v = some k) (r : RepV B s.heap ρ v u) : ∃ x its e, u = .ref x ∧ s.heap.get? x = some (listOf its e) ∧ its.size = k ∧ k ≤ 1000000 := by
  cases v with
  | loc n =>
    obtain ⟨p, its, e, hp, rfl, _, hl, hsz, hk, _⟩ := S.listAt (n := n) (k := k) hl r
    exact ⟨_, its, e, rfl, hl, hsz, hk⟩
  | fnum n f =>
    cases hl
    cases r with | fnum _ _ a its e hno h3 h4 h5 h6 => exact ⟨_, its, e, rfl, h3, h4, h5⟩
  | _ => cases hl
theorem sound_bi {id : String} {vs : List AV} {K : KV} {ws : List Value} (k : biI id vs σ K) (S : St B ρ σ s) (r : RepVs B s.heap ρ vs ws) : wpAny (model prog w) A (call (.builtin id) ws []) (PV B ρ s.heap K) no s := by
  unfold biI at k
  cases h1 : id == "len" with
  | true =>
    rw [h1] at k
    obtain rfl := beq_iff_eq.mp h1
    obtain ⟨v, rfl, k⟩ := oneArg_inv k
    obtain ⟨kk, hlen, k⟩ := someK_inv k
    cases r with | cons a b =>
    cases b
    obtain ⟨x, its, e, rfl, hl, hsz, hk⟩ := S.lenR hlen a
    refine Calls.call_len_list (isList_x hl) (by omega) (PV.of ?_ S.toks (.refl ..) k)
    rw [hsz]
    exact .int _ _
  | false =>
  rw [h1] at k
  cases h2 : id == "list.append" with
  | true =>
    rw [h2] at k
    obtain rfl := beq_iff_eq.mp h2
    obtain ⟨n, v, rfl, k⟩ := appK_inv k
    cases r with | cons a b =>
    cases b with | cons b c =>
    cases c
    obtain ⟨p, hp, rfl⟩ := a.loc_inv
    exact sound_append k S hp b fun σ' s' S' E' k => PV.of .none S' E' k
  | false =>
  rw [h2] at k
  obtain ⟨h3, k⟩ := condF k
  obtain rfl := beq_iff_eq.mp h3
  obtain ⟨dv, i, u, rfl, k⟩ := dgetK_inv k
  have k0 := dictAtK_inv k
  clear k
  obtain ⟨n, ep, es, rfl, hn, k9⟩ := k0
  cases r with | cons a b =>
  cases b with | cons b c =>
  cases c with | cons c e =>
  cases e
  obtain ⟨p, kvs, ep', hp, rfl, _, e2, _, _, hD, rp⟩ := S.dictR hn a
  obtain ⟨t, rfl⟩ := b.int_inv
  refine call_dget (isInt_self i t) e2 (hD prog w).dictOf ?_
  rcases rp.look i with ⟨e1, e3⟩ | ⟨z, u', e1, e3, rz⟩
  · rw [e3]; rw [e1] at k9; exact PV.of c S.toks (.refl ..) k9
  · rw [e3]; rw [e1] at k9; exact PV.of rz S.toks (.refl ..) k9
theorem sound_caB (ok : Ok B G) (sn : Snd prog w B I d) {f : AV} {vs : List AV} {ks : List (Str × AV)} {K : KV} {fw : Value} {ws : List Value} {kws : List (Str × Value)} (k : caB G I f vs ks σ K) (ao : AOk (d + 1) A) (S : St B ρ σ s) (rf : RepV B s.heap ρ f fw) (r : RepVs B s.heap ρ vs ws) (rk : RepKs B s.heap ρ ks kws) :
    Kept (model prog w) fw s.heap ∧ wpAny (model prog w) A (call fw ws kws) (PV B ρ s.heap K) no s := by
  cases f with
  | fn x =>
    have k0 := fnI_inv k rk
    clear k
    obtain ⟨rfl, pa, bo, sc', hd, k⟩ := k0
    obtain ⟨v, n, hv, fn, hw⟩ := ok.fn _ _ _ _ hd
    have e : fw = v := by cases rf with | fn _ _ q => rw [hv] at q; cases q; rfl
    subst e
    obtain ⟨a, o, fd, rfl, hf, _, hd⟩ := ok.ref fn
    exact ⟨kept_fn (S.keep _ _ hf) hd, wpAny_call (sound_fn ok sn fn (fun e => absurd e (by rw [hw]; exact Bool.false_ne_true)) k S ao r fun v s' q => q)⟩
  | mth x =>
    have k0 := fnI_inv k rk
    clear k
    obtain ⟨rfl, pa, bo, sc', hd, k⟩ := k0
    obtain ⟨v, n, q, hv, fn, hw⟩ := ok.meth hd
    have e : fw = v := by cases rf with | mth _ _ q => rw [hv] at q; cases q; rfl
    subst e
    obtain ⟨a, o, fd, rfl, hf, _, hd⟩ := ok.ref fn
    exact ⟨kept_fn (S.keep _ _ hf) hd, wpAny_call (sound_fn ok sn fn hw k S ao r fun v s' q => q)⟩
  | bm x n0 =>
    have k0 := fnI_inv k rk
    clear k
    obtain ⟨rfl, pa, bo, sc', hd, k⟩ := k0
    cases rf with | bm _ _ a f p hno ho hl hp =>
    obtain ⟨v, n, q, hv, fn, hw⟩ := ok.meth hd
    rw [hl] at hv
    cases hv
    obtain ⟨a', o, fd, e, hf, _, hd⟩ := ok.ref fn
    cases e
    exact ⟨kept_bm ho (S.keep _ _ hf) hd, wpAny_call (ks_codeAny_call_bound ho (sound_fn ok sn fn hw k S ao (.cons (.loc n0 p hp) r) fun v s' q => q))⟩
  | cls =>
    have k : clsI I (defOf (clsFind initName G.body)) vs ks σ K := k
    cases hd : defOf (clsFind initName G.body) with
    | none => rw [hd] at k; exact k.elim
    | some x =>
      obtain ⟨pa, bo, sc⟩ := x
      rw [hd] at k
      cases rf
      exact sound_cls ok sn (Q := no) hd k S ao r rk
  | bi id =>
    obtain ⟨c, k⟩ := condF k
    rw [List.isEmpty_iff] at c
    subst c
    rw [rk.nil_inv]
    cases rf
    refine ⟨⟨.machine, .inr (.inl rfl), .now⟩, ?_⟩
    exact sound_bi k S r
  | ty id =>
    obtain ⟨c, k⟩ := condF k
    rw [Bool.and_eq_true, List.isEmpty_iff] at c
    obtain ⟨hid, rfl⟩ := c
    obtain rfl := beq_iff_eq.mp hid
    obtain ⟨b, rfl, k⟩ := numK_inv k
    obtain ⟨hc, k⟩ := condF k
    rw [rk.nil_inv]
    cases rf
    cases r with | cons a b' =>
    cases b'
    obtain ⟨t, rfl⟩ := a.int_inv
    have E1 : Ext [] s.heap ρ (s.heap.push (rngObj 0 b s.toks t (s.toks + 1))) ρ := .push _
    exact ⟨⟨.machine, .inr (.inl rfl), .now⟩, call_range_1 (PV.of (.rng 0 b _ s.toks t (s.toks + 1) (S.notOwn (get?_size _)) (Heap.get?_push_size _ rfl)) (S.push _) E1 k)⟩
  | _ => exact False.elim k
theorem Snd.mk' (ok : Ok B G) (sn : Snd prog w B I d) : Snd prog w B (mkIn G I) (d + 1) where
  ev k _ _ _ _ ao eo S l := sound_evB ok sn (ao.less (Nat.le_succ d)) ao eo k S l
  ts k _ _ _ _ ao eo S l := sound_tsB (G := G) sn (ao.less (Nat.le_succ d)) eo k S l
  ca k _ _ _ _ _ _ ao S rf r rk := sound_caB ok sn k ao S rf r rk
  ex k _ _ _ _ ao eo S l := sound_exB ok sn (ao.less (Nat.le_succ d)) eo k S l
theorem Snd.fail : Snd prog w B inFail 0 := ⟨fun k => k.elim, fun k => k.elim, fun k => k.elim, fun k => k.elim⟩
theorem sound (ok : Ok B G) : ∀ n, Snd prog w B (inN G n) n
  | 0 => .fail
  | n + 1 => (sound ok n).mk' ok
end
end Mine
end
section
set_option maxRecDepth 100000
set_option linter.unusedVariables false
open PySem PySem.W PyProof.Rows PySem.Claim2Try PySem.Pin Builtin Builtin.ObjectAttr
namespace Mine
theorem no_b {b : Bool} {C : Prop} (e : false = b) (h : b = true) : C := absurd (e.trans h) Bool.false_ne_true
theorem has_int {d : WData} (h : WShape.has [] d .int = true) : ∃ i, d = .int i := by
  cases d with
  | int i => exact ⟨i, rfl⟩
  | _ => exact no_b (by kernel_rfl) h
theorem items_cons (x : WData) (r : List WData) : WShape.hasItems [] (x :: r) .int = (WShape.has [] x .int && WShape.hasItems [] r .int) := by kernel_rfl
theorem items_int : ∀ {xs : List WData}, WShape.hasItems [] xs .int = true → ∃ ns : List Int, xs = ns.map .int
  | [], _ => ⟨[], rfl⟩
  | x :: r, h => by
    rw [items_cons, Bool.and_eq_true] at h
    obtain ⟨i, rfl⟩ := has_int h.1
    obtain ⟨ns, rfl⟩ := items_int h.2
    exact ⟨i :: ns, rfl⟩
theorem has_lst (xs : List WData) : WShape.has [] (.list xs) (.list .int) = (WShape.hasItems [] xs .int || false) := by kernel_rfl
theorem has_list {d : WData} (h : WShape.has [] d (.list .int) = true) : ∃ ns : List Int, d = .list (ns.map .int) := by
  cases d with
  | list xs =>
    rw [has_lst, Bool.or_false] at h
    obtain ⟨ns, rfl⟩ := items_int h
    exact ⟨ns, rfl⟩
  | _ => exact no_b (by kernel_rfl) h
theorem all_one (d : WData) (r : List WData) : WShape.hasAll [] (d :: r) [.list .int] = (WShape.has [] d (.list .int) && WShape.hasAll [] r []) := by kernel_rfl
noncomputable def andF (b : Bool) : Bool := match (match b with | false => some (WData.bool false) | true => some (WData.bool true)) with
  | some (.bool true) => true
  | _ => false
theorem pre_at (xs : List WData) : WTm.holds [] (.and (.not (.lt (.lit (.int (63 : Nat))) (.len (.arg 0)))) (.lit (.bool true))) { args := [.list xs] } = andF (!decide (((63 : Nat) : Int) < (xs.length : Int))) := by kernel_rfl
theorem args_of {l : OpenLaw} (hm : l.most = some 63) (hb : l.bound = none) {args : List WData} (h : l.row.toRowW.claim.pre args = true) : ∃ ns : List Int, args = [.list (ns.map .int)] ∧ ns.length ≤ 63 := by
  obtain ⟨h1, h2⟩ := pre_splitW h
  have h1 : WShape.hasAll [] args [.list .int] = true := h1
  cases args with
  | nil => exact no_b (by kernel_rfl) h1
  | cons d r =>
    rw [all_one, Bool.and_eq_true] at h1
    obtain ⟨ns, rfl⟩ := has_list h1.1
    cases r with
    | cons _ _ => exact no_b (by kernel_rfl) h1.2
    | nil =>
      refine ⟨ns, rfl, ?_⟩
      have h2 : WTm.holds [] l.pre { args := [.list (ns.map .int)] } = true := h2
      unfold OpenLaw.pre at h2
      rw [hm, hb] at h2
      have h2 := (pre_at (ns.map .int)).symm.trans h2
      rw [List.length_map] at h2
      cases hd : decide (((63 : Nat) : Int) < (ns.length : Int)) with
      | true => rw [hd] at h2; exact no_b rfl h2
      | false =>
        have := of_decide_eq_false hd
        clear h2 h1 h hm hb
        omega
theorem reads_ints {cl : Str → Option Addr} {h : Heap} : ∀ {ns : List Int} {vs : List Value} {as : List Addr}, ReadsAllW [] cl h vs (ns.map .int) as → vs.length = ns.length ∧ ∀ i, i < ns.length → ∃ t, vs[i]? = some (.int (getI ns i) t)
  | [], vs, as, r => by cases r; exact ⟨rfl, fun i hi => absurd hi (Nat.not_lt_zero _)⟩
  | n :: ns, vs, as, r => by
    cases r with | cons a b =>
    cases a with | int _ t =>
    obtain ⟨h1, h2⟩ := reads_ints b
    refine ⟨by rw [List.length_cons, List.length_cons, h1], fun i hi => ?_⟩
    cases i with
    | zero => exact ⟨t, rfl⟩
    | succ i => exact h2 i (Nat.lt_of_succ_lt_succ hi)
theorem post_true (args : List WData) : (WShape.has [] (.bool true) .bool && WTm.holds [] (.eq .res (.lit (.bool true))) { args := args, res := some (.bool true), after := args }) = true := by kernel_rfl
/-- the end: the law gives True -/
theorem call_good {l : OpenLaw} {w : World} {B : Bs} {args : List WData} {s s₁ : Shared} {fw : Value} {n : Nat} {G : Pg} {pos : Pos} (ok : Ok B G) (hB : B.hb = s₁.heap.hide B.tb) (hT : s₁.heap.TableAt B.cw B.tb #[]) (hos : B.os = s₁.os) (hg : s₁.gens = #[]) (hn : n ≤ 250)
    (hf : B.mg l.name = some fw) (k : (inN G n).ca (.fn l.name) [.given] [] [.tab pos] fun v σ => v = .bool true ∧ ∃ q, nth σ 0 = some (.tab q)) :
    wpAny (model l.prog w) callerA (PySem.call fw [.ref B.scr]) (fun v s' => GoodWG l.row.toRowW.claim (classAt s.heap) (ExcName.means s.heap) args s₁ (.ok (.ret v)) s') (fun _ _ => False) s₁ := by
  have one : ∀ {n : Nat} {p : Addr × Addr}, [(B.tb, B.tb)][n]? = some p → n = 0 ∧ p = (B.tb, B.tb) := fun {n p} h => by
    cases n with
    | zero => cases h; exact ⟨rfl, rfl⟩
    | succ n => cases h
  have S : St B [(B.tb, B.tb)] [.tab pos] s₁ := ⟨fun b o e => Heap.of_hide (hB ▸ e), rfl, fun n p o hp ho => by
      obtain ⟨rfl, rfl⟩ := one hp
      cases ho
      exact ⟨rfl, rfl, .inl hT.2⟩, fun i j p q hij hp hq => absurd ((one hp).1.trans (one hq).1.symm) hij, fun p hp => by
      rw [List.mem_singleton.mp hp, hB]
      exact ⟨Heap.hide_self .., Heap.hide_self ..⟩, fun p hp => by
      rw [List.mem_singleton.mp hp]
      exact ⟨⟨_, hT.2⟩, ⟨_, hT.2⟩⟩, hg, hos.symm⟩
  have ao : AOk n callerA := ⟨by show 1 + claimMargin + 2 * n ≤ 900; rw [claimMargin]; omega, by show 4 + 8 * n ≤ 9000; omega, rfl⟩
  refine wpAny_mono ((sound (prog := l.prog) (w := w) ok n).ca k ao S (.fn _ _ hf) (.cons .given .nil) ⟨rfl, .nil⟩).2 (fun v s' ⟨av, σ', ρ', r, S', E', ka⟩ => ?_) fun _ _ z => z
  obtain ⟨rfl, q, hq⟩ := ka
  rw [nth_eq] at hq
  rw [r.bool_inv]
  have hp : ρ'[0]? = some (B.tb, B.tb) := E'.at (n := 0) (p := (B.tb, B.tb)) rfl
  obtain ⟨_, _, alt⟩ := S'.obj 0 _ _ hp hq
  have tb : (∃ o, s'.heap.get? B.tb = some o) ∧ asItWas s₁.heap s'.heap B.tb (tabObj #[]) := by
    rcases alt with e | ⟨c, e, _⟩
    · exact ⟨⟨_, e⟩, .inl e⟩
    · have e : s'.heap.get? B.tb = some (tabObj #[rawInt q.line, rawInt q.col, .ref c]) := e
      exact ⟨⟨_, e⟩, .inr (.inl ⟨hT.isCodeTable, rfl, #[], #[rawInt q.line, rawInt q.col, .ref c], rfl, by rw [Array.empty_append]; exact e⟩)⟩
  have kp : ∀ b o, b ≠ B.tb → s₁.heap.get? b = some o → s'.heap.get? b = some o := fun b o hb e => S'.keep b o (by rw [hB, Heap.hide_ne _ hb]; exact e)
  refine ⟨.inl ⟨.bool true, .bool true, [], rfl, fun _ => rfl, .bool true, ?_, fun _ => ⟨List.nodup_nil, (fun _ q => nomatch q)⟩⟩, ⟨fun b o e => ?_, fun b o e => ?_⟩, S'.os.trans hos, .of_eq S'.gens⟩
  · exact post_true args
  · by_cases hb : b = B.tb
    · subst hb
      rw [hT.2] at e
      cases e
      exact tb.2
    · exact .inl (kp b o hb e)
  · by_cases hb : b = B.tb
    · rw [hb]; exact tb.1
    · exact ⟨o, kp b o hb e⟩
end Mine
end
section
set_option maxRecDepth 100000
set_option linter.unusedVariables false
open PySem PySem.W PyProof.Rows PySem.Claim2Try PySem.Pin Builtin Builtin.ObjectAttr
namespace Mine
noncomputable def memN (x : Nat) : List Nat → Bool
  | [] => false
  | y :: r => cond (Nat.beq x y) true (memN x r)
theorem memN_ne {x : Str} : ∀ {l : List Str}, memN (codeS x) (l.map codeS) = false → x ∉ l
  | [], _ => fun q => nomatch q
  | y :: r, h => by
    rw [List.map_cons] at h
    unfold memN at h
    cases hq : Nat.beq (codeS x) (codeS y) with
    | true => rw [hq] at h; cases h
    | false =>
      rw [hq] at h
      intro q
      rcases List.mem_cons.mp q with rfl | q
      · rw [Nat.beq_refl] at hq; cases hq
      · exact memN_ne h q
/-- each name once; a list's names stand before it -/
noncomputable def bodyUniq : List Stmt → Bool
  | [] => true
  | st :: r => !memN (codeS (nameOf st)) ((r.map nameOf).map codeS) && ((namesRead st).all fun y => !memN (codeS y) (((st :: r).map nameOf).map codeS)) && bodyUniq r
noncomputable def isDefS (st : Stmt) : Bool := (defOf (some st)).isSome || isClsO (some st)
noncomputable def topUniq : List Stmt → Bool
  | [] => true
  | st :: r => cond (isDefS st) (!memN (codeS (topName st)) ((r.map topName).map codeS)) true && topUniq r
noncomputable def specials : List Str := ["__doc__", "__weakref__", "__dict__", "__qualname__", "__static_attributes__", "__module__", "__firstlineno__"]
/-- no name of the class is one of these -/
noncomputable def noneOf (b : List Stmt) (xs : List Str) : Bool := xs.all fun x => !memN (codeS x) ((b.map nameOf).map codeS)
noncomputable def bodyOkB (b : List Stmt) : Bool :=
  bodyUniq b && noneOf b specials && noneOf b ivars && noneOf b ["__getattribute__", "__getattr__", "__setattr__", "__name__", "__annotations__"] && (b.all fun st => (namesRead st).all fun y => !memN (codeS y) (specials.map codeS))
theorem all_ne {b : List Stmt} {x : Str} (h : x ∉ b.map nameOf) : (b.all fun st => nameOf st != x) = true := by
  rw [List.all_eq_true]
  intro st hst
  rw [bne_iff_ne]
  intro e
  exact h (e ▸ List.mem_map_of_mem hst)
theorem noneOf_at {b : List Stmt} {xs : List Str} {x : Str} (h : noneOf b xs = true) (hx : x ∈ xs) : x ∉ b.map nameOf := by
  have := List.all_eq_true.mp h x hx
  simp only [Bool.not_eq_true'] at this
  exact memN_ne this
theorem Items.mono {l l' : List (Str × Value)} {es : List Expr} {vs : List Value} (hi : Items l es vs) : (∀ y ∈ eltNames es, l'.lookup y = l.lookup y) → Items l' es vs := by
  induction hi with
  | nil => intro _; exact .nil
  | name h _ ih => intro q; exact .name ((q _ (List.mem_cons_self ..)).trans h) (ih fun y hy => q y (List.mem_cons_of_mem _ hy))
  | const h _ ih => intro q; exact .const h (ih q)
/-- what the class body leaves under a name -/
noncomputable abbrev MadeF (h : Heap) (lf : List (Str × Value)) : Stmt → Value → Prop := Made h 0 "MPU" lf
theorem BodyMade.find {h : Heap} {lo : Nat} {lf : List (Str × Value)} {x : Str} {st : Stmt} : ∀ {b : List Stmt} {l l' : List (Str × Value)}, BodyMade h lo "MPU" l b l' → bodyUniq b = true → clsFind x b = some st → (∀ y, y ∉ specials → lf.lookup y = l'.lookup y) → (∀ st' ∈ b, ∀ y ∈ namesRead st', y ∉ specials) →
    nameOf st = x ∧ ∃ v, l'.lookup x = some v ∧ MadeF h lf st v
  | [], _, _, _, _, e, _, _ => by cases e
  | s0 :: r, l, l', ⟨v, m, bm⟩, hu, e, hf, hsp => by
    unfold bodyUniq at hu
    simp only [Bool.and_eq_true, Bool.not_eq_true', List.all_eq_true] at hu
    obtain ⟨⟨h1, h2⟩, h3⟩ := hu
    unfold clsFind at e
    cases hq : eqS (nameOf s0) x with
    | false =>
      rw [hq] at e
      exact BodyMade.find bm h3 e hf fun st' hs => hsp st' (List.mem_cons_of_mem _ hs)
    | true =>
      rw [hq] at e
      cases e
      have hx := eqS_iff.mp hq
      subst hx
      refine ⟨rfl, v, ?_, ?_⟩
      · rw [BodyMade.ne bm (all_ne (memN_ne h1)), putP_lookup]
      · cases m with
        | asg x => exact .asg x
        | lst _ g it =>
          refine .lst (Nat.zero_le _) g (it.mono fun y hy => ?_)
          have hn := memN_ne (h2 y hy)
          rw [List.map_cons] at hn
          rw [hf y (hsp _ (List.mem_cons_self ..) y hy), BodyMade.ne bm (all_ne fun z => hn (List.mem_cons_of_mem _ z)), putP_lookup_ne fun z => hn (by rw [z]; exact List.mem_cons_self ..)]
        | fn x => exact .fn (x.lower (Nat.zero_le _))
theorem BodyMade.nameFind {x : Str} {st : Stmt} : ∀ {b : List Stmt}, clsFind x b = some st → x ∈ b.map nameOf
  | [], e => by cases e
  | s0 :: r, e => by
    unfold clsFind at e
    cases hq : eqS (nameOf s0) x with
    | true => rw [← eqS_iff.mp hq]; exact List.mem_cons_self ..
    | false => rw [hq] at e; exact List.mem_cons_of_mem _ (BodyMade.nameFind e)
theorem TopMade.find {h : Heap} {lo : Nat} {x : Str} {st : Stmt} : ∀ {b : List Stmt} {l l' : Str → Option Value}, TopMade h lo l b l' → topUniq b = true → topFind x b = some st → isDefS st = true → topName st = x ∧ ∃ v, l' x = some v ∧ TopOne h lo st v
  | [], _, _, _, _, e, _ => by cases e
  | s0 :: r, l, l', ⟨v, o, tm⟩, hu, e, hd => by
    unfold topUniq at hu
    rw [Bool.and_eq_true] at hu
    unfold topFind at e
    cases hq : eqS (topName s0) x with
    | false => rw [hq] at e; exact TopMade.find tm hu.2 e hd
    | true =>
      rw [hq] at e
      cases e
      have hx := eqS_iff.mp hq
      subst hx
      refine ⟨rfl, v, ?_, o⟩
      have hn : topName st ∉ r.map topName := by
        have h1 := hu.1
        rw [hd] at h1
        exact memN_ne ((Bool.not_eq_true' _).mp h1)
      rw [TopMade.ne tm]
      · exact if_pos rfl
      · rw [List.all_eq_true]
        intro st' hs
        rw [bne_iff_ne]
        intro z
        exact hn (z ▸ List.mem_map_of_mem hs)
theorem topFind_none {x : Str} : ∀ {b : List Stmt}, topFind x b = none → (b.all fun st => topName st != x) = true
  | [], _ => rfl
  | s0 :: r, e => by
    unfold topFind at e
    cases hq : eqS (topName s0) x with
    | true => rw [hq] at e; cases e
    | false =>
      rw [hq] at e
      rw [List.all_cons, topFind_none e, Bool.and_true, bne_iff_ne]
      exact eqS_ne hq
end Mine
end
section
set_option maxRecDepth 100000
set_option linter.unusedVariables false
open PySem PySem.W PyProof.Rows PySem.Claim2Try PySem.Pin Builtin Builtin.ObjectAttr
namespace Mine
theorem bb_len : bootBuiltins (Str.ofString "len") = some (.builtin "len") := by kernel_rfl
theorem bb_range : bootBuiltins (Str.ofString "range") = some (.type "range") := by kernel_rfl
theorem bb_enum : bootBuiltins (Str.ofString "enumerate") = some (.type "enumerate") := by kernel_rfl
theorem boot3 : ∀ x ∈ ([Str.ofString "len", Str.ofString "range", Str.ofString "enumerate"] : List Str), x ∉ bootMainNames ∧ x ≠ "__name__" := by decide +kernel
theorem ivar_own : (ivars.all fun a => (fastBuiltinOwn "object" a).isNone && !copiedNames.contains a && !memN (codeS a) (specials.map codeS)) = true := by decide +kernel
noncomputable def copied2 : List Str := ["__module__", "__name__", "__qualname__", "__doc__", "__annotations__"]
theorem cd_eta {cd : ClassData} {C N : Addr} (h1 : cd.mro = [.ref C, .type "object"]) (h2 : cd.ns = N) (h3 : cd.abstract = false) (h4 : cd.hasDel = false) (h5 : cd.hasDict = true) (h6 : cd.slotNames = []) (h7 : cd.bases = [.type "object"]) :
    cd = { name := cd.name, bases := [.type "object"], mro := .ref C :: [.type "object"], ns := N, qualname := cd.qualname, hasDict := true, slotNames := [], subclasses := cd.subclasses, abstract := false, collection := cd.collection, hasDel := false } := by
  obtain ⟨a, b, c, d, e, f, g, h, i, j, k⟩ := cd
  dsimp only at h1 h2 h3 h4 h5 h6 h7
  subst h1 h2 h3 h4 h5 h6 h7
  rfl
theorem topFind_mem {x : Str} {st : Stmt} : ∀ {b : List Stmt}, topFind x b = some st → st ∈ b
  | [], e => by cases e
  | s0 :: r, e => by
    unfold topFind at e
    cases hq : eqS (topName s0) x with
    | true => rw [hq] at e; cases e; exact List.mem_cons_self ..
    | false => rw [hq] at e; exact List.mem_cons_of_mem _ (topFind_mem e)
noncomputable def bodyOf (b : List Stmt) : List Stmt := match topFind "MPU" b with
  | some (.ClassDef _ _ _ b _ _ _ _ _ _ _) => b
  | _ => []
noncomputable def hasCls (b : List Stmt) : Bool := isClsO (topFind "MPU" b)
noncomputable def noW (st : Stmt) : Bool := match defOf (some st) with
  | some (_, _, sc) => !isW sc
  | none => true
noncomputable def wrapName : Str := "WrapAt"
/-- one function of the class makes a lambda -/
noncomputable def wOkB (b : List Stmt) : Bool := (defOf (clsFind wrapName b)).isSome && b.all fun st => noW st || eqS (nameOf st) wrapName
theorem noW_at {st : Stmt} {pa : Arguments} {bo : List Stmt} {sc : Scope} (h : noW st = true) (hd : defOf (some st) = some (pa, bo, sc)) : isW sc = false := by
  unfold noW at h
  rw [hd] at h
  exact Bool.not_eq_true' _ ▸ h
theorem clsFind_mem {x : Str} {st : Stmt} : ∀ {b : List Stmt}, clsFind x b = some st → st ∈ b ∧ nameOf st = x
  | [], e => by cases e
  | s0 :: r, e => by
    unfold clsFind at e
    cases hq : eqS (nameOf s0) x with
    | true => rw [hq] at e; cases e; exact ⟨List.mem_cons_self .., eqS_iff.mp hq⟩
    | false => rw [hq] at e; exact ⟨List.mem_cons_of_mem _ (clsFind_mem e).1, (clsFind_mem e).2⟩
/-- the whole look at the text -/
noncomputable def textOkB (p : Program) : Bool := topUniq (behindTheImports p) && hasCls (behindTheImports p) && bodyOkB (bodyOf (behindTheImports p)) && (behindTheImports p).all noW && wOkB (bodyOf (behindTheImports p))
noncomputable def pgOf (p : Program) (ns : List Int) : Pg := ⟨behindTheImports p, bodyOf (behindTheImports p), ns.length, getI ns⟩
inductive B5 (a b c d e : Bool) : Prop
  | mk (h1 : a = true) (h2 : b = true) (h3 : c = true) (h4 : d = true) (h5 : e = true) : B5 a b c d e
theorem and5 {a b c d e : Bool} (h : (a && b && c && d && e) = true) : B5 a b c d e := by
  rw [Bool.and_eq_true, Bool.and_eq_true, Bool.and_eq_true, Bool.and_eq_true] at h
  exact ⟨h.1.1.1.1, h.1.1.1.2, h.1.1.2, h.1.2, h.2⟩
theorem okOf {p : Program} {s s₁ : Shared} {ns : List Int} {a : Addr} {its : Array Value} (tok : TopOk p) (tx : textOkB p = true) (T : TopState p s.heap) (kp : ∀ b o, s.heap.get? b = some o → s₁.heap.get? b = some o) (hl : s₁.heap.IsList a its) (hsz : its.size = ns.length) (hns : ns.length ≤ 63) (hit : ∀ i, i < ns.length → ∃ t, its[i]? = some (.int (getI ns i) t)) :
    ∃ B : Bs, Ok B (pgOf p ns) ∧ B.hb = s₁.heap.hide B.tb ∧ s₁.heap.TableAt B.cw B.tb #[] ∧ B.os = s₁.os ∧ B.scr = a ∧ s₁.heap.Ns mainGlobals B.mg := by
  unfold textOkB at tx
  have tx5 := and5 tx
  clear tx
  obtain ⟨tu, tc, tb, tnw, twr⟩ := tx5
  obtain ⟨hb, mb, mg, c, Pl, mg', lo, BL, h1, h2, h3, g, made⟩ := T.st
  have tc : isClsO (topFind "MPU" (behindTheImports p)) = true := tc
  cases hfind : topFind "MPU" (behindTheImports p) with
  | none => rw [hfind] at tc; cases tc
  | some st =>
    rw [hfind] at tc
    obtain ⟨hname, v, hv, cm⟩ := made.find tu hfind (by unfold isDefS; rw [tc, Bool.or_true])
    cases cm with
    | asg => cases tc
    | fn _ => cases tc
    | @cls n b1 b2 body b4 b5 b6 b7 b8 b9 b10 C cm =>
    have hbody : bodyOf (behindTheImports p) = body := by unfold bodyOf; rw [hfind]
    rw [hbody] at tb twr
    unfold wOkB at twr
    rw [Bool.and_eq_true] at twr
    obtain ⟨nsA, Da, Wa, ft, cd, sl, nm, tm, tq, tf, fl, l', X, c1, c2, c3, c4, c5, c6, ⟨k0, k1, k2, k3, k5, c7⟩, c8, c9, bm⟩ := cm.made
    have tb5 := and5 (show (_ && _ && _ && _ && _) = true from tb)
    clear tb
    obtain ⟨t1, t2, t3, t4, t5⟩ := tb5
    generalize hlf : putP "__doc__" .none (putP "__weakref__" (.ref Wa) (putP "__dict__" (.ref Da) (dropP "__qualname__" (putP "__static_attributes__" (.ref ft) l')))) = lf at X
    have hlook : ∀ y, y ∉ specials → lf.lookup y = l'.lookup y := fun y hy => by
      have ne : ∀ z ∈ specials, y ≠ z := fun z hz q => hy (q ▸ hz)
      rw [← hlf, putP_lookup_ne (ne _ (by decide +kernel)), putP_lookup_ne (ne _ (by decide +kernel)), putP_lookup_ne (ne _ (by decide +kernel)), dropP_lookup_ne (ne _ (by decide +kernel)), putP_lookup_ne (ne _ (by decide +kernel))]
    have hbase : ∀ y, y ∉ specials → y ∉ body.map nameOf → lf.lookup y = none := fun y hy hn => by
      rw [hlook y hy, BodyMade.ne bm (all_ne hn)]
      have ne : ∀ z ∈ specials, (y == z) = false := fun z hz => beq_eq_false_iff_ne.mpr fun q => hy (q ▸ hz)
      rw [List.lookup_cons, ne _ (by decide +kernel), List.lookup_cons, ne _ (by decide +kernel), List.lookup_cons, ne _ (by decide +kernel)]
      rfl
    have hsp : ∀ st' ∈ body, ∀ y ∈ namesRead st', y ∉ specials := fun st' hs y hy => by
      have := List.all_eq_true.mp (List.all_eq_true.mp t5 st' hs) y hy
      simp only [Bool.not_eq_true'] at this
      exact memN_ne this
    obtain ⟨⟨wpa, wbo, wsc⟩, hwd⟩ := Option.isSome_iff_exists.mp twr.1
    have hwf : ∃ st, clsFind wrapName body = some st ∧ defOf (some st) = some (wpa, wbo, wsc) := by
      cases hw : clsFind wrapName body with
      | none => rw [hw] at hwd; cases hwd
      | some st => exact ⟨st, rfl, hw ▸ hwd⟩
    obtain ⟨wst, hwst, hwdef⟩ := hwf
    obtain ⟨_, wv, hwv, wmf⟩ := BodyMade.find (lf := lf) bm t1 hwst hlook hsp
    have hwl : lf.lookup wrapName = some wv := (hlook wrapName (fun q => noneOf_at t2 q (BodyMade.nameFind hwst))).trans hwv
    have wfn : ∃ n q, FnAt s.heap 0 wv n q wpa wbo wsc := by
      cases wmf with
      | asg _ => cases hwdef
      | lst _ _ _ => cases hwdef
      | fn f => cases hwdef; exact ⟨_, _, f⟩
    obtain ⟨wn, wq, a0, dV0, pm0, c0, doc0, P0, dv0, rfl, _, _, _, ho0, hr0, hi0, ht0, _, _⟩ := wfn
    have kh : ∀ b o, o ≠ tabObj #[] → s₁.heap.get? b = some o → (s₁.heap.hide P0).get? b = some o := fun b o hne e => by
      by_cases hb : b = P0
      · subst hb
        have := kp _ _ ht0.2
        rw [e] at this
        exact (hne (Option.some.inj this)).elim
      · rw [Heap.hide_ne _ hb]; exact e
    have khNs : ∀ {x : Addr} {m : Str → Option Value}, s₁.heap.Ns x m → (s₁.heap.hide P0).Ns x m := fun {x m} ⟨o, es, ep, ho, hd, r⟩ => ⟨o, es, ep, kh _ _ (fun q => by rw [q] at hd; cases hd) ho, hd, r⟩
    refine ⟨⟨s₁.heap.hide P0, s₁.heap, s₁.os, mg', mb, C, nsA, lf, a, c0, P0, (wq ++ ".<locals>.") ++ "<lambda>"⟩, ?_, rfl, ht0.keeps kp, rfl, rfl, g.keeps kp⟩
    have bltNe : builtinsNs ≠ mainGlobals := by decide
    have stNe : cStatics ≠ mainGlobals := by decide
    have three : ∀ x, x ∈ ([Str.ofString "len", Str.ofString "range", Str.ofString "enumerate"] : List Str) → topFind x (behindTheImports p) = none → mg' x = none ∧ mb x = bootBuiltins x := fun x hx hn => by
      obtain ⟨q1, q2⟩ := boot3 x hx
      exact ⟨(made.ne (topFind_none hn)).trans (BL.others x q1), BL.builtins x q2⟩
    refine ⟨khNs (g.keeps kp), khNs ((BL.b.at fun o e => h3 _ _ bltNe e).keeps kp), ⟨fun _ => none, khNs ((BL.statics.at fun o e => h3 _ _ stNe e).keeps kp), rfl⟩, ?_, ?_, ?_, ?_, ?_, ?_, ?_, ?_, ?_, ?_, ?_, ?_, fun b o hc e => kh b o (fun q => hc (by rw [q])) e, ?_, ?_, ?_⟩
    · intro x pa bo sc hd
      cases ht : topFind x (pgOf p ns).top with
      | none => rw [ht] at hd; cases hd
      | some st =>
        rw [ht] at hd
        obtain ⟨_, v', hv', fn⟩ := made.find tu ht (by unfold isDefS; rw [hd]; rfl)
        cases fn with
        | asg => cases hd
        | cls _ => cases hd
        | fn fn => 
          have hnw := noW_at (List.all_eq_true.mp tnw _ (topFind_mem ht)) hd
          cases hd; exact ⟨v', _, hv', (fn.lower (Nat.zero_le _)).keeps fun b o _ e => kp b o e, hnw⟩
    · intro x hc
      cases ht : topFind x (pgOf p ns).top with
      | none => rw [ht] at hc; cases hc
      | some st =>
        rw [ht] at hc
        obtain ⟨hx, v', hv', cm'⟩ := made.find tu ht (by unfold isDefS; rw [hc, Bool.or_true])
        cases topStmt_cases (List.all_eq_true.mp tok.stmts _ (topFind_mem ht)) with
        | asg _ _ _ _ _ => cases hc
        | fn _ _ _ _ _ _ _ => cases hc
        | cls _ _ _ _ _ =>
          have hx : ("MPU" : Str) = x := hx
          rw [← hx]
          exact hv
    · intro ht
      obtain ⟨q1, q2⟩ := three _ (by simp) ht
      exact ⟨q1, q2.trans bb_len⟩
    · intro ht
      obtain ⟨q1, q2⟩ := three _ (by simp) ht
      exact ⟨q1, q2.trans bb_range⟩
    · intro ht
      obtain ⟨q1, q2⟩ := three _ (by simp) ht
      exact ⟨q1, q2.trans bb_enum⟩
    · refine ⟨cd.name, cd.qualname, cd.subclasses, cd.collection, k0, k1, k2, k3, k5, ?_⟩
      have := kp _ _ X.obj
      rw [cd_eta X.mro X.at_ c2 c3 c4 c5 c6, c7] at this
      exact kh _ _ (fun q => nomatch congrArg Obj.data q) this
    · obtain ⟨es, n, hN, r⟩ := X.names.keeps kp
      exact ⟨es, n, kh _ _ (fun q => nomatch congrArg Obj.data q) hN, r⟩
    · intro x st hst
      rw [show (pgOf p ns).body = body from hbody] at hst
      obtain ⟨_, v', hv', mf⟩ := BodyMade.find (lf := lf) bm t1 hst hlook hsp
      have hxs : x ∉ specials := fun q => noneOf_at t2 q (BodyMade.nameFind hst)
      refine ⟨v', (hlook x hxs).trans hv', ?_⟩
      exact mf.keeps fun b o _ e => kp b o e
    · intro x st hst
      rw [show (pgOf p ns).body = body from hbody] at hst
      have hm := BodyMade.nameFind hst
      cases hc : copiedNames.contains x with
      | false => rfl
      | true =>
        exfalso
        have hx : x ∈ copiedNames := by simpa using hc
        have : x ∈ specials ∨ x ∈ ([Str.ofString "__getattribute__", Str.ofString "__getattr__", Str.ofString "__setattr__", Str.ofString "__name__", Str.ofString "__annotations__"] : List Str) := by
          have all : ∀ z ∈ copiedNames, z ∈ specials ∨ z ∈ ([Str.ofString "__getattribute__", Str.ofString "__getattr__", Str.ofString "__setattr__", Str.ofString "__name__", Str.ofString "__annotations__"] : List Str) := by decide +kernel
          exact all x hx
        rcases this with q | q
        · exact noneOf_at t2 q hm
        · exact noneOf_at t4 q hm
    · intro y hy
      have hm : y ∈ ivars := memS_iff.mp hy
      have q := List.all_eq_true.mp ivar_own y hm
      simp only [Bool.and_eq_true, Bool.not_eq_true', Option.isNone_iff_eq_none] at q
      exact ⟨hbase y (memN_ne q.2) (noneOf_at t3 hm), q.1.1, by rw [lk_obj, q.1.1], q.1.2⟩
    · have hh : ∀ z ∈ ([Str.ofString "__getattribute__", Str.ofString "__getattr__", Str.ofString "__setattr__"] : List Str), z ∉ specials := by decide +kernel
      exact ⟨hbase _ (hh _ (by simp)) (noneOf_at t4 (by simp)), hbase _ (hh _ (by simp)) (noneOf_at t4 (by simp)), hbase _ (hh _ (by simp)) (noneOf_at t4 (by simp))⟩
    · obtain ⟨o, ho, hc, hd⟩ := hl
      exact ⟨its, ⟨o, kh _ _ (fun q => by rw [q] at hc; cases hc) ho, hc, hd⟩, hsz, by show ns.length ≤ 1000000; omega, hit⟩
    · intro x pa bo sc v hd hw hv
      rw [show (pgOf p ns).body = body from hbody] at hd
      cases hst : clsFind x body with
      | none => rw [hst] at hd; cases hd
      | some st =>
        rw [hst] at hd
        obtain ⟨hm, hx⟩ := clsFind_mem hst
        have := List.all_eq_true.mp twr.2 st hm
        rw [Bool.or_eq_true] at this
        rcases this with q | q
        · rw [noW_at q hd] at hw; cases hw
        · have e : x = wrapName := hx.symm.trans (eqS_iff.mp q)
          subst e
          have e2 : v = .ref a0 := Option.some.inj (hv.symm.trans hwl)
          exact ⟨a0, _, e2, kp _ _ ho0, rfl, rfl⟩
    · obtain ⟨o, vs, file, tf, flags, tg, inF, text, tt, g1, g2, r⟩ := (CodeHd.of hi0 ht0).keeps kp
      exact ⟨o, vs, file, tf, flags, tg, inF, text, tt, kh _ _ (fun q => by rw [q] at g2; cases g2) g1, g2, r⟩
    · obtain ⟨bm', o, b1, b2, b3, b4, b5, b6, b7, b8⟩ := BL.bmod
      have hno : o ≠ tabObj #[] := fun q => by rw [q] at b6; cases b6
      have b5' := kp _ _ (h3 _ _ b3 b5)
      refine ⟨bm', o, (made.ne ?_).trans b1, b2, b3, fun q => ?_, kh _ _ hno b5', b6, b7, b8⟩
      · rw [List.all_eq_true]
        intro st hst
        rw [bne_iff_ne]
        exact (tok.loc st hst).2
      · have := kp _ _ ht0.2
        have q : bm' = P0 := q
        subst q
        rw [b5'] at this
        exact hno (Option.some.inj this)
end Mine
end
section
set_option maxRecDepth 100000
set_option linter.unusedVariables false
open PySem PySem.W PyProof.Rows PySem.Claim2Try PySem.Pin Builtin Builtin.ObjectAttr
namespace Mine
/-- what is left of the claim: the pure run -/
theorem call_of {l : OpenLaw} {n : Nat} (hm : l.most = some 63) (hb : l.bound = none) (tok : TopOk l.prog) (tx : textOkB l.prog = true) (hn : n ≤ 250) (pos : Pos)
    (k : ∀ ns : List Int, ns.length ≤ 63 → (inN (pgOf l.prog ns) n).ca (.fn l.name) [.given] [] [.tab pos] fun v σ => v = .bool true ∧ ∃ q, nth σ 0 = some (.tab q)) :
    ∀ w s s₁ args vs as, TopState l.prog s.heap → l.row.toRowW.claim.pre args = true → WData.layableAll args = true → Laid [] w s s₁ args vs as →
      ∃ f mg, s₁.heap.Ns mainGlobals mg ∧ mg l.name = some f ∧ wpAny (model l.prog w) callerA (PySem.call f vs) (fun v s' => GoodWG l.row.toRowW.claim (classAt s.heap) (ExcName.means s.heap) args s₁ (.ok (.ret v)) s') (fun _ _ => False) s₁ := by
  intro w s s₁ args vs as T hpre hlay La
  obtain ⟨ns, rfl, hlen⟩ := args_of hm hb hpre
  have hr := La.reads
  cases hr with | cons ha hb' =>
  cases hb'
  cases ha with | list ho hc hdat hall =>
  rename_i a o its e as'
  obtain ⟨hl1, hl2⟩ := reads_ints hall
  have hl : s₁.heap.IsList a its := ⟨o, ho, hc, e, hdat⟩
  have T' := T
  obtain ⟨B, ok, q1, q0, q2, q3, q4⟩ := okOf (ns := ns) tok tx T La.keeps hl (by rw [← Array.length_toList]; exact hl1) hlen (fun i hi => by
    obtain ⟨t, ht⟩ := hl2 i hi
    exact ⟨t, by rw [← Array.getElem?_toList]; exact ht⟩)
  have hf : ∃ f, B.mg l.name = some f := by
    have kk := k ns hlen
    cases n with
    | zero => exact kk.elim
    | succ n =>
      obtain ⟨_, _, _, _, hd, _⟩ := fnI_inv (B := B) (h := s₁.heap) (ρ := []) (kws := []) (I := inN (pgOf l.prog ns) n) (o := topFind l.name (pgOf l.prog ns).top) (vs := [.given]) (ks := []) (σ := [.tab pos]) (K := fun v σ => v = .bool true ∧ ∃ q, nth σ 0 = some (.tab q)) kk ⟨rfl, .nil⟩
      obtain ⟨v, _, hv, _⟩ := ok.fn _ _ _ _ hd
      exact ⟨v, hv⟩
  obtain ⟨f, hf⟩ := hf
  refine ⟨f, B.mg, q4, hf, ?_⟩
  rw [← q3]
  exact call_good ok q1 q0 q2 La.gens hn hf (k ns hlen)
end Mine
end
section
set_option Elab.async false
set_option maxRecDepth 100000
open PySem PySem.W PyProof.Rows PySem.Claim2Try PySem.Pin Builtin Builtin.ObjectAttr
namespace Mine
open PySem.Challenge
theorem text09 : textOkB pw_lq0009_09 = true := by decide +kernel
/-- where the one lambda stands -/
noncomputable def lamPosOf : List Stmt → Pos
  | .Assign _ (.Lambda _ _ _ p) _ :: _ => p
  | _ => ⟨0, 0, 0, 0⟩
noncomputable def fnBody0 : Option (Arguments × List Stmt × Scope) → List Stmt
  | some (_, bo, _) => bo
  | none => []
noncomputable def lp09 : Pos := lamPosOf (fnBody0 (defOf (clsFind wrapName (bodyOf (behindTheImports pw_lq0009_09)))))
theorem all09 (said : rw_lq0009_09.row.wellSaid = true) (k : ∀ ns : List Int, ns.length ≤ 63 → (inN (pgOf pw_lq0009_09 ns) 100).ca (.fn "law") [.given] [] [.tab lp09] fun v σ => v = .bool true ∧ ∃ q, nth σ 0 = some (.tab q)) : rw_lq0009_09.row.Holds :=
  head09 said (call_of (l := rw_lq0009_09) rfl rfl (topOk_of ok09) text09 (by omega) lp09 k)
end Mine
end
section
set_option Elab.async false
set_option maxRecDepth 100000
set_option linter.unusedVariables false
open PySem PySem.W PyProof.Rows PySem.Claim2Try PySem.Pin
namespace Mine
open PySem.Challenge
noncomputable def top09 : List Stmt := behindTheImports pw_lq0009_09
noncomputable def body09b : List Stmt := bodyOf top09
noncomputable abbrev g09 (n : Nat) (sc : Nat → Int) : Pg := ⟨top09, body09b, n, sc⟩
/-- the machine's names -/
noncomputable def regs (mi : Nat) (st : Int) (a x y sp p pc cyc exc : Int) (ac : AV) : List (Str × AV) :=
  [("name", .str "6502"), ("byteMask", .int 255), ("addrMask", .int 65535), ("addrHighMask", .int 65280), ("spBase", .int 256), ("excycles", .int exc), ("addcycles", ac), ("processorCycles", .int cyc), ("memory", .loc mi), ("start_pc", .int st), ("pc", .int pc), ("sp", .int sp), ("a", .int a), ("x", .int x), ("y", .int y), ("p", .int p)]
noncomputable def hp (o : Nat → AObj) (N : Nat) (f : Nat → Int) (r : List (Str × AV)) : Hp := [.tab lp09, o 1, o 2, o 3, o 4, o 5, o 6, o 7, .nums N f, o 9, .inst r]
noncomputable def nStep : Str := "step"
noncomputable def nCode : Str := "instructCode"
noncomputable def fnBody : Option Stmt → List Stmt
  | some (.FunctionDef _ _ bo _ _ _ _ _ _ _) => bo
  | _ => []
noncomputable def emptySc : Scope := default
noncomputable def fnSc : Option Stmt → Scope
  | some (.FunctionDef _ _ _ _ _ _ sc _ _ _) => sc
  | _ => emptySc
noncomputable def hd1 : List Stmt → Stmt
  | st :: _ => st
  | [] => .Pass ⟨0,0,0,0⟩
noncomputable def tl1 : List Stmt → List Stmt
  | _ :: r => r
  | [] => []
noncomputable def stepBo : List Stmt := fnBody (clsFind nStep body09b)
noncomputable def stepSc : Scope := fnSc (clsFind nStep body09b)
noncomputable def stepOf (G : Pg) (n i : Nat) (op : Int) (σ : Hp) (K : KV) : Prop := stmtsI ((inN G n).ex stepSc) (tl1 stepBo) [(nSelf, .loc i), (nCode, .int op)] σ (retK (gcK 11 K))
noncomputable def gd (i : Int) (N : Nat) (P : Prop) : Prop := cond (decide (0 ≤ i) && decide (i < N)) P False
noncomputable def nz (v p : Int) (K : Int → Prop) : Prop := cond (decide (v = 0)) (K (Builtin.bitOr (Builtin.bitAnd p (Builtin.bitNot (Builtin.bitOr 2 128))) 2)) (K (Builtin.bitOr (Builtin.bitAnd p (Builtin.bitNot (Builtin.bitOr 2 128))) (Builtin.bitAnd v 128)))
noncomputable def nx (pc : Int) : Int := Builtin.bitAnd (pc + 1) 65535
section
variable (n : Nat) (scr : Nat → Int) (o : Nat → AObj) (N : Nat) (f : Nat → Int) (st a x y sp p pc cyc exc : Int) (ac : AV) (K : KV) (σ : Hp) (L : Loc) (Q : KF)
theorem step_a : (inN (g09 n scr) 96).ca (.mth nStep) [.loc 10] [] (hp o N f (regs 8 st a x y sp p pc cyc exc ac)) K = stmtsI ((inN (g09 n scr) 95).ex stepSc) stepBo [(nSelf, .loc 10)] (hp o N f (regs 8 st a x y sp p pc cyc exc ac)) (retK (gcK 11 K)) := by kernel_rfl
theorem step_b : stepBo = hd1 stepBo :: tl1 stepBo := by kernel_rfl
theorem step_c : (inN (g09 n scr) 95).ex stepSc (hd1 stepBo) [(nSelf, .loc 10)] (hp o N f (regs 8 st a x y sp p pc cyc exc ac)) Q = gd pc N (Q .next [(nSelf, .loc 10), (nCode, .int (f pc.toNat))] (hp o N f (regs 8 st a x y sp p pc cyc exc ac))) := by kernel_rfl
theorem fetch09 : (inN (g09 n scr) 96).ca (.mth nStep) [.loc 10] [] (hp o N f (regs 8 st a x y sp p pc cyc exc ac)) K = gd pc N (stepOf (g09 n scr) 95 10 (f pc.toNat) (hp o N f (regs 8 st a x y sp p pc cyc exc ac)) K) :=
  (step_a n scr o N f st a x y sp p pc cyc exc ac K).trans ((congrArg (fun b => stmtsI ((inN (g09 n scr) 95).ex stepSc) b [(nSelf, .loc 10)] (hp o N f (regs 8 st a x y sp p pc cyc exc ac)) (retK (gcK 11 K))) step_b).trans (step_c n scr o N f st a x y sp p pc cyc exc ac _))
end
end Mine
end
section
set_option Elab.async false
set_option maxRecDepth 100000
set_option linter.unusedVariables false
open PySem PySem.W PyProof.Rows PySem.Claim2Try PySem.Pin
namespace Mine
open PySem.Challenge
noncomputable abbrev bA := Builtin.bitAnd
noncomputable abbrev bO := Builtin.bitOr
noncomputable abbrev bN := Builtin.bitNot
noncomputable abbrev bX := Builtin.bitXor
/-- an instruction has been run: the registers behind it -/
noncomputable def fi (K : KV) (o : Nat → AObj) (N : Nat) (st cyc : Int) (f : Nat → Int) (a x y sp p pc exc : Int) (ac : AV) : Prop := K (.loc 10) (hp o N f (regs 8 st a x y sp p (bA pc 65535) cyc exc ac))
noncomputable def brn2 (q t : Int) (K : Int → Int → Prop) : Prop := cond (!decide (bA q 65280 = bA t 65280)) (K (bA t 65535) (0 + 1 + 1)) (K (bA t 65535) (0 + 1))
noncomputable def brn (f : Nat → Int) (N : Nat) (q : Int) (K : Int → Int → Prop) : Prop := gd q N (cond (!decide (bA (f q.toNat) 128 = 0)) (brn2 (q + 1) (q + 1 - bX (f q.toNat) 255 - 1) K) (brn2 (q + 1) (q + 1 + f q.toNat) K))
noncomputable def nzt (t p : Int) (K : Int → Prop) : Prop := cond (!decide (t = 0)) (K (bO p (bA t 128))) (K (bO p 2))
noncomputable def asl2 (t p : Int) (K : Int → Int → Prop) : Prop := cond (small t) (nzt (bA (t * 2 ^ (1 : Int).toNat) 255) p (K (bA (t * 2 ^ (1 : Int).toNat) 255))) False
noncomputable def aslC (t p : Int) (K : Int → Int → Prop) : Prop := cond (!decide (bA t 128 = 0)) (asl2 t (bO (bA p (bN (bO (bO 1 128) 2))) 1) K) (asl2 t (bA p (bN (bO (bO 1 128) 2))) K)
noncomputable def rol2 (t p : Int) (K : Int → Int → Prop) : Prop := nz (bA t 255) p (K (bA t 255))
noncomputable def rolC (t p : Int) (K : Int → Int → Prop) : Prop := cond (!decide (bA p 1 = 0))
  (cond (!decide (bA t 128 = 0)) (cond (small t) (rol2 (bO (t * 2 ^ (1 : Int).toNat) 1) p K) False) (cond (small t) (rol2 (bO (t * 2 ^ (1 : Int).toNat) 1) (bA p (bN 1)) K) False))
  (cond (!decide (bA t 128 = 0)) (cond (small t) (rol2 (t * 2 ^ (1 : Int).toNat) (bO p 1) K) False) (cond (small t) (rol2 (t * 2 ^ (1 : Int).toNat) p K) False))
noncomputable def lsrC (t p : Int) (K : Int → Int → Prop) : Prop := cond (!decide (t.fdiv (2 ^ (1 : Int).toNat) = 0)) (K (t.fdiv (2 ^ (1 : Int).toNat)) (bO (bA p (bN (bO (bO 1 128) 2))) (bA t 1))) (K (t.fdiv (2 ^ (1 : Int).toNat)) (bO (bO (bA p (bN (bO (bO 1 128) 2))) (bA t 1)) 2))
noncomputable def cmpC (r t p : Int) (K : Int → Prop) : Prop := cond (decide (r = t)) (K (bO (bO (bA p (bN (bO (bO 1 2) 128))) (bO 1 2)) (bA (r - t) 128)))
  (cond (decide (t < r)) (K (bO (bO (bA p (bN (bO (bO 1 2) 128))) 1) (bA (r - t) 128))) (K (bO (bA p (bN (bO (bO 1 2) 128))) (bA (r - t) 128))))
noncomputable def adcV (d a p alu n0 n1 : Int) (K : Int → Int → Prop) : Prop := cond (!decide (bA (bA (bN (bX a d)) (bX a alu)) 128 = 0)) (cond (small n1) (K (n1 * 2 ^ (4 : Int).toNat + n0) (bO p 64)) False) (cond (small n1) (K (n1 * 2 ^ (4 : Int).toNat + n0) p) False)
noncomputable def adcF (d a p alu n0 n1 dc : Int) (K : Int → Int → Prop) : Prop := cond (decide (dc = 1)) (adcV d a (bO p 1) alu n0 n1 K) (adcV d a p alu n0 n1 K)
noncomputable def adcZ (d a p alu n0 n1 dc : Int) (K : Int → Int → Prop) : Prop := cond (decide (alu = 0)) (adcF d a (bO p 2) alu n0 n1 dc K) (adcF d a (bO p (bA alu 128)) alu n0 n1 dc K)
noncomputable def adcN (d a p n0 n1 j0 j1 dc : Int) (K : Int → Int → Prop) : Prop := cond (small (bA n1 15)) (adcZ d a (bA p (bN (bO (bO (bO 1 64) 128) 2))) (bA n1 15 * 2 ^ (4 : Int).toNat + bA n0 15) (bA (bA n0 15 + j0) 15) (bA (bA n1 15 + j1) 15) dc K) False
noncomputable def adcH (d a p n0 n1 j0 : Int) (K : Int → Int → Prop) : Prop := cond (decide (9 < n1)) (adcN d a p n0 n1 j0 6 1 K) (adcN d a p n0 n1 j0 0 0 K)
noncomputable def adcD (d a p n0 : Int) (K : Int → Int → Prop) : Prop := cond (decide (9 < n0)) (adcH d a p n0 (bA (d.fdiv (2 ^ (4 : Int).toNat)) 15 + bA (a.fdiv (2 ^ (4 : Int).toNat)) 15 + 1) 6 K) (adcH d a p n0 (bA (d.fdiv (2 ^ (4 : Int).toNat)) 15 + bA (a.fdiv (2 ^ (4 : Int).toNat)) 15 + 0) 0 K)
noncomputable def adcT (r p : Int) (K : Int → Int → Prop) : Prop := cond (decide (r = 0)) (K r (bO p 2)) (K r (bO p (bA r 128)))
noncomputable def adcS (r p : Int) (K : Int → Int → Prop) : Prop := cond (decide (255 < r)) (adcT (bA r 255) (bO p 1) K) (adcT r p K)
noncomputable def adcR (d a p r : Int) (K : Int → Int → Prop) : Prop := cond (!decide (bA (bA (bN (bX a d)) (bX a r)) 128 = 0)) (adcS r (bO (bA p (bN (bO (bO (bO 1 64) 128) 2))) 64) K) (adcS r (bA p (bN (bO (bO (bO 1 64) 128) 2))) K)
noncomputable def adcC (d a p : Int) (K : Int → Int → Prop) : Prop := cond (!decide (bA p 8 = 0)) (adcD d a p (bA d 15 + bA a 15 + bA p 1) K) (cond (!decide (bA p 1 = 0)) (adcR d a p (d + a + 1) K) (adcR d a p (d + a + 0) K))
noncomputable def jsrC (f : Nat → Int) (N : Nat) (q : Int) (K : Int → Prop) : Prop := gd q N (gd (q + 1) N (cond (small (f (q + 1).toNat)) (K (f q.toNat + f (q + 1).toNat * 2 ^ (8 : Int).toNat)) False))
/-- two octets, the second from the same page -/
noncomputable def wz (z : Int) : Int := bA z 65280 + bA (z + 1) 255
noncomputable def wrap2 (f : Nat → Int) (N : Nat) (z : Int) (K : Int → Prop) : Prop := ∀ (b : Addr) (cl : List (Str × Addr)), gd z N (gd (wz z) N (cond (small (f (wz z).toNat)) (K (f z.toNat + f (wz z).toNat * 2 ^ (8 : Int).toNat)) False))
section
variable (n : Nat) (scr : Nat → Int) (o : Nat → AObj) (N : Nat) (f : Nat → Int) (st a x y sp p pc cyc exc : Int) (ac : AV) (K : KV)
theorem op169 : stepOf (g09 n scr) 95 10 169 (hp o N f (regs 8 st a x y sp p pc cyc exc ac)) K = (gd (nx pc) N (nz (f (nx pc).toNat) p fun p' => fi K o N st (cyc + (2 + 0)) f (f (nx pc).toNat) x y sp p' (nx pc + 1) 0 (.int 0))) := by kernel_rfl
theorem op165 : stepOf (g09 n scr) 95 10 165 (hp o N f (regs 8 st a x y sp p pc cyc exc ac)) K = (gd (nx pc) N (gd (f (nx pc).toNat) N (nz (f (f (nx pc).toNat).toNat) p fun p' => fi K o N st (cyc + (3 + 0)) f (f (f (nx pc).toNat).toNat) x y sp p' (nx pc + 1) 0 (.int 0)))) := by kernel_rfl
theorem op208 : stepOf (g09 n scr) 95 10 208 (hp o N f (regs 8 st a x y sp p pc cyc exc ac)) K = (cond (!decide (bA p 2 = 0)) (fi K o N st (cyc + (2 + 0)) f a x y sp p (nx pc + 1) 0 (.int 2)) (brn f N (nx pc) fun t e => fi K o N st (cyc + (2 + e)) f a x y sp p t e (.int 2))) := by kernel_rfl
theorem op240 : stepOf (g09 n scr) 95 10 240 (hp o N f (regs 8 st a x y sp p pc cyc exc ac)) K = (cond (!decide (bA p 2 = 0)) (brn f N (nx pc) fun t e => fi K o N st (cyc + (2 + e)) f a x y sp p t e (.int 2)) (fi K o N st (cyc + (2 + 0)) f a x y sp p (nx pc + 1) 0 (.int 2))) := by kernel_rfl
theorem op166 : stepOf (g09 n scr) 95 10 166 (hp o N f (regs 8 st a x y sp p pc cyc exc ac)) K = (gd (nx pc) N (gd (f (nx pc).toNat) N (nz (f (f (nx pc).toNat).toNat) p fun p' => fi K o N st (cyc + (3 + 0)) f a (f (f (nx pc).toNat).toNat) y sp p' (nx pc + 1) 0 (.int 0)))) := by kernel_rfl
theorem op162 : stepOf (g09 n scr) 95 10 162 (hp o N f (regs 8 st a x y sp p pc cyc exc ac)) K = (gd (nx pc) N (nz (f (nx pc).toNat) p fun p' => fi K o N st (cyc + (2 + 0)) f a (f (nx pc).toNat) y sp p' (nx pc + 1) 0 (.int 0))) := by kernel_rfl
theorem op160 : stepOf (g09 n scr) 95 10 160 (hp o N f (regs 8 st a x y sp p pc cyc exc ac)) K = (gd (nx pc) N (nz (f (nx pc).toNat) p fun p' => fi K o N st (cyc + (2 + 0)) f a x (f (nx pc).toNat) sp p' (nx pc + 1) 0 (.int 0))) := by kernel_rfl
theorem op176 : stepOf (g09 n scr) 95 10 176 (hp o N f (regs 8 st a x y sp p pc cyc exc ac)) K = (cond (!decide (bA p 1 = 0)) (brn f N (nx pc) fun t e => fi K o N st (cyc + (2 + e)) f a x y sp p t e (.int 2)) (fi K o N st (cyc + (2 + 0)) f a x y sp p (nx pc + 1) 0 (.int 2))) := by kernel_rfl
theorem op201 : stepOf (g09 n scr) 95 10 201 (hp o N f (regs 8 st a x y sp p pc cyc exc ac)) K = (gd (nx pc) N (cmpC a (f (nx pc).toNat) p fun p' => fi K o N st (cyc + (2 + 0)) f a x y sp p' (nx pc + 1) 0 (.int 0))) := by kernel_rfl
theorem op198 : stepOf (g09 n scr) 95 10 198 (hp o N f (regs 8 st a x y sp p pc cyc exc ac)) K = (gd (nx pc) N (gd (f (nx pc).toNat) N (nzt (bA (f (f (nx pc).toNat).toNat - 1) 255) (bA p (bN (bO 2 128))) fun p' => gd (f (nx pc).toNat) N (fi K o N st (cyc + (5 + 0)) (setF f (f (nx pc).toNat).toNat (bA (f (f (nx pc).toNat).toNat - 1) 255)) a x y sp p' (nx pc + 1) 0 (.int 0))))) := by kernel_rfl
theorem op230 : stepOf (g09 n scr) 95 10 230 (hp o N f (regs 8 st a x y sp p pc cyc exc ac)) K = (gd (nx pc) N (gd (f (nx pc).toNat) N (nzt (bA (f (f (nx pc).toNat).toNat + 1) 255) (bA p (bN (bO 2 128))) fun p' => gd (f (nx pc).toNat) N (fi K o N st (cyc + (5 + 0)) (setF f (f (nx pc).toNat).toNat (bA (f (f (nx pc).toNat).toNat + 1) 255)) a x y sp p' (nx pc + 1) 0 (.int 0))))) := by kernel_rfl
theorem op76 : stepOf (g09 n scr) 95 10 76 (hp o N f (regs 8 st a x y sp p pc cyc exc ac)) K = (jsrC f N (nx pc) fun t => fi K o N st (cyc + (3 + 0)) f a x y sp p t 0 (.int 0)) := by kernel_rfl
theorem op157 : stepOf (g09 n scr) 95 10 157 (hp o N f (regs 8 st a x y sp p pc cyc exc ac)) K = (jsrC f N (nx pc) fun t => gd (bA (t + x) 65535) N (fi K o N st (cyc + (5 + 0)) (setF f (bA (t + x) 65535).toNat a) a x y sp p (nx pc + 2) 0 (.int 0))) := by kernel_rfl
theorem op145 : stepOf (g09 n scr) 95 10 145 (hp o N f (regs 8 st a x y sp p pc cyc exc ac)) K = (gd (nx pc) N (wrap2 f N (f (nx pc).toNat) fun t => gd (bA (t + y) 65535) N (fi K o N st (cyc + (6 + 0)) (setF f (bA (t + y) 65535).toNat a) a x y sp p (nx pc + 1) 0 (.int 0)))) := by kernel_rfl
theorem op161 : stepOf (g09 n scr) 95 10 161 (hp o N f (regs 8 st a x y sp p pc cyc exc ac)) K = (gd (nx pc) N (wrap2 f N (bA 255 (f (nx pc).toNat + x)) fun t => gd t N (nz (f t.toNat) p fun p' => fi K o N st (cyc + (6 + 0)) f (f t.toNat) x y sp p' (nx pc + 1) 0 (.int 0)))) := by kernel_rfl
theorem op129 : stepOf (g09 n scr) 95 10 129 (hp o N f (regs 8 st a x y sp p pc cyc exc ac)) K = (gd (nx pc) N (wrap2 f N (bA 255 (f (nx pc).toNat + x)) fun t => gd t N (fi K o N st (cyc + (6 + 0)) (setF f t.toNat a) a x y sp p (nx pc + 1) 0 (.int 0)))) := by kernel_rfl
theorem op177 : stepOf (g09 n scr) 95 10 177 (hp o N f (regs 8 st a x y sp p pc cyc exc ac)) K = (gd (nx pc) N (wrap2 f N (f (nx pc).toNat) fun t => cond (!decide (bA t 65280 = bA (bA (t + y) 65535) 65280)) (gd (bA (t + y) 65535) N (nz (f (bA (t + y) 65535).toNat) p fun p' => fi K o N st (cyc + (5 + (0 + 1))) f (f (bA (t + y) 65535).toNat) x y sp p' (nx pc + 1) (0 + 1) (.int 1))) (gd (bA (t + y) 65535) N (nz (f (bA (t + y) 65535).toNat) p fun p' => fi K o N st (cyc + (5 + 0)) f (f (bA (t + y) 65535).toNat) x y sp p' (nx pc + 1) 0 (.int 1))))) := by kernel_rfl
end
end Mine
end
section
set_option maxRecDepth 100000
set_option linter.unusedVariables false
open PySem PySem.W PyProof.Rows PySem.Claim2Try PySem.Pin
namespace Mine
noncomputable def forBo : Stmt → List Stmt
  | .For _ _ bo _ _ => bo
  | _ => []
noncomputable def forTg : Stmt → Expr
  | .For t _ _ _ _ => t
  | _ => .Constant .none 0 ⟨0,0,0,0⟩
noncomputable def forIt : Stmt → Expr
  | .For _ it _ _ _ => it
  | _ => .Constant .none 0 ⟨0,0,0,0⟩
noncomputable def forPs : Stmt → Pos
  | .For _ _ _ _ p => p
  | _ => ⟨0,0,0,0⟩
noncomputable def forSt (st : Stmt) : Stmt := .For (forTg st) (forIt st) (forBo st) [] (forPs st)
noncomputable def nk (Q : KF) : KF := fun fl L1 σ1 => match fl with
    | .next => Q .next L1 σ1
    | fl => Q fl L1 σ1
noncomputable def nextK (F : Loc → Hp → KF → Prop) (K : KF) : KF := fun fl L σ => match fl with
  | .next => F L σ K
  | fl => K fl L σ
theorem nk_eq (Q : KF) : nk Q = Q := by funext fl L σ; cases fl <;> rfl
theorem nextK_next {F : Loc → Hp → KF → Prop} {K : KF} {L : Loc} {σ : Hp} : nextK F K .next L σ = F L σ K := rfl
theorem retK_ret {K : KV} {v : AV} {L : Loc} {σ : Hp} : retK K (.ret v) L σ = K v σ := rfl
theorem stmtsI_app (ex : Stmt → Loc → Hp → KF → Prop) (b : List Stmt) (K : KF) : ∀ (a : List Stmt) (L : Loc) (σ : Hp), stmtsI ex (a ++ b) L σ K = stmtsI ex a L σ (nextK (stmtsI ex b) K)
  | [], L, σ => rfl
  | st :: r, L, σ => by
    show ex st L σ _ = ex st L σ _
    refine congrArg (ex st L σ) ?_
    funext fl L1 σ1
    cases fl with
    | next => exact stmtsI_app ex b K r L1 σ1
    | _ => rfl
theorem stmtsI_one (ex : Stmt → Loc → Hp → KF → Prop) (st : Stmt) (L : Loc) (σ : Hp) (K : KF) : stmtsI ex [st] L σ K = ex st L σ K := by
  show ex st L σ _ = ex st L σ K
  refine congrArg (ex st L σ) ?_
  funext fl L1 σ1
  cases fl <;> rfl
theorem cond_t {b : Bool} {A B : Prop} (hb : b = true) (h : A) : cond b A B := by rw [hb]; exact h
theorem cond_f {b : Bool} {A B : Prop} (hb : b = false) (h : B) : cond b A B := by rw [hb]; exact h
theorem cond_b {b : Bool} {A B : Prop} (h : b = true → A) (h' : b = false → B) : cond b A B := by
  cases b
  · exact h' rfl
  · exact h rfl
theorem condE {b : Bool} {A B : Prop} (hb : b = true) : cond b A B = A := by rw [hb]; rfl
/-- the call of a function of the top -/
theorem fn_call {G : Pg} {I : In} {x : Str} {pa : Arguments} {bo : List Stmt} {sc : Scope} {vs : List AV} {L : Loc} {σ : Hp} {K : KV} (hd : defOf (topFind x G.top) = some (pa, bo, sc)) (hb : bindI pa vs = some L) (hp : (plainScope sc && (L.all fun x => ownName sc x.1 && notLam x.2)) = true) :
    caB G I (.fn x) vs [] σ K = stmtsI (I.ex sc) bo L σ (retK (gcK σ.length K)) := by
  show fnI I (defOf (topFind x G.top)) vs [] σ K = _
  rw [hd]
  show bodyI I (bindI pa vs) bo sc σ K = _
  rw [hb]
  exact condE hp
/-- a loop over a range -/
theorem for_range {G : Pg} {n : Nat} {sc : Scope} {t it : Expr} {bo : List Stmt} {p : Pos} {b : Nat} {L : Loc} {σ : Hp} {Q : KF} (hc : (isName t && noSet it) = true) (he : ∀ K, (inN G n).ev sc it L σ K = K (.rng 0 (b : Int)) σ) (hb : b ≤ 1000000) :
    stmtsI ((inN G (n + 1)).ex sc) [.For t it bo [] p] L σ Q = genLoop (rangeSrc b 0) (bodyD (nmOf t) (stmtsI ((inN G n).ex sc) bo)) (asgI (inN G n) sc t) b 0 L σ Q := by
  rw [stmtsI_one]
  show cond (isName t && noSet it) ((inN G n).ev sc it L σ fun v σ1 => forI (inN G n) sc t bo v L σ1 Q) False = _
  rw [hc]
  show (inN G n).ev sc it L σ _ = _
  rw [he]
  show cond (decide ((0 : Int) ≤ 0) && decide ((0 : Int) ≤ 1000000) && decide (0 ≤ (b : Int)) && decide ((b : Int) ≤ 1000000)) _ False = _
  rw [decide_eq_true (show 0 ≤ (b : Int) by omega), decide_eq_true (show (b : Int) ≤ 1000000 by omega), Int.sub_zero, Int.toNat_natCast]
  rfl
noncomputable def loopK (F : Loc → Hp → Prop) (Q : KF) : KF := fun fl L σ => match fl with
  | .next => F L σ
  | .cont => F L σ
  | .brk => Q .next L σ
  | .ret v => Q (.ret v) L σ
theorem loopK_next {F : Loc → Hp → Prop} {Q : KF} {L : Loc} {σ : Hp} : loopK F Q .next L σ = F L σ := rfl
theorem loopK_brk {F : Loc → Hp → Prop} {Q : KF} {L : Loc} {σ : Hp} : loopK F Q .brk L σ = Q .next L σ := rfl
theorem bodyD_eq {x : Str} {bd : Loc → Hp → KF → Prop} {L : Loc} {σ : Hp} {K : KF} : bodyD x bd L σ K = bd L σ fun fl L2 σ2 => K fl (delS x L2) σ2 := rfl
/-- one turn of it -/
theorem turn_range {N i k : Nat} {a : Int} {bd : Loc → Hp → KF → Prop} {asg : AV → Loc → Hp → (Loc → Hp → Prop) → Prop} {L : Loc} {σ : Hp} {Q : KF} (hi : i < N) :
    genLoop (rangeSrc N a) bd asg (k + 1) i L σ Q = asg (.int (a + i)) L σ fun L1 σ1 => bd L1 σ1 (loopK (fun L2 σ2 => genLoop (rangeSrc N a) bd asg k (i + 1) L2 σ2 Q) Q) := by
  have : rangeSrc N a σ i = some (some (.int (a + i))) := by unfold rangeSrc; rw [Nat.blt_eq.mpr hi]; rfl
  rw [genLoop, this]
  show asg _ _ _ _ = _
  refine congrArg (asg _ L σ) ?_
  funext L1 σ1
  refine congrArg (bd L1 σ1) ?_
  funext fl L2 σ2
  cases fl <;> rfl
theorem end_range {N i k : Nat} {a : Int} {bd : Loc → Hp → KF → Prop} {asg : AV → Loc → Hp → (Loc → Hp → Prop) → Prop} {L : Loc} {σ : Hp} {Q : KF} (hi : ¬ i < N) : genLoop (rangeSrc N a) bd asg k i L σ Q = Q .next L σ := by
  have : rangeSrc N a σ i = some none := by unfold rangeSrc; rw [show Nat.blt i N = false from by rw [Bool.eq_false_iff]; exact fun z => hi (Nat.blt_eq.mp z)]; rfl
  cases k <;> rw [genLoop, this]
/-- a loop over a list -/
theorem for_list {G : Pg} {n : Nat} {sc : Scope} {t it : Expr} {bo : List Stmt} {p : Pos} {m k : Nat} {L : Loc} {σ σ1 : Hp} {Q : KF} (hc : (isName t && noSet it) = true) (he : ∀ K, (inN G n).ev sc it L σ K = K (.loc m) σ1) (hd : isDict σ1 (.loc m) = false) (hl : lenAt σ1 m = some k) :
    stmtsI ((inN G (n + 1)).ex sc) [.For t it bo [] p] L σ Q = genLoop (fun σ i => itemAt σ m i) (bodyD (nmOf t) (stmtsI ((inN G n).ex sc) bo)) (asgI (inN G n) sc t) k 0 L σ1 Q := by
  rw [stmtsI_one]
  show cond (isName t && noSet it) ((inN G n).ev sc it L σ fun v σ1 => forI (inN G n) sc t bo v L σ1 Q) False = _
  rw [hc]
  show (inN G n).ev sc it L σ _ = _
  rw [he]
  show cond (isDict σ1 (.loc m)) _ (someK (lenAt σ1 m) _) = _
  rw [hd, hl]
  rfl
/-- a loop over the keys of a dict -/
theorem for_dict {G : Pg} {n : Nat} {sc : Scope} {t it : Expr} {bo : List Stmt} {p : Pos} {m : Nat} {es : List (Int × AV)} {L : Loc} {σ σ1 : Hp} {Q : KF} (hc : (isName t && noSet it) = true) (he : ∀ K, (inN G n).ev sc it L σ K = K (.loc m) σ1) (hd : nth σ1 m = some (.idict none es)) :
    stmtsI ((inN G (n + 1)).ex sc) [.For t it bo [] p] L σ Q = ∀ ep, genLoop (keySrc m ep es.length) (bodyD (nmOf t) (stmtsI ((inN G n).ex sc) bo)) (asgI (inN G n) sc t) es.length 0 L (setN σ1 m (.idict (some ep) es)) Q := by
  rw [stmtsI_one]
  show cond (isName t && noSet it) ((inN G n).ev sc it L σ fun v σ1 => forI (inN G n) sc t bo v L σ1 Q) False = _
  rw [hc]
  show (inN G n).ev sc it L σ _ = _
  rw [he]
  show cond (match nth σ1 m with | some (.idict _ _) => true | _ => false) (match nth σ1 m with | some (.idict _ es) => ∀ ep, genLoop _ _ _ _ _ _ _ _ | _ => False) _ = _
  rw [hd]
  rfl
/-- any loop: one turn, and its end -/
theorem turn_src {src : Hp → Nat → Option (Option AV)} {i k : Nat} {v : AV} {bd : Loc → Hp → KF → Prop} {asg : AV → Loc → Hp → (Loc → Hp → Prop) → Prop} {L : Loc} {σ : Hp} {Q : KF} (h : src σ i = some (some v)) :
    genLoop src bd asg (k + 1) i L σ Q = asg v L σ fun L1 σ1 => bd L1 σ1 (loopK (fun L2 σ2 => genLoop src bd asg k (i + 1) L2 σ2 Q) Q) := by
  rw [genLoop, h]
  show asg _ _ _ _ = _
  refine congrArg (asg _ L σ) ?_
  funext L1 σ1
  refine congrArg (bd L1 σ1) ?_
  funext fl L2 σ2
  cases fl <;> rfl
theorem end_src {src : Hp → Nat → Option (Option AV)} {i k : Nat} {bd : Loc → Hp → KF → Prop} {asg : AV → Loc → Hp → (Loc → Hp → Prop) → Prop} {L : Loc} {σ : Hp} {Q : KF} (h : src σ i = some none) : genLoop src bd asg k i L σ Q = Q .next L σ := by
  cases k <;> rw [genLoop, h]
noncomputable def whT : Stmt → Expr
  | .While t _ _ _ => t
  | _ => .Constant .none 0 ⟨0,0,0,0⟩
noncomputable def whBo : Stmt → List Stmt
  | .While _ bo _ _ => bo
  | _ => []
noncomputable def whPs : Stmt → Pos
  | .While _ _ _ p => p
  | _ => ⟨0,0,0,0⟩
noncomputable def whSt (st : Stmt) : Stmt := .While (whT st) (whBo st) [] (whPs st)
theorem while_i {G : Pg} {n : Nat} {sc : Scope} {t : Expr} {bo : List Stmt} {p : Pos} {L : Loc} {σ : Hp} {Q : KF} : stmtsI ((inN G (n + 1)).ex sc) [.While t bo [] p] L σ Q = whileLoop (fun L σ K => (inN G n).ts sc t L σ K) (stmtsI ((inN G n).ex sc) bo) 1000 L σ Q := by
  rw [stmtsI_one]
  rfl
theorem turn_while {ts : Loc → Hp → (Bool → Hp → Prop) → Prop} {bd : Loc → Hp → KF → Prop} {k : Nat} {L : Loc} {σ : Hp} {Q : KF} : whileLoop ts bd (k + 1) L σ Q = ts L σ fun b σ1 => cond b (bd L σ1 (loopK (fun L2 σ2 => whileLoop ts bd k L2 σ2 Q) Q)) (Q .next L σ1) := by
  rw [whileLoop]
  refine congrArg (ts L σ) ?_
  funext b σ1
  refine congrArg (fun z => cond b z (Q .next L σ1)) ?_
  refine congrArg (bd L σ1) ?_
  funext fl L2 σ2
  cases fl <;> rfl
noncomputable def asTg : Stmt → Expr
  | .Assign [t] _ _ => t
  | _ => .Constant .none 0 ⟨0,0,0,0⟩
noncomputable def asEx : Stmt → Expr
  | .Assign _ e _ => e
  | _ => .Constant .none 0 ⟨0,0,0,0⟩
noncomputable def asPs : Stmt → Pos
  | .Assign _ _ p => p
  | _ => ⟨0,0,0,0⟩
noncomputable def caNm : Expr → Str
  | .Call (.Name x _) _ _ _ => x
  | _ => Str.empty
noncomputable def caNp : Expr → Pos
  | .Call (.Name _ p) _ _ _ => p
  | _ => ⟨0,0,0,0⟩
noncomputable def caAr : Expr → List Expr
  | .Call _ es _ _ => es
  | _ => []
noncomputable def caPs : Expr → Pos
  | .Call _ _ _ p => p
  | _ => ⟨0,0,0,0⟩
noncomputable def caEx (e : Expr) : Expr := .Call (.Name (caNm e) (caNp e)) (caAr e) [] (caPs e)
/-- t = f(..): the call of a function of the top -/
theorem assign_fn {G : Pg} {n : Nat} {sc : Scope} {t : Expr} {f : Str} {fp pos ps : Pos} {args : List Expr} {L : Loc} {σ : Hp} {Q : KF} {vs : List AV} {gg : Prop → Prop} (h1 : noStarT t = true) (h2 : swapN sc t (.Call (.Name f fp) args [] pos) = none) (h3 : noSwap t (.Call (.Name f fp) args [] pos) = true)
    (hl : isLamF (.Name f fp) L = false) (hs : args.all noStar = true) (hf : ∀ K, (inN G n).ev sc (.Name f fp) L σ K = K (.fn f) σ) (ha : ∀ K, seqI (fun e σ1 K1 => (inN G n).ev sc e L σ1 K1) args σ K = gg (K vs σ)) :
    stmtsI ((inN G (n + 2)).ex sc) [.Assign [t] (.Call (.Name f fp) args [] pos) ps] L σ Q = gg ((inN G n).ca (.fn f) vs [] σ fun v σ1 => asgI (inN G (n + 1)) sc t v L σ1 fun L1 σ2 => Q .next L1 σ2) := by
  rw [stmtsI_one]
  show cond (true && noStarT t) (optK (swapN sc t (.Call (.Name f fp) args [] pos)) (cond (noSwap t (.Call (.Name f fp) args [] pos)) ((inN G (n + 1)).ev sc (.Call (.Name f fp) args [] pos) L σ fun v σ1 => asgI (inN G (n + 1)) sc t v L σ1 fun L1 σ2 => Q .next L1 σ2) False) _) False = _
  rw [h1, h2, h3]
  show cond (isLamF (.Name f fp) L) _ (cond (args.all noStar && true) ((inN G n).ev sc (.Name f fp) L σ fun v σ1 => seqI (fun e σ1 K1 => (inN G n).ev sc e L σ1 K1) args σ1 fun vs σ2 => (inN G n).ca v vs [] σ2 _) False) = _
  rw [hl, hs]
  show (inN G n).ev sc (.Name f fp) L σ _ = _
  rw [hf, ha]
end Mine
end
section
set_option Elab.async false
set_option maxRecDepth 100000
set_option linter.unusedVariables false
open PySem PySem.W PyProof.Rows PySem.Claim2Try PySem.Pin
namespace Mine
open PySem.Challenge
noncomputable def nBlock : Str := "_law_block"
noncomputable def blkBo : List Stmt := fnBody (topFind nBlock top09)
noncomputable def blkSc : Scope := fnSc (topFind nBlock top09)
noncomputable def fnPa : Option Stmt → Arguments
  | some (.FunctionDef _ pa _ _ _ _ _ _ _ _) => pa
  | _ => default
noncomputable def hdT (l : List Stmt) (i : Nat) : Stmt := hd1 (l.drop i)
noncomputable def bFor : Stmt := hdT blkBo 1
/-- the tape's pairs -/
noncomputable def tape (t : Nat → Int) : List (Int × AV) := [(-8, .int (t 0)), (-7, .int (t 1)), (-6, .int (t 2)), (-5, .int (t 3)), (-4, .int (t 4)), (-3, .int (t 5)), (-2, .int (t 6)), (-1, .int (t 7)), (0, .int (t 8)), (1, .int (t 9)), (2, .int (t 10)), (3, .int (t 11)), (4, .int (t 12)), (5, .int (t 13)), (6, .int (t 14)), (7, .int (t 15))]
/-- what _law_rule answers -/
noncomputable def ruleC (g : Nat → Int) (N : Nat) (s t : Int) (K : Int → Int → Int → Prop) : Prop := cond (small 3 && small s) (gd (3 * s + t) N (cond (small 2 && small t)
  (cond (decide ((((g (3 * s + t).toNat).fdiv 3 + t).fmod 2) = 0))
    (cond (decide (((g (3 * s + t).toNat).fdiv 2 + s + 2 * t + 1).fmod 9 = 8)) (K ((g (3 * s + t).toNat + t + s).fmod 3) 1 4) (K ((g (3 * s + t).toNat + t + s).fmod 3) 1 ((((g (3 * s + t).toNat).fdiv 2 + s + 2 * t + 1).fmod 9).fmod 4)))
    (cond (decide (((g (3 * s + t).toNat).fdiv 2 + s + 2 * t + 1).fmod 9 = 8)) (K ((g (3 * s + t).toNat + t + s).fmod 3) (-1) 4) (K ((g (3 * s + t).toNat + t + s).fmod 3) (-1) ((((g (3 * s + t).toNat).fdiv 2 + s + 2 * t + 1).fmod 9).fmod 4)))) False)) False
noncomputable abbrev inc6 : Nat → Int := getI [230, 18, 208, 2, 230, 19]
noncomputable abbrev dec8 : Nat → Int := getI [165, 18, 208, 2, 198, 19, 198, 18]
noncomputable abbrev ywr : Nat → Int := getI [145, 18]
noncomputable abbrev xwr (w : Int) : Nat → Int := getI [129, (18 - w).fmod 256]
noncomputable abbrev wd (p : Int) : Nat → Int := getI [p.fmod 256, p.fdiv 256]
noncomputable abbrev cd (v : Int) (W : Nat → Int) (m : Nat) (D : Nat → Int) : Nat → Int := appF 4 (appF 2 (getI [169, v]) W) D
noncomputable abbrev rl (v : Int) (W : Nat → Int) (m : Nat) (D : Nat → Int) (p : Int) : Nat → Int := appF (4 + m + 1) (appF (4 + m) (cd v W m D) (getI [76])) (wd p)
section
variable (n : Nat) (scr : Nat → Int) (N : Nat) (g pl tp f : Nat → Int) (s w v1 v2 v3 v4 : Int) (K : KV) (Q : KF) (L : Loc) (σ : Hp) (C : Loc → Hp → Prop)
variable (n1 : Nat) (g1 : Nat → Int) (n2 : Nat) (g2 : Nat → Int) (n3 : Nat) (g3 : Nat → Int) (n7 : Nat) (g7 : Nat → Int) (n10 : Nat) (g10 : Nat → Int) (n11 : Nat) (g11 : Nat → Int) (n12 : Nat) (g12 : Nat → Int) (n13 : Nat) (g13 : Nat → Int) (n14 : Nat) (g14 : Nat → Int) (n15 : Nat) (g15 : Nat → Int) (n16 : Nat) (g16 : Nat → Int) (n17 : Nat) (g17 : Nat → Int) (n18 : Nat) (g18 : Nat → Int) (n19 : Nat) (g19 : Nat → Int) (n20 : Nat) (g20 : Nat → Int) (n21 : Nat) (g21 : Nat → Int) (n22 : Nat) (g22 : Nat → Int) (n23 : Nat) (g23 : Nat → Int) (n24 : Nat) (g24 : Nat → Int) (n25 : Nat) (g25 : Nat → Int) (n26 : Nat) (g26 : Nat → Int) (n27 : Nat) (g27 : Nat → Int) (n28 : Nat) (g28 : Nat → Int) (n29 : Nat) (g29 : Nat → Int) (n30 : Nat) (g30 : Nat → Int)
noncomputable def blkPa : Arguments := fnPa (topFind nBlock top09)
theorem blk_d : defOf (topFind nBlock top09) = some (blkPa, blkBo, blkSc) := by kernel_rfl
theorem blk_i (a b c d : AV) : bindI blkPa [a, b, c, d] = some ([("numbers", a), ("state", b), ("places", c), ("away", d)] : Loc) := by kernel_rfl
theorem blk_p : (plainScope blkSc && ([("numbers", .loc 4), ("state", .int s), ("places", .loc 5), ("away", .int w)] : Loc).all fun x => ownName blkSc x.1 && notLam x.2) = true := by kernel_rfl
theorem blk_a : caB (g09 n scr) (inN (g09 n scr) 95) (.fn nBlock) [.loc 4, .int s, .loc 5, .int w] [] σ K = stmtsI ((inN (g09 n scr) 95).ex blkSc) blkBo [("numbers", .loc 4), ("state", .int s), ("places", .loc 5), ("away", .int w)] σ (retK (gcK σ.length K)) := fn_call blk_d (blk_i _ _ _ _) (blk_p s w)
theorem blk_0 : stmtsI ((inN (g09 n scr) 95).ex blkSc) (blkBo.take 1) [("numbers", .loc 4), ("state", .int s), ("places", .loc 5), ("away", .int w)] [.tab lp09, .nums n1 g1, .nums n2 g2, .nums n3 g3, .nums N g, .nums 5 pl, .idict none (tape tp), .nums n7 g7, .nums 65536 f] Q = Q .next [("numbers", .loc 4), ("state", .int s), ("places", .loc 5), ("away", .int w), ("rules", .loc 9)] [.tab lp09, .nums n1 g1, .nums n2 g2, .nums n3 g3, .nums N g, .nums 5 pl, .idict none (tape tp), .nums n7 g7, .nums 65536 f, .nums 0 (getI [])] := by kernel_rfl
theorem blk_c : blkBo = blkBo.take 1 ++ (bFor :: blkBo.drop 2) := by kernel_rfl
theorem blk_f : bFor = forSt bFor := by kernel_rfl
theorem blk_r : (inN (g09 n scr) 94).ev blkSc (forIt bFor) [("numbers", .loc 4), ("state", .int s), ("places", .loc 5), ("away", .int w), ("rules", .loc 9)] σ K = K (.rng 0 ((3 : Nat) : Int)) σ := by kernel_rfl
theorem blk_1 : stmtsI ((inN (g09 n scr) 95).ex blkSc) [forSt bFor] [("numbers", .loc 4), ("state", .int s), ("places", .loc 5), ("away", .int w), ("rules", .loc 9)] σ Q = genLoop (rangeSrc 3 0) (bodyD (nmOf (forTg bFor)) (stmtsI ((inN (g09 n scr) 94).ex blkSc) (forBo bFor))) (asgI (inN (g09 n scr) 94) blkSc (forTg bFor)) 3 0 [("numbers", .loc 4), ("state", .int s), ("places", .loc 5), ("away", .int w), ("rules", .loc 9)] σ Q := for_range (by kernel_rfl) (fun K => blk_r n scr s w K σ) (by decide)
theorem blk_t0 : asgI (inN (g09 n scr) 94) blkSc (forTg bFor) (.int (0 + ((0 : Nat) : Int))) [("numbers", .loc 4), ("state", .int s), ("places", .loc 5), ("away", .int w), ("rules", .loc 9)] σ C = C [("numbers", .loc 4), ("state", .int s), ("places", .loc 5), ("away", .int w), ("rules", .loc 9), ("sign", .int 0)] σ := by kernel_rfl
theorem blk_b0 : stmtsI ((inN (g09 n scr) 94).ex blkSc) (forBo bFor) [("numbers", .loc 4), ("state", .int s), ("places", .loc 5), ("away", .int w), ("rules", .loc 9), ("sign", .int 0)] [.tab lp09, .nums n1 g1, .nums n2 g2, .nums n3 g3, .nums N g, .nums 5 pl, .idict none (tape tp), .nums n7 g7, .nums 65536 f, .nums 0 (getI [])] Q = (ruleC g N s 0 fun w1 d2 d3 => cond (decide (s.fmod 2 = 0)) (cond (decide (d2 = 1)) (gd d3 5 (Q .next [("numbers", .loc 4), ("state", .int s), ("places", .loc 5), ("away", .int w), ("rules", .loc 9), ("sign", .int 0), ("write", .int w1), ("step", .int d2), ("follow", .int d3), ("code", .loc 12)] [.tab lp09, .nums n1 g1, .nums n2 g2, .nums n3 g3, .nums N g, .nums 5 pl, .idict none (tape tp), .nums n7 g7, .nums 65536 f, .list [.loc 16], .nums 2 (getI [169, w1]), .nums 2 (ywr), .nums 10 (cd w1 (ywr) 6 inc6), .nums 6 inc6, .nums 1 (getI [76]), .nums 11 (appF 10 (cd w1 (ywr) 6 inc6) (getI [76])), .nums 13 (rl w1 (ywr) 6 inc6 (pl d3.toNat))])) (gd d3 5 (Q .next [("numbers", .loc 4), ("state", .int s), ("places", .loc 5), ("away", .int w), ("rules", .loc 9), ("sign", .int 0), ("write", .int w1), ("step", .int d2), ("follow", .int d3), ("code", .loc 12)] [.tab lp09, .nums n1 g1, .nums n2 g2, .nums n3 g3, .nums N g, .nums 5 pl, .idict none (tape tp), .nums n7 g7, .nums 65536 f, .list [.loc 16], .nums 2 (getI [169, w1]), .nums 2 (ywr), .nums 12 (cd w1 (ywr) 8 dec8), .nums 8 dec8, .nums 1 (getI [76]), .nums 13 (appF 12 (cd w1 (ywr) 8 dec8) (getI [76])), .nums 15 (rl w1 (ywr) 8 dec8 (pl d3.toNat))]))) (cond (decide (d2 = 1)) (gd d3 5 (Q .next [("numbers", .loc 4), ("state", .int s), ("places", .loc 5), ("away", .int w), ("rules", .loc 9), ("sign", .int 0), ("write", .int w1), ("step", .int d2), ("follow", .int d3), ("code", .loc 12)] [.tab lp09, .nums n1 g1, .nums n2 g2, .nums n3 g3, .nums N g, .nums 5 pl, .idict none (tape tp), .nums n7 g7, .nums 65536 f, .list [.loc 16], .nums 2 (getI [169, w1]), .nums 2 (xwr w), .nums 10 (cd w1 (xwr w) 6 inc6), .nums 6 inc6, .nums 1 (getI [76]), .nums 11 (appF 10 (cd w1 (xwr w) 6 inc6) (getI [76])), .nums 13 (rl w1 (xwr w) 6 inc6 (pl d3.toNat))])) (gd d3 5 (Q .next [("numbers", .loc 4), ("state", .int s), ("places", .loc 5), ("away", .int w), ("rules", .loc 9), ("sign", .int 0), ("write", .int w1), ("step", .int d2), ("follow", .int d3), ("code", .loc 12)] [.tab lp09, .nums n1 g1, .nums n2 g2, .nums n3 g3, .nums N g, .nums 5 pl, .idict none (tape tp), .nums n7 g7, .nums 65536 f, .list [.loc 16], .nums 2 (getI [169, w1]), .nums 2 (xwr w), .nums 12 (cd w1 (xwr w) 8 dec8), .nums 8 dec8, .nums 1 (getI [76]), .nums 13 (appF 12 (cd w1 (xwr w) 8 dec8) (getI [76])), .nums 15 (rl w1 (xwr w) 8 dec8 (pl d3.toNat))])))) := by kernel_rfl
theorem blk_x0 : delS (nmOf (forTg bFor)) ([("numbers", .loc 4), ("state", .int s), ("places", .loc 5), ("away", .int w), ("rules", .loc 9), ("sign", .int 0), ("write", .int v1), ("step", .int v2), ("follow", .int v3), ("code", .loc 12)] : Loc) = ([("numbers", .loc 4), ("state", .int s), ("places", .loc 5), ("away", .int w), ("rules", .loc 9), ("write", .int v1), ("step", .int v2), ("follow", .int v3), ("code", .loc 12)] : Loc) := by kernel_rfl
theorem blk_t1 : asgI (inN (g09 n scr) 94) blkSc (forTg bFor) (.int (0 + ((1 : Nat) : Int))) [("numbers", .loc 4), ("state", .int s), ("places", .loc 5), ("away", .int w), ("rules", .loc 9), ("write", .int v1), ("step", .int v2), ("follow", .int v3), ("code", .loc 12)] σ C = C [("numbers", .loc 4), ("state", .int s), ("places", .loc 5), ("away", .int w), ("rules", .loc 9), ("write", .int v1), ("step", .int v2), ("follow", .int v3), ("code", .loc 12), ("sign", .int 1)] σ := by kernel_rfl
theorem blk_b1 : stmtsI ((inN (g09 n scr) 94).ex blkSc) (forBo bFor) [("numbers", .loc 4), ("state", .int s), ("places", .loc 5), ("away", .int w), ("rules", .loc 9), ("write", .int v1), ("step", .int v2), ("follow", .int v3), ("code", .loc 12), ("sign", .int 1)] [.tab lp09, .nums n1 g1, .nums n2 g2, .nums n3 g3, .nums N g, .nums 5 pl, .idict none (tape tp), .nums n7 g7, .nums 65536 f, .list [.loc 16], .nums n10 g10, .nums n11 g11, .nums n12 g12, .nums n13 g13, .nums n14 g14, .nums n15 g15, .nums n16 g16] Q = (ruleC g N s 1 fun w1 d2 d3 => cond (decide (s.fmod 2 = 0)) (cond (decide (d2 = 1)) (gd d3 5 (Q .next [("numbers", .loc 4), ("state", .int s), ("places", .loc 5), ("away", .int w), ("rules", .loc 9), ("write", .int w1), ("step", .int d2), ("follow", .int d3), ("code", .loc 19), ("sign", .int 1)] [.tab lp09, .nums n1 g1, .nums n2 g2, .nums n3 g3, .nums N g, .nums 5 pl, .idict none (tape tp), .nums n7 g7, .nums 65536 f, .list [.loc 16, .loc 23], .nums n10 g10, .nums n11 g11, .nums n12 g12, .nums n13 g13, .nums n14 g14, .nums n15 g15, .nums n16 g16, .nums 2 (getI [169, w1]), .nums 2 (ywr), .nums 10 (cd w1 (ywr) 6 inc6), .nums 6 inc6, .nums 1 (getI [76]), .nums 11 (appF 10 (cd w1 (ywr) 6 inc6) (getI [76])), .nums 13 (rl w1 (ywr) 6 inc6 (pl d3.toNat))])) (gd d3 5 (Q .next [("numbers", .loc 4), ("state", .int s), ("places", .loc 5), ("away", .int w), ("rules", .loc 9), ("write", .int w1), ("step", .int d2), ("follow", .int d3), ("code", .loc 19), ("sign", .int 1)] [.tab lp09, .nums n1 g1, .nums n2 g2, .nums n3 g3, .nums N g, .nums 5 pl, .idict none (tape tp), .nums n7 g7, .nums 65536 f, .list [.loc 16, .loc 23], .nums n10 g10, .nums n11 g11, .nums n12 g12, .nums n13 g13, .nums n14 g14, .nums n15 g15, .nums n16 g16, .nums 2 (getI [169, w1]), .nums 2 (ywr), .nums 12 (cd w1 (ywr) 8 dec8), .nums 8 dec8, .nums 1 (getI [76]), .nums 13 (appF 12 (cd w1 (ywr) 8 dec8) (getI [76])), .nums 15 (rl w1 (ywr) 8 dec8 (pl d3.toNat))]))) (cond (decide (d2 = 1)) (gd d3 5 (Q .next [("numbers", .loc 4), ("state", .int s), ("places", .loc 5), ("away", .int w), ("rules", .loc 9), ("write", .int w1), ("step", .int d2), ("follow", .int d3), ("code", .loc 19), ("sign", .int 1)] [.tab lp09, .nums n1 g1, .nums n2 g2, .nums n3 g3, .nums N g, .nums 5 pl, .idict none (tape tp), .nums n7 g7, .nums 65536 f, .list [.loc 16, .loc 23], .nums n10 g10, .nums n11 g11, .nums n12 g12, .nums n13 g13, .nums n14 g14, .nums n15 g15, .nums n16 g16, .nums 2 (getI [169, w1]), .nums 2 (xwr w), .nums 10 (cd w1 (xwr w) 6 inc6), .nums 6 inc6, .nums 1 (getI [76]), .nums 11 (appF 10 (cd w1 (xwr w) 6 inc6) (getI [76])), .nums 13 (rl w1 (xwr w) 6 inc6 (pl d3.toNat))])) (gd d3 5 (Q .next [("numbers", .loc 4), ("state", .int s), ("places", .loc 5), ("away", .int w), ("rules", .loc 9), ("write", .int w1), ("step", .int d2), ("follow", .int d3), ("code", .loc 19), ("sign", .int 1)] [.tab lp09, .nums n1 g1, .nums n2 g2, .nums n3 g3, .nums N g, .nums 5 pl, .idict none (tape tp), .nums n7 g7, .nums 65536 f, .list [.loc 16, .loc 23], .nums n10 g10, .nums n11 g11, .nums n12 g12, .nums n13 g13, .nums n14 g14, .nums n15 g15, .nums n16 g16, .nums 2 (getI [169, w1]), .nums 2 (xwr w), .nums 12 (cd w1 (xwr w) 8 dec8), .nums 8 dec8, .nums 1 (getI [76]), .nums 13 (appF 12 (cd w1 (xwr w) 8 dec8) (getI [76])), .nums 15 (rl w1 (xwr w) 8 dec8 (pl d3.toNat))])))) := by kernel_rfl
theorem blk_x1 : delS (nmOf (forTg bFor)) ([("numbers", .loc 4), ("state", .int s), ("places", .loc 5), ("away", .int w), ("rules", .loc 9), ("write", .int v1), ("step", .int v2), ("follow", .int v3), ("code", .loc 19), ("sign", .int 1)] : Loc) = ([("numbers", .loc 4), ("state", .int s), ("places", .loc 5), ("away", .int w), ("rules", .loc 9), ("write", .int v1), ("step", .int v2), ("follow", .int v3), ("code", .loc 19)] : Loc) := by kernel_rfl
theorem blk_t2 : asgI (inN (g09 n scr) 94) blkSc (forTg bFor) (.int (0 + ((2 : Nat) : Int))) [("numbers", .loc 4), ("state", .int s), ("places", .loc 5), ("away", .int w), ("rules", .loc 9), ("write", .int v1), ("step", .int v2), ("follow", .int v3), ("code", .loc 19)] σ C = C [("numbers", .loc 4), ("state", .int s), ("places", .loc 5), ("away", .int w), ("rules", .loc 9), ("write", .int v1), ("step", .int v2), ("follow", .int v3), ("code", .loc 19), ("sign", .int 2)] σ := by kernel_rfl
theorem blk_b2 : stmtsI ((inN (g09 n scr) 94).ex blkSc) (forBo bFor) [("numbers", .loc 4), ("state", .int s), ("places", .loc 5), ("away", .int w), ("rules", .loc 9), ("write", .int v1), ("step", .int v2), ("follow", .int v3), ("code", .loc 19), ("sign", .int 2)] [.tab lp09, .nums n1 g1, .nums n2 g2, .nums n3 g3, .nums N g, .nums 5 pl, .idict none (tape tp), .nums n7 g7, .nums 65536 f, .list [.loc 16, .loc 23], .nums n10 g10, .nums n11 g11, .nums n12 g12, .nums n13 g13, .nums n14 g14, .nums n15 g15, .nums n16 g16, .nums n17 g17, .nums n18 g18, .nums n19 g19, .nums n20 g20, .nums n21 g21, .nums n22 g22, .nums n23 g23] Q = (ruleC g N s 2 fun w1 d2 d3 => cond (decide (s.fmod 2 = 0)) (cond (decide (d2 = 1)) (gd d3 5 (Q .next [("numbers", .loc 4), ("state", .int s), ("places", .loc 5), ("away", .int w), ("rules", .loc 9), ("write", .int w1), ("step", .int d2), ("follow", .int d3), ("code", .loc 26), ("sign", .int 2)] [.tab lp09, .nums n1 g1, .nums n2 g2, .nums n3 g3, .nums N g, .nums 5 pl, .idict none (tape tp), .nums n7 g7, .nums 65536 f, .list [.loc 16, .loc 23, .loc 30], .nums n10 g10, .nums n11 g11, .nums n12 g12, .nums n13 g13, .nums n14 g14, .nums n15 g15, .nums n16 g16, .nums n17 g17, .nums n18 g18, .nums n19 g19, .nums n20 g20, .nums n21 g21, .nums n22 g22, .nums n23 g23, .nums 2 (getI [169, w1]), .nums 2 (ywr), .nums 10 (cd w1 (ywr) 6 inc6), .nums 6 inc6, .nums 1 (getI [76]), .nums 11 (appF 10 (cd w1 (ywr) 6 inc6) (getI [76])), .nums 13 (rl w1 (ywr) 6 inc6 (pl d3.toNat))])) (gd d3 5 (Q .next [("numbers", .loc 4), ("state", .int s), ("places", .loc 5), ("away", .int w), ("rules", .loc 9), ("write", .int w1), ("step", .int d2), ("follow", .int d3), ("code", .loc 26), ("sign", .int 2)] [.tab lp09, .nums n1 g1, .nums n2 g2, .nums n3 g3, .nums N g, .nums 5 pl, .idict none (tape tp), .nums n7 g7, .nums 65536 f, .list [.loc 16, .loc 23, .loc 30], .nums n10 g10, .nums n11 g11, .nums n12 g12, .nums n13 g13, .nums n14 g14, .nums n15 g15, .nums n16 g16, .nums n17 g17, .nums n18 g18, .nums n19 g19, .nums n20 g20, .nums n21 g21, .nums n22 g22, .nums n23 g23, .nums 2 (getI [169, w1]), .nums 2 (ywr), .nums 12 (cd w1 (ywr) 8 dec8), .nums 8 dec8, .nums 1 (getI [76]), .nums 13 (appF 12 (cd w1 (ywr) 8 dec8) (getI [76])), .nums 15 (rl w1 (ywr) 8 dec8 (pl d3.toNat))]))) (cond (decide (d2 = 1)) (gd d3 5 (Q .next [("numbers", .loc 4), ("state", .int s), ("places", .loc 5), ("away", .int w), ("rules", .loc 9), ("write", .int w1), ("step", .int d2), ("follow", .int d3), ("code", .loc 26), ("sign", .int 2)] [.tab lp09, .nums n1 g1, .nums n2 g2, .nums n3 g3, .nums N g, .nums 5 pl, .idict none (tape tp), .nums n7 g7, .nums 65536 f, .list [.loc 16, .loc 23, .loc 30], .nums n10 g10, .nums n11 g11, .nums n12 g12, .nums n13 g13, .nums n14 g14, .nums n15 g15, .nums n16 g16, .nums n17 g17, .nums n18 g18, .nums n19 g19, .nums n20 g20, .nums n21 g21, .nums n22 g22, .nums n23 g23, .nums 2 (getI [169, w1]), .nums 2 (xwr w), .nums 10 (cd w1 (xwr w) 6 inc6), .nums 6 inc6, .nums 1 (getI [76]), .nums 11 (appF 10 (cd w1 (xwr w) 6 inc6) (getI [76])), .nums 13 (rl w1 (xwr w) 6 inc6 (pl d3.toNat))])) (gd d3 5 (Q .next [("numbers", .loc 4), ("state", .int s), ("places", .loc 5), ("away", .int w), ("rules", .loc 9), ("write", .int w1), ("step", .int d2), ("follow", .int d3), ("code", .loc 26), ("sign", .int 2)] [.tab lp09, .nums n1 g1, .nums n2 g2, .nums n3 g3, .nums N g, .nums 5 pl, .idict none (tape tp), .nums n7 g7, .nums 65536 f, .list [.loc 16, .loc 23, .loc 30], .nums n10 g10, .nums n11 g11, .nums n12 g12, .nums n13 g13, .nums n14 g14, .nums n15 g15, .nums n16 g16, .nums n17 g17, .nums n18 g18, .nums n19 g19, .nums n20 g20, .nums n21 g21, .nums n22 g22, .nums n23 g23, .nums 2 (getI [169, w1]), .nums 2 (xwr w), .nums 12 (cd w1 (xwr w) 8 dec8), .nums 8 dec8, .nums 1 (getI [76]), .nums 13 (appF 12 (cd w1 (xwr w) 8 dec8) (getI [76])), .nums 15 (rl w1 (xwr w) 8 dec8 (pl d3.toNat))])))) := by kernel_rfl
theorem blk_x2 : delS (nmOf (forTg bFor)) ([("numbers", .loc 4), ("state", .int s), ("places", .loc 5), ("away", .int w), ("rules", .loc 9), ("write", .int v1), ("step", .int v2), ("follow", .int v3), ("code", .loc 26), ("sign", .int 2)] : Loc) = ([("numbers", .loc 4), ("state", .int s), ("places", .loc 5), ("away", .int w), ("rules", .loc 9), ("write", .int v1), ("step", .int v2), ("follow", .int v3), ("code", .loc 26)] : Loc) := by kernel_rfl
theorem blk_2 : stmtsI ((inN (g09 n scr) 95).ex blkSc) (blkBo.drop 2) [("numbers", .loc 4), ("state", .int s), ("places", .loc 5), ("away", .int w), ("rules", .loc 9), ("write", .int v1), ("step", .int v2), ("follow", .int v3), ("code", .loc 26)] [.tab lp09, .nums n1 g1, .nums n2 g2, .nums n3 g3, .nums N g, .nums 5 pl, .idict none (tape tp), .nums n7 g7, .nums 65536 f, .list [.loc 16, .loc 23, .loc 30], .nums n10 g10, .nums n11 g11, .nums n12 g12, .nums n13 g13, .nums n14 g14, .nums n15 g15, .nums n16 g16, .nums n17 g17, .nums n18 g18, .nums n19 g19, .nums n20 g20, .nums n21 g21, .nums n22 g22, .nums n23 g23, .nums n24 g24, .nums n25 g25, .nums n26 g26, .nums n27 g27, .nums n28 g28, .nums n29 g29, .nums n30 g30] (retK (gcK 9 K)) = cond (decide (s.fmod 2 = 0)) (cond (decide (26 + n16 ≤ 1000000)) (cond (decide (26 + n16 + n23 ≤ 1000000)) (cond (decide (26 + n16 + n23 + n30 ≤ 1000000)) (K (.fnum (26 + n16 + n23 + n30) (appF (26 + n16 + n23) (appF (26 + n16) (appF 26 (appF 20 (appF 16 (getI [198, 16, 208, 3, 76, 88, 2, 166, 17, 169, s, 157, 128, 2, 230, 17]) (getI [160, 0, 177, 18])) (getI [201, 1, 240, 2 + (n16 : Int), 176, (n16 : Int) + (n23 : Int)])) g16) g23) g30)) [.tab lp09, .nums n1 g1, .nums n2 g2, .nums n3 g3, .nums N g, .nums 5 pl, .idict none (tape tp), .nums n7 g7, .nums 65536 f]) False) False) False) (cond (decide (26 + n16 ≤ 1000000)) (cond (decide (26 + n16 + n23 ≤ 1000000)) (cond (decide (26 + n16 + n23 + n30 ≤ 1000000)) (K (.fnum (26 + n16 + n23 + n30) (appF (26 + n16 + n23) (appF (26 + n16) (appF 26 (appF 20 (appF 16 (getI [198, 16, 208, 3, 76, 88, 2, 166, 17, 169, s, 157, 128, 2, 230, 17]) (getI [162, w, 161, (18 - w).fmod 256])) (getI [201, 1, 240, 2 + (n16 : Int), 176, (n16 : Int) + (n23 : Int)])) g16) g23) g30)) [.tab lp09, .nums n1 g1, .nums n2 g2, .nums n3 g3, .nums N g, .nums 5 pl, .idict none (tape tp), .nums n7 g7, .nums 65536 f]) False) False) False) := by kernel_rfl
end
end Mine
end
section
set_option Elab.async false
set_option maxRecDepth 100000
set_option linter.unusedVariables false
open PySem PySem.W PyProof.Rows PySem.Claim2Try PySem.Pin
namespace Mine
open PySem.Challenge
theorem small_i {t : Int} (h0 : 0 ≤ t) (h1 : t < 1000000000) : small t = true := by
  unfold small; exact decide_eq_true (by omega)
theorem gd_n {i : Int} {N : Nat} {P : Prop} (h0 : 0 ≤ i) (h1 : i < N) (h : P) : gd i N P := by
  unfold gd; rw [decide_eq_true h0, decide_eq_true h1]; exact h
theorem fdiv_lit (k : Int) (n : Nat) : k.fdiv (n : Int) = k / (n : Int) := Int.fdiv_eq_ediv_of_nonneg _ (Int.natCast_nonneg n)
theorem fmod_lit (k : Int) (n : Nat) : k.fmod (n : Int) = k % (n : Int) := Int.fmod_eq_emod_of_nonneg _ (Int.natCast_nonneg n)
/-- the rule of a state and a sign -/
noncomputable def rW (g : Nat → Int) (s t : Int) : Int := (g (3 * s + t).toNat + t + s).fmod 3
noncomputable def rD (g : Nat → Int) (s t : Int) : Int := cond (decide ((((g (3 * s + t).toNat).fdiv 3 + t).fmod 2) = 0)) 1 (-1)
noncomputable def pick (g : Nat → Int) (s t : Int) : Int := ((g (3 * s + t).toNat).fdiv 2 + s + 2 * t + 1).fmod 9
noncomputable def rF (g : Nat → Int) (s t : Int) : Int := cond (decide (pick g s t = 8)) 4 ((pick g s t).fmod 4)
theorem rW_b (g : Nat → Int) (s t : Int) : 0 ≤ rW g s t ∧ rW g s t < 3 := by
  unfold rW; rw [show ∀ x : Int, x.fmod 3 = _ from fun x => fmod_lit x 3]; omega
theorem rD_b (g : Nat → Int) (s t : Int) : rD g s t = 1 ∨ rD g s t = -1 := by
  unfold rD
  cases decide ((((g (3 * s + t).toNat).fdiv 3 + t).fmod 2) = 0)
  · exact .inr rfl
  · exact .inl rfl
theorem rF_b (g : Nat → Int) (s t : Int) : 0 ≤ rF g s t ∧ rF g s t < 5 := by
  unfold rF
  cases decide (pick g s t = 8)
  · show 0 ≤ (pick g s t).fmod 4 ∧ (pick g s t).fmod 4 < 5
    rw [show ∀ x : Int, x.fmod 4 = _ from fun x => fmod_lit x 4]; omega
  · show (0 : Int) ≤ 4 ∧ (4 : Int) < 5; decide
theorem ruleC_i {g : Nat → Int} {N : Nat} {s t : Int} {K : Int → Int → Int → Prop} (hN : 12 ≤ N) (s0 : 0 ≤ s) (s1 : s < 4) (t0 : 0 ≤ t) (t1 : t < 3) (h : K (rW g s t) (rD g s t) (rF g s t)) : ruleC g N s t K := by
  unfold ruleC
  refine cond_t (by rw [small_i s0 (by omega)]; rfl) (gd_n (by omega) (by omega) (cond_t (by rw [small_i t0 (by omega)]; rfl) ?_))
  unfold rW rD rF pick at h
  refine cond_b (fun e => ?_) (fun e => ?_)
  · rw [e] at h
    refine cond_b (fun e2 => ?_) (fun e2 => ?_)
    · rw [e2] at h; exact h
    · rw [e2] at h; exact h
  · rw [e] at h
    refine cond_b (fun e2 => ?_) (fun e2 => ?_)
    · rw [e2] at h; exact h
    · rw [e2] at h; exact h
theorem getI_app (l m : List Int) : appF l.length (getI l) (getI m) = getI (l ++ m) := by
  funext i
  unfold appF getI
  by_cases h : i < l.length
  · rw [Nat.blt_eq.mpr h, List.getD_eq_getElem?_getD, List.getD_eq_getElem?_getD, List.getD_eq_getElem?_getD, List.getElem?_append_left h]; rfl
  · rw [show Nat.blt i l.length = false from by rw [Bool.eq_false_iff]; exact fun z => h (Nat.blt_eq.mp z), List.getD_eq_getElem?_getD, List.getD_eq_getElem?_getD, List.getD_eq_getElem?_getD, List.getElem?_append_right (by omega)]; rfl
noncomputable def ruleL (ev : Bool) (v d w p : Int) : List Int := [169, v] ++ cond ev [145, 18] [129, (18 - w).fmod 256] ++ cond (decide (d = 1)) [230, 18, 208, 2, 230, 19] [165, 18, 208, 2, 198, 19, 198, 18] ++ [76] ++ [p.fmod 256, p.fdiv 256]
noncomputable def preL (ev : Bool) (s w m0 m1 : Int) : List Int := [198, 16, 208, 3, 76, 88, 2, 166, 17, 169, s, 157, 128, 2, 230, 17] ++ cond ev [160, 0, 177, 18] [162, w, 161, (18 - w).fmod 256] ++ [201, 1, 240, 2 + m0, 176, m0 + m1]
noncomputable def evn (s : Int) : Bool := decide (s.fmod 2 = 0)
noncomputable def rulL (g pl : Nat → Int) (s w t : Int) : List Int := ruleL (evn s) (rW g s t) (rD g s t) w (pl (rF g s t).toNat)
noncomputable def blockL (g pl : Nat → Int) (s w : Int) : List Int := preL (evn s) s w (rulL g pl s w 0).length (rulL g pl s w 1).length ++ rulL g pl s w 0 ++ rulL g pl s w 1 ++ rulL g pl s w 2
theorem rl_eq (v w d p : Int) : rl v ywr 6 inc6 p = getI (ruleL true v 1 w p) ∧ rl v ywr 8 dec8 p = getI (ruleL true v (-1) w p) ∧ rl v (xwr w) 6 inc6 p = getI (ruleL false v 1 w p) ∧ rl v (xwr w) 8 dec8 p = getI (ruleL false v (-1) w p) := by
  have key : ∀ (a b c d e : List Int), appF (((a ++ b) ++ c) ++ d).length (appF ((a ++ b) ++ c).length (appF (a ++ b).length (appF a.length (getI a) (getI b)) (getI c)) (getI d)) (getI e) = getI (a ++ b ++ c ++ d ++ e) := fun a b c d e => by
    rw [getI_app, getI_app, getI_app, getI_app]
  exact ⟨key [169, v] [145, 18] [230, 18, 208, 2, 230, 19] [76] [p.fmod 256, p.fdiv 256], key [169, v] [145, 18] [165, 18, 208, 2, 198, 19, 198, 18] [76] [p.fmod 256, p.fdiv 256], key [169, v] [129, (18 - w).fmod 256] [230, 18, 208, 2, 230, 19] [76] [p.fmod 256, p.fdiv 256], key [169, v] [129, (18 - w).fmod 256] [165, 18, 208, 2, 198, 19, 198, 18] [76] [p.fmod 256, p.fdiv 256]⟩
section
variable (n : Nat) (scr : Nat → Int) (N : Nat) (g pl tp f : Nat → Int) (s w : Int) (K : KV) (Q : KF) (L : Loc) (σ : Hp) (v1 v2 v3 : Int)
variable (n1 : Nat) (g1 : Nat → Int) (n2 : Nat) (g2 : Nat → Int) (n3 : Nat) (g3 : Nat → Int) (n7 : Nat) (g7 : Nat → Int)
theorem blk_s0 (hN : 12 ≤ N) (s0 : 0 ≤ s) (s1 : s < 4)  (h : ∀ RL : List Int, RL = rulL g pl s w 0 → ∀ (n10 : Nat) (g10 : Nat → Int) (n11 : Nat) (g11 : Nat → Int) (n12 : Nat) (g12 : Nat → Int) (n13 : Nat) (g13 : Nat → Int) (n14 : Nat) (g14 : Nat → Int) (n15 : Nat) (g15 : Nat → Int), Q .next [("numbers", .loc 4), ("state", .int s), ("places", .loc 5), ("away", .int w), ("rules", .loc 9), ("sign", .int 0), ("write", .int (rW g s 0)), ("step", .int (rD g s 0)), ("follow", .int (rF g s 0)), ("code", .loc 12)] [.tab lp09, .nums n1 g1, .nums n2 g2, .nums n3 g3, .nums N g, .nums 5 pl, .idict none (tape tp), .nums n7 g7, .nums 65536 f, .list [.loc 16], .nums n10 g10, .nums n11 g11, .nums n12 g12, .nums n13 g13, .nums n14 g14, .nums n15 g15, .nums RL.length (getI RL)]) : stmtsI ((inN (g09 n scr) 94).ex blkSc) (forBo bFor) [("numbers", .loc 4), ("state", .int s), ("places", .loc 5), ("away", .int w), ("rules", .loc 9), ("sign", .int 0)] [.tab lp09, .nums n1 g1, .nums n2 g2, .nums n3 g3, .nums N g, .nums 5 pl, .idict none (tape tp), .nums n7 g7, .nums 65536 f, .nums 0 (getI [])] Q := by
  rw [blk_b0]
  refine ruleC_i hN s0 s1 (by decide) (by decide) ?_
  have fb := rF_b g s 0
  obtain ⟨q1, q2, q3, q4⟩ := rl_eq (rW g s 0) w 0 (pl (rF g s 0).toNat)
  refine cond_b (fun e => ?_) (fun e => ?_)
  · rcases rD_b g s 0 with e2 | e2
    · refine cond_t (decide_eq_true e2) (gd_n fb.1 fb.2 ?_)
      rw [q1]
      exact h _ (by unfold rulL; rw [show evn s = true from e, e2]) _ _ _ _ _ _ _ _ _ _ _ _
    · refine cond_f (by rw [e2]; rfl) (gd_n fb.1 fb.2 ?_)
      rw [q2]
      exact h _ (by unfold rulL; rw [show evn s = true from e, e2]) _ _ _ _ _ _ _ _ _ _ _ _
  · rcases rD_b g s 0 with e2 | e2
    · refine cond_t (decide_eq_true e2) (gd_n fb.1 fb.2 ?_)
      rw [q3]
      exact h _ (by unfold rulL; rw [show evn s = false from e, e2]) _ _ _ _ _ _ _ _ _ _ _ _
    · refine cond_f (by rw [e2]; rfl) (gd_n fb.1 fb.2 ?_)
      rw [q4]
      exact h _ (by unfold rulL; rw [show evn s = false from e, e2]) _ _ _ _ _ _ _ _ _ _ _ _
theorem blk_s1 (hN : 12 ≤ N) (s0 : 0 ≤ s) (s1 : s < 4) (n10 : Nat) (g10 : Nat → Int) (n11 : Nat) (g11 : Nat → Int) (n12 : Nat) (g12 : Nat → Int) (n13 : Nat) (g13 : Nat → Int) (n14 : Nat) (g14 : Nat → Int) (n15 : Nat) (g15 : Nat → Int) (n16 : Nat) (g16 : Nat → Int) (h : ∀ RL : List Int, RL = rulL g pl s w 1 → ∀ (n17 : Nat) (g17 : Nat → Int) (n18 : Nat) (g18 : Nat → Int) (n19 : Nat) (g19 : Nat → Int) (n20 : Nat) (g20 : Nat → Int) (n21 : Nat) (g21 : Nat → Int) (n22 : Nat) (g22 : Nat → Int), Q .next [("numbers", .loc 4), ("state", .int s), ("places", .loc 5), ("away", .int w), ("rules", .loc 9), ("write", .int (rW g s 1)), ("step", .int (rD g s 1)), ("follow", .int (rF g s 1)), ("code", .loc 19), ("sign", .int 1)] [.tab lp09, .nums n1 g1, .nums n2 g2, .nums n3 g3, .nums N g, .nums 5 pl, .idict none (tape tp), .nums n7 g7, .nums 65536 f, .list [.loc 16, .loc 23], .nums n10 g10, .nums n11 g11, .nums n12 g12, .nums n13 g13, .nums n14 g14, .nums n15 g15, .nums n16 g16, .nums n17 g17, .nums n18 g18, .nums n19 g19, .nums n20 g20, .nums n21 g21, .nums n22 g22, .nums RL.length (getI RL)]) : stmtsI ((inN (g09 n scr) 94).ex blkSc) (forBo bFor) [("numbers", .loc 4), ("state", .int s), ("places", .loc 5), ("away", .int w), ("rules", .loc 9), ("write", .int v1), ("step", .int v2), ("follow", .int v3), ("code", .loc 12), ("sign", .int 1)] [.tab lp09, .nums n1 g1, .nums n2 g2, .nums n3 g3, .nums N g, .nums 5 pl, .idict none (tape tp), .nums n7 g7, .nums 65536 f, .list [.loc 16], .nums n10 g10, .nums n11 g11, .nums n12 g12, .nums n13 g13, .nums n14 g14, .nums n15 g15, .nums n16 g16] Q := by
  rw [blk_b1]
  refine ruleC_i hN s0 s1 (by decide) (by decide) ?_
  have fb := rF_b g s 1
  obtain ⟨q1, q2, q3, q4⟩ := rl_eq (rW g s 1) w 0 (pl (rF g s 1).toNat)
  refine cond_b (fun e => ?_) (fun e => ?_)
  · rcases rD_b g s 1 with e2 | e2
    · refine cond_t (decide_eq_true e2) (gd_n fb.1 fb.2 ?_)
      rw [q1]
      exact h _ (by unfold rulL; rw [show evn s = true from e, e2]) _ _ _ _ _ _ _ _ _ _ _ _
    · refine cond_f (by rw [e2]; rfl) (gd_n fb.1 fb.2 ?_)
      rw [q2]
      exact h _ (by unfold rulL; rw [show evn s = true from e, e2]) _ _ _ _ _ _ _ _ _ _ _ _
  · rcases rD_b g s 1 with e2 | e2
    · refine cond_t (decide_eq_true e2) (gd_n fb.1 fb.2 ?_)
      rw [q3]
      exact h _ (by unfold rulL; rw [show evn s = false from e, e2]) _ _ _ _ _ _ _ _ _ _ _ _
    · refine cond_f (by rw [e2]; rfl) (gd_n fb.1 fb.2 ?_)
      rw [q4]
      exact h _ (by unfold rulL; rw [show evn s = false from e, e2]) _ _ _ _ _ _ _ _ _ _ _ _
theorem blk_s2 (hN : 12 ≤ N) (s0 : 0 ≤ s) (s1 : s < 4) (n10 : Nat) (g10 : Nat → Int) (n11 : Nat) (g11 : Nat → Int) (n12 : Nat) (g12 : Nat → Int) (n13 : Nat) (g13 : Nat → Int) (n14 : Nat) (g14 : Nat → Int) (n15 : Nat) (g15 : Nat → Int) (n16 : Nat) (g16 : Nat → Int) (n17 : Nat) (g17 : Nat → Int) (n18 : Nat) (g18 : Nat → Int) (n19 : Nat) (g19 : Nat → Int) (n20 : Nat) (g20 : Nat → Int) (n21 : Nat) (g21 : Nat → Int) (n22 : Nat) (g22 : Nat → Int) (n23 : Nat) (g23 : Nat → Int) (h : ∀ RL : List Int, RL = rulL g pl s w 2 → ∀ (n24 : Nat) (g24 : Nat → Int) (n25 : Nat) (g25 : Nat → Int) (n26 : Nat) (g26 : Nat → Int) (n27 : Nat) (g27 : Nat → Int) (n28 : Nat) (g28 : Nat → Int) (n29 : Nat) (g29 : Nat → Int), Q .next [("numbers", .loc 4), ("state", .int s), ("places", .loc 5), ("away", .int w), ("rules", .loc 9), ("write", .int (rW g s 2)), ("step", .int (rD g s 2)), ("follow", .int (rF g s 2)), ("code", .loc 26), ("sign", .int 2)] [.tab lp09, .nums n1 g1, .nums n2 g2, .nums n3 g3, .nums N g, .nums 5 pl, .idict none (tape tp), .nums n7 g7, .nums 65536 f, .list [.loc 16, .loc 23, .loc 30], .nums n10 g10, .nums n11 g11, .nums n12 g12, .nums n13 g13, .nums n14 g14, .nums n15 g15, .nums n16 g16, .nums n17 g17, .nums n18 g18, .nums n19 g19, .nums n20 g20, .nums n21 g21, .nums n22 g22, .nums n23 g23, .nums n24 g24, .nums n25 g25, .nums n26 g26, .nums n27 g27, .nums n28 g28, .nums n29 g29, .nums RL.length (getI RL)]) : stmtsI ((inN (g09 n scr) 94).ex blkSc) (forBo bFor) [("numbers", .loc 4), ("state", .int s), ("places", .loc 5), ("away", .int w), ("rules", .loc 9), ("write", .int v1), ("step", .int v2), ("follow", .int v3), ("code", .loc 19), ("sign", .int 2)] [.tab lp09, .nums n1 g1, .nums n2 g2, .nums n3 g3, .nums N g, .nums 5 pl, .idict none (tape tp), .nums n7 g7, .nums 65536 f, .list [.loc 16, .loc 23], .nums n10 g10, .nums n11 g11, .nums n12 g12, .nums n13 g13, .nums n14 g14, .nums n15 g15, .nums n16 g16, .nums n17 g17, .nums n18 g18, .nums n19 g19, .nums n20 g20, .nums n21 g21, .nums n22 g22, .nums n23 g23] Q := by
  rw [blk_b2]
  refine ruleC_i hN s0 s1 (by decide) (by decide) ?_
  have fb := rF_b g s 2
  obtain ⟨q1, q2, q3, q4⟩ := rl_eq (rW g s 2) w 0 (pl (rF g s 2).toNat)
  refine cond_b (fun e => ?_) (fun e => ?_)
  · rcases rD_b g s 2 with e2 | e2
    · refine cond_t (decide_eq_true e2) (gd_n fb.1 fb.2 ?_)
      rw [q1]
      exact h _ (by unfold rulL; rw [show evn s = true from e, e2]) _ _ _ _ _ _ _ _ _ _ _ _
    · refine cond_f (by rw [e2]; rfl) (gd_n fb.1 fb.2 ?_)
      rw [q2]
      exact h _ (by unfold rulL; rw [show evn s = true from e, e2]) _ _ _ _ _ _ _ _ _ _ _ _
  · rcases rD_b g s 2 with e2 | e2
    · refine cond_t (decide_eq_true e2) (gd_n fb.1 fb.2 ?_)
      rw [q3]
      exact h _ (by unfold rulL; rw [show evn s = false from e, e2]) _ _ _ _ _ _ _ _ _ _ _ _
    · refine cond_f (by rw [e2]; rfl) (gd_n fb.1 fb.2 ?_)
      rw [q4]
      exact h _ (by unfold rulL; rw [show evn s = false from e, e2]) _ _ _ _ _ _ _ _ _ _ _ _
theorem rul_len (t : Int) : (rulL g pl s w t).length ≤ 15 ∧ 13 ≤ (rulL g pl s w t).length := by
  unfold rulL ruleL
  rcases rD_b g s t with e | e <;> rw [e] <;> cases evn s <;> exact ⟨Nat.le_of_ble_eq_true (by kernel_rfl), Nat.le_of_ble_eq_true (by kernel_rfl)⟩
theorem ca96 (G : Pg) : (inN G 96).ca = caB G (inN G 95) := by kernel_rfl
theorem block (hN : 12 ≤ N) (s0 : 0 ≤ s) (s1 : s < 4) (h : K (.fnum (blockL g pl s w).length (getI (blockL g pl s w))) [.tab lp09, .nums n1 g1, .nums n2 g2, .nums n3 g3, .nums N g, .nums 5 pl, .idict none (tape tp), .nums n7 g7, .nums 65536 f]) : (inN (g09 n scr) 96).ca (.fn nBlock) [.loc 4, .int s, .loc 5, .int w] [] [.tab lp09, .nums n1 g1, .nums n2 g2, .nums n3 g3, .nums N g, .nums 5 pl, .idict none (tape tp), .nums n7 g7, .nums 65536 f] K := by
  rw [ca96, blk_a]
  generalize hbo : blkBo = bo
  have e : bo = blkBo.take 1 ++ ([forSt bFor] ++ blkBo.drop 2) := by rw [← hbo, ← blk_f]; exact blk_c
  rw [e, stmtsI_app, blk_0, nextK_next, stmtsI_app, blk_1, turn_range (by decide), blk_t0, bodyD_eq]
  refine blk_s0 (hN := hN) (s0 := s0) (s1 := s1) (h := fun RL eRL n10 g10 n11 g11 n12 g12 n13 g13 n14 g14 n15 g15 => ?_) ..
  subst eRL
  rw [loopK_next, blk_x0, turn_range (by decide), blk_t1, bodyD_eq]
  refine blk_s1 (hN := hN) (s0 := s0) (s1 := s1) (h := fun RL eRL n17 g17 n18 g18 n19 g19 n20 g20 n21 g21 n22 g22 => ?_) ..
  subst eRL
  rw [loopK_next, blk_x1, turn_range (by decide), blk_t2, bodyD_eq]
  refine blk_s2 (hN := hN) (s0 := s0) (s1 := s1) (h := fun RL eRL n24 g24 n25 g25 n26 g26 n27 g27 n28 g28 n29 g29 => ?_) ..
  subst eRL
  rw [loopK_next, blk_x2, end_range (by decide), nextK_next, show ([.tab lp09, .nums n1 g1, .nums n2 g2, .nums n3 g3, .nums N g, .nums 5 pl, .idict none (tape tp), .nums n7 g7, .nums 65536 f] : Hp).length = 9 from rfl, blk_2]
  have l0 := rul_len g pl s w 0
  have l1 := rul_len g pl s w 1
  have l2 := rul_len g pl s w 2
  have key : ∀ (a b c d e q : List Int), appF ((((a ++ b) ++ c) ++ d) ++ e).length (appF (((a ++ b) ++ c) ++ d).length (appF ((a ++ b) ++ c).length (appF (a ++ b).length (appF a.length (getI a) (getI b)) (getI c)) (getI d)) (getI e)) (getI q) = getI (a ++ b ++ c ++ d ++ e ++ q) := fun a b c d e q => by
    rw [getI_app, getI_app, getI_app, getI_app, getI_app]
  unfold blockL preL at h
  refine cond_b (fun e => ?_) (fun e => ?_)
  · rw [show evn s = true from e] at h
    refine cond_t (decide_eq_true (by omega)) (cond_t (decide_eq_true (by omega)) (cond_t (decide_eq_true (by omega)) ?_))
    have z := key [198, 16, 208, 3, 76, 88, 2, 166, 17, 169, s, 157, 128, 2, 230, 17] [160, 0, 177, 18] [201, 1, 240, 2 + ((rulL g pl s w 0).length : Int), 176, ((rulL g pl s w 0).length : Int) + ((rulL g pl s w 1).length : Int)] (rulL g pl s w 0) (rulL g pl s w 1) (rulL g pl s w 2)
    rw [List.length_append, List.length_append] at z
    show K (.fnum _ _) _
    rw [List.length_append, List.length_append, List.length_append] at h
    refine Eq.mp (congrArg (fun q => K (.fnum (26 + (rulL g pl s w 0).length + (rulL g pl s w 1).length + (rulL g pl s w 2).length) q) _) z.symm) h
  · rw [show evn s = false from e] at h
    refine cond_t (decide_eq_true (by omega)) (cond_t (decide_eq_true (by omega)) (cond_t (decide_eq_true (by omega)) ?_))
    have z := key [198, 16, 208, 3, 76, 88, 2, 166, 17, 169, s, 157, 128, 2, 230, 17] [162, w, 161, (18 - w).fmod 256] [201, 1, 240, 2 + ((rulL g pl s w 0).length : Int), 176, ((rulL g pl s w 0).length : Int) + ((rulL g pl s w 1).length : Int)] (rulL g pl s w 0) (rulL g pl s w 1) (rulL g pl s w 2)
    rw [List.length_append, List.length_append] at z
    show K (.fnum _ _) _
    rw [List.length_append, List.length_append, List.length_append] at h
    refine Eq.mp (congrArg (fun q => K (.fnum (26 + (rulL g pl s w 0).length + (rulL g pl s w 1).length + (rulL g pl s w 2).length) q) _) z.symm) h
end
end Mine
end
section
set_option Elab.async false
set_option maxRecDepth 100000
set_option linter.unusedVariables false
open PySem PySem.W PyProof.Rows PySem.Claim2Try PySem.Pin
namespace Mine
open PySem.Challenge
noncomputable def nLaw : Str := "law"
noncomputable def lawBo : List Stmt := fnBody (topFind nLaw top09)
noncomputable def lawPa : Arguments := fnPa (topFind nLaw top09)
noncomputable def lawSc : Scope := fnSc (topFind nLaw top09)
noncomputable def sg (i j : Nat) : List Stmt := (lawBo.drop i).take (j - i)
noncomputable def st (i : Nat) : Stmt := hdT lawBo i
noncomputable def c12 (t : Int) : Nat → Int := setF (setF (setF (setF (setF (setF (setF (setF (setF (setF (setF (setF (fun _ => 0) 0 (t + 7 * 0)) 1 (t + 7 * 1)) 2 (t + 7 * 2)) 3 (t + 7 * 3)) 4 (t + 7 * 4)) 5 (t + 7 * 5)) 6 (t + 7 * 6)) 7 (t + 7 * 7)) 8 (t + 7 * 8)) 9 (t + 7 * 9)) 10 (t + 7 * 10)) 11 (t + 7 * 11)
noncomputable def plc (t : Int) : Nat → Int := getI [t, t + 249, t + 90, t + 171, 604]
noncomputable def sgv (t : Int) (i : Nat) : Int := (t.fdiv (3 ^ (i % 12)) + (i : Int)).fmod 3
noncomputable def wrs (v : Nat → Int) (h : Int) : Nat → (Nat → Int) → Nat → Int
  | 0, f => f
  | k + 1, f => setF (wrs v h k f) (h + (k : Int) - 8).toNat (v k)
noncomputable def gds (h : Int) (N : Nat) : Nat → Nat → Prop → Prop
  | 0, _, P => P
  | k + 1, i, P => gd (h + (i : Int) - 8) N (gds h N k (i + 1) P)
section
variable (n : Nat) (scr : Nat → Int) (N : Nat) (g pl tp f : Nat → Int) (t v h u s w v1 v2 v3 v4 : Int) (K : KV) (Q : KF) (L : Loc) (σ : Hp) (C : Loc → Hp → Prop) (D : AV)
variable (n1 : Nat) (g1 : Nat → Int) (n2 : Nat) (g2 : Nat → Int) (n3 : Nat) (g3 : Nat → Int) (n7 : Nat) (g7 : Nat → Int) (n9 : Nat) (g9 : Nat → Int)
theorem law_d : defOf (topFind nLaw top09) = some (lawPa, lawBo, lawSc) := by kernel_rfl
theorem law_i (a : AV) : bindI lawPa [a] = some ([("script", a)] : Loc) := by kernel_rfl
theorem law_p : (plainScope lawSc && ([("script", .given)] : Loc).all fun x => ownName lawSc x.1 && notLam x.2) = true := by kernel_rfl
theorem law_a : caB (g09 n scr) (inN (g09 n scr) 99) (.fn nLaw) [.given] [] σ K = stmtsI ((inN (g09 n scr) 99).ex lawSc) lawBo [("script", .given)] σ (retK (gcK σ.length K)) := fn_call law_d (law_i _) law_p
theorem s0 : stmtsI ((inN (g09 n scr) 99).ex lawSc) (sg 0 1) [("script", .given)] [.tab lp09] Q = (Q .next [("script", .given), ("total", .int 0)] [.tab lp09]) := by kernel_rfl
theorem le1 : (inN (g09 n scr) 98).ev lawSc (forIt (st 1)) [("script", .given), ("total", .int t)] [.tab lp09] K = K (.loc 1) [.tab lp09, .nums (min (24 : Int).toNat n - 0) (cutF 0 scr)] := by kernel_rfl
theorem la1 : asgI (inN (g09 n scr) 98) lawSc (forTg (st 1)) (.int v) [("script", .given), ("total", .int t)] σ C = C [("script", .given), ("total", .int t), ("n", .int v)] σ := by kernel_rfl
theorem lb1 : stmtsI ((inN (g09 n scr) 98).ex lawSc) (forBo (st 1)) [("script", .given), ("total", .int t), ("n", .int v)] σ Q = cond (small 31 && small t) (Q .next [("script", .given), ("total", .int ((31 * t + v).fmod 1000003)), ("n", .int v)] σ) False := by kernel_rfl
theorem lx1 : delS (nmOf (forTg (st 1))) ([("script", .given), ("total", .int t), ("n", .int v)] : Loc) = ([("script", .given), ("total", .int t)] : Loc) := by kernel_rfl
theorem lf1 : st 1 = forSt (st 1) := by kernel_rfl
theorem s2 : stmtsI ((inN (g09 n scr) 99).ex lawSc) (sg 2 3) [("script", .given), ("total", .int t)] [.tab lp09, .nums n1 g1] Q = (cond (decide (min (12 : Int).toNat n - 0 + 12 ≤ 1000000)) (Q .next [("script", .given), ("total", .int t), ("numbers", .loc 4)] [.tab lp09, .nums n1 g1, .nums (min (12 : Int).toNat n - 0) (cutF 0 scr), .nums 12 (c12 t), .nums (min (12 : Int).toNat n - 0 + 12) (appF (min (12 : Int).toNat n - 0) (cutF 0 scr) (c12 t))]) False) := by kernel_rfl
theorem s3 : stmtsI ((inN (g09 n scr) 99).ex lawSc) (sg 3 5) [("script", .given), ("total", .int t), ("numbers", .loc 4)] [.tab lp09, .nums n1 g1, .nums n2 g2, .nums n3 g3, .nums N g] Q = (Q .next [("script", .given), ("total", .int t), ("numbers", .loc 4), ("first", .int (20000 + t.fmod 40000)), ("places", .loc 5)] [.tab lp09, .nums n1 g1, .nums n2 g2, .nums n3 g3, .nums N g, .nums 5 (plc (20000 + t.fmod 40000))]) := by kernel_rfl
theorem s5 : stmtsI ((inN (g09 n scr) 99).ex lawSc) (sg 5 6) [("script", .given), ("total", .int t), ("numbers", .loc 4), ("first", .int u), ("places", .loc 5)] [.tab lp09, .nums n1 g1, .nums n2 g2, .nums n3 g3, .nums N g, .nums 5 pl] Q = (cond (small 256 && small ((t.fdiv 3).fmod 40)) (Q .next [("script", .given), ("total", .int t), ("numbers", .loc 4), ("first", .int u), ("places", .loc 5), ("left", .int (6 + (t.fdiv 7).fmod 8)), ("head", .int (4096 + 256 * (t.fdiv 3).fmod 40 + 255 - t.fmod 3))] [.tab lp09, .nums n1 g1, .nums n2 g2, .nums n3 g3, .nums N g, .nums 5 pl]) False) := by kernel_rfl
theorem s6 : stmtsI ((inN (g09 n scr) 99).ex lawSc) (sg 6 8) [("script", .given), ("total", .int t), ("numbers", .loc 4), ("first", .int u), ("places", .loc 5), ("left", .int v), ("head", .int h)] [.tab lp09, .nums n1 g1, .nums n2 g2, .nums n3 g3, .nums N g, .nums 5 pl] Q = (Q .next [("script", .given), ("total", .int t), ("numbers", .loc 4), ("first", .int u), ("places", .loc 5), ("left", .int v), ("head", .int h), ("tape", .loc 6), ("memory", .loc 8)] [.tab lp09, .nums n1 g1, .nums n2 g2, .nums n3 g3, .nums N g, .nums 5 pl, .idict none [], .nums 1 (getI [0]), .nums 65536 (repF 1 (getI [0]))]) := by kernel_rfl
theorem s8 : stmtsI ((inN (g09 n scr) 99).ex lawSc) (sg 8 9) [("script", .given), ("total", .int t), ("numbers", .loc 4), ("first", .int u), ("places", .loc 5), ("left", .int v), ("head", .int h), ("tape", .loc 6), ("memory", .loc 8)] [.tab lp09, .nums n1 g1, .nums n2 g2, .nums n3 g3, .nums N g, .nums 5 pl, .idict none [], .nums n7 g7, .nums 65536 f] Q = (Q .next [("script", .given), ("total", .int t), ("numbers", .loc 4), ("first", .int u), ("places", .loc 5), ("left", .int v), ("head", .int h), ("tape", .loc 6), ("memory", .loc 8)] [.tab lp09, .nums n1 g1, .nums n2 g2, .nums n3 g3, .nums N g, .nums 5 pl, .idict none [], .nums n7 g7, .nums 65536 (setF (setF (setF f 16 v) 18 (h.fmod 256)) 19 (h.fdiv 256))]) := by kernel_rfl
theorem s9 : stmtsI ((inN (g09 n scr) 99).ex lawSc) (sg 9 10) [("script", .given), ("total", .int t), ("numbers", .loc 4), ("first", .int u), ("places", .loc 5), ("left", .int v), ("head", .int h), ("tape", .loc 6), ("memory", .loc 8)] [.tab lp09, .nums n1 g1, .nums n2 g2, .nums n3 g3, .nums N g, .nums 5 pl, .idict none [], .nums n7 g7, .nums 65536 f] Q = (gds h 65536 16 0 (Q .next [("script", .given), ("total", .int t), ("numbers", .loc 4), ("first", .int u), ("places", .loc 5), ("left", .int v), ("head", .int h), ("tape", .loc 6), ("memory", .loc 8), ("sign", .int (sgv t 15))] [.tab lp09, .nums n1 g1, .nums n2 g2, .nums n3 g3, .nums N g, .nums 5 pl, .idict none (tape (sgv t)), .nums n7 g7, .nums 65536 (wrs (sgv t) h 16 f)])) := by kernel_rfl
end
end Mine
end
section
set_option Elab.async false
set_option maxRecDepth 100000
set_option linter.unusedVariables false
open PySem PySem.W PyProof.Rows PySem.Claim2Try PySem.Pin
namespace Mine
open PySem.Challenge
noncomputable def stK (L : Loc) (Q : KF) : KV := fun _ σ => Q .next L σ
/-- the objects around the machine -/
noncomputable def oo (j1 j2 j3 j4 j5 j6 j7 j9 : AObj) (i : Nat) : AObj := cond (Nat.beq i 1) j1 (cond (Nat.beq i 2) j2 (cond (Nat.beq i 3) j3 (cond (Nat.beq i 4) j4 (cond (Nat.beq i 5) j5 (cond (Nat.beq i 6) j6 (cond (Nat.beq i 7) j7 j9))))))
section
variable (n : Nat) (scr : Nat → Int) (N M : Nat) (g pl tp f fr lg : Nat → Int) (t v h u s w v1 v2 v3 v4 p2 : Int) (K : KV) (Q : KF) (L : Loc) (σ : Hp) (C : Loc → Hp → Prop) (D : AV) (V W : AV) (o : Nat → AObj) (a x y sp p pc cyc exc : Int) (ac : AV) (es : List (Int × AV)) (R : List (Str × AV)) (j1 j2 j3 j4 j5 j6 j7 j8 j9 : AObj) (k0 : Nat) (C2 : Bool → Hp → Prop) (K2 : List AV → Hp → Prop)
variable (n1 : Nat) (g1 : Nat → Int) (n2 : Nat) (g2 : Nat → Int) (n3 : Nat) (g3 : Nat → Int) (n7 : Nat) (g7 : Nat → Int) (n9 : Nat) (g9 : Nat → Int)
theorem lx9 : delS "spot" ([("script", .given), ("total", .int t), ("numbers", .loc 4), ("first", .int u), ("places", .loc 5), ("left", .int v), ("head", .int h), ("tape", .loc 6), ("memory", .loc 8), ("spot", .int v2), ("sign", .int v1)] : Loc) = ([("script", .given), ("total", .int t), ("numbers", .loc 4), ("first", .int u), ("places", .loc 5), ("left", .int v), ("head", .int h), ("tape", .loc 6), ("memory", .loc 8), ("sign", .int v1)] : Loc) := by kernel_rfl
theorem lf10 : st 10 = forSt (st 10) := by kernel_rfl
theorem le10 : (inN (g09 n scr) 98).ev lawSc (forIt (st 10)) [("script", .given), ("total", .int t), ("numbers", .loc 4), ("first", .int u), ("places", .loc 5), ("left", .int v), ("head", .int h), ("tape", .loc 6), ("memory", .loc 8), ("sign", .int v1)] σ K = K (.rng 0 ((4 : Nat) : Int)) σ := by kernel_rfl
theorem la10a : asgI (inN (g09 n scr) 98) lawSc (forTg (st 10)) (.int s) [("script", .given), ("total", .int t), ("numbers", .loc 4), ("first", .int u), ("places", .loc 5), ("left", .int v), ("head", .int h), ("tape", .loc 6), ("memory", .loc 8), ("sign", .int v1)] σ C = C [("script", .given), ("total", .int t), ("numbers", .loc 4), ("first", .int u), ("places", .loc 5), ("left", .int v), ("head", .int h), ("tape", .loc 6), ("memory", .loc 8), ("sign", .int v1), ("state", .int s)] σ := by kernel_rfl
theorem lb10a : forBo (st 10) = [.Assign [asTg (hdT (forBo (st 10)) 0)] (caEx (asEx (hdT (forBo (st 10)) 0))) (asPs (hdT (forBo (st 10)) 0))] ++ (forBo (st 10)).drop 1 := by kernel_rfl
theorem lc10a : seqI (fun e σ1 K1 => (inN (g09 n scr) 96).ev lawSc e [("script", .given), ("total", .int t), ("numbers", .loc 4), ("first", .int u), ("places", .loc 5), ("left", .int v), ("head", .int h), ("tape", .loc 6), ("memory", .loc 8), ("sign", .int v1), ("state", .int s)] σ1 K1) (caAr (asEx (hdT (forBo (st 10)) 0))) σ K2 = cond (small 31 && small t) (cond (small 97 && small s) (K2 [.loc 4, .int s, .loc 5, .int ((31 * t + 97 * s).fmod 256)] σ) False) False := by kernel_rfl
theorem ld10a : asgI (inN (g09 n scr) 97) lawSc (asTg (hdT (forBo (st 10)) 0)) (.fnum M fr) [("script", .given), ("total", .int t), ("numbers", .loc 4), ("first", .int u), ("places", .loc 5), ("left", .int v), ("head", .int h), ("tape", .loc 6), ("memory", .loc 8), ("sign", .int v1), ("state", .int s)] σ C = C [("script", .given), ("total", .int t), ("numbers", .loc 4), ("first", .int u), ("places", .loc 5), ("left", .int v), ("head", .int h), ("tape", .loc 6), ("memory", .loc 8), ("sign", .int v1), ("state", .int s), ("code", .fnum M fr)] σ := by kernel_rfl
theorem lg10a : stmtsI ((inN (g09 n scr) 98).ex lawSc) ((forBo (st 10)).drop 1) [("script", .given), ("total", .int t), ("numbers", .loc 4), ("first", .int u), ("places", .loc 5), ("left", .int v), ("head", .int h), ("tape", .loc 6), ("memory", .loc 8), ("sign", .int v1), ("state", .int s), ("code", .fnum M fr)] [.tab lp09, .nums n1 g1, .nums n2 g2, .nums n3 g3, .nums N g, .nums 5 pl, .idict none (tape tp), .nums n7 g7, .nums 65536 f] Q = gd s 5 (gd s 5 (setSliceI (.loc 8) (.int (pl s.toNat)) (.int (pl s.toNat + (M : Int))) (.fnum M fr) [.tab lp09, .nums n1 g1, .nums n2 g2, .nums n3 g3, .nums N g, .nums 5 pl, .idict none (tape tp), .nums n7 g7, .nums 65536 f] fun σ1 => Q .next [("script", .given), ("total", .int t), ("numbers", .loc 4), ("first", .int u), ("places", .loc 5), ("left", .int v), ("head", .int h), ("tape", .loc 6), ("memory", .loc 8), ("sign", .int v1), ("state", .int s), ("code", .fnum M fr)] σ1)) := by kernel_rfl
theorem lx10a : delS (nmOf (forTg (st 10))) ([("script", .given), ("total", .int t), ("numbers", .loc 4), ("first", .int u), ("places", .loc 5), ("left", .int v), ("head", .int h), ("tape", .loc 6), ("memory", .loc 8), ("sign", .int v1), ("state", .int s), ("code", .fnum M fr)] : Loc) = ([("script", .given), ("total", .int t), ("numbers", .loc 4), ("first", .int u), ("places", .loc 5), ("left", .int v), ("head", .int h), ("tape", .loc 6), ("memory", .loc 8), ("sign", .int v1), ("code", .fnum M fr)] : Loc) := by kernel_rfl
theorem la10b : asgI (inN (g09 n scr) 98) lawSc (forTg (st 10)) (.int s) [("script", .given), ("total", .int t), ("numbers", .loc 4), ("first", .int u), ("places", .loc 5), ("left", .int v), ("head", .int h), ("tape", .loc 6), ("memory", .loc 8), ("sign", .int v1), ("code", V)] σ C = C [("script", .given), ("total", .int t), ("numbers", .loc 4), ("first", .int u), ("places", .loc 5), ("left", .int v), ("head", .int h), ("tape", .loc 6), ("memory", .loc 8), ("sign", .int v1), ("code", V), ("state", .int s)] σ := by kernel_rfl
theorem lc10b : seqI (fun e σ1 K1 => (inN (g09 n scr) 96).ev lawSc e [("script", .given), ("total", .int t), ("numbers", .loc 4), ("first", .int u), ("places", .loc 5), ("left", .int v), ("head", .int h), ("tape", .loc 6), ("memory", .loc 8), ("sign", .int v1), ("code", V), ("state", .int s)] σ1 K1) (caAr (asEx (hdT (forBo (st 10)) 0))) σ K2 = cond (small 31 && small t) (cond (small 97 && small s) (K2 [.loc 4, .int s, .loc 5, .int ((31 * t + 97 * s).fmod 256)] σ) False) False := by kernel_rfl
theorem ld10b : asgI (inN (g09 n scr) 97) lawSc (asTg (hdT (forBo (st 10)) 0)) (.fnum M fr) [("script", .given), ("total", .int t), ("numbers", .loc 4), ("first", .int u), ("places", .loc 5), ("left", .int v), ("head", .int h), ("tape", .loc 6), ("memory", .loc 8), ("sign", .int v1), ("code", V), ("state", .int s)] σ C = C [("script", .given), ("total", .int t), ("numbers", .loc 4), ("first", .int u), ("places", .loc 5), ("left", .int v), ("head", .int h), ("tape", .loc 6), ("memory", .loc 8), ("sign", .int v1), ("code", .fnum M fr), ("state", .int s)] σ := by kernel_rfl
theorem lg10b : stmtsI ((inN (g09 n scr) 98).ex lawSc) ((forBo (st 10)).drop 1) [("script", .given), ("total", .int t), ("numbers", .loc 4), ("first", .int u), ("places", .loc 5), ("left", .int v), ("head", .int h), ("tape", .loc 6), ("memory", .loc 8), ("sign", .int v1), ("code", .fnum M fr), ("state", .int s)] [.tab lp09, .nums n1 g1, .nums n2 g2, .nums n3 g3, .nums N g, .nums 5 pl, .idict none (tape tp), .nums n7 g7, .nums 65536 f] Q = gd s 5 (gd s 5 (setSliceI (.loc 8) (.int (pl s.toNat)) (.int (pl s.toNat + (M : Int))) (.fnum M fr) [.tab lp09, .nums n1 g1, .nums n2 g2, .nums n3 g3, .nums N g, .nums 5 pl, .idict none (tape tp), .nums n7 g7, .nums 65536 f] fun σ1 => Q .next [("script", .given), ("total", .int t), ("numbers", .loc 4), ("first", .int u), ("places", .loc 5), ("left", .int v), ("head", .int h), ("tape", .loc 6), ("memory", .loc 8), ("sign", .int v1), ("code", .fnum M fr), ("state", .int s)] σ1)) := by kernel_rfl
theorem lx10b : delS (nmOf (forTg (st 10))) ([("script", .given), ("total", .int t), ("numbers", .loc 4), ("first", .int u), ("places", .loc 5), ("left", .int v), ("head", .int h), ("tape", .loc 6), ("memory", .loc 8), ("sign", .int v1), ("code", .fnum M fr), ("state", .int s)] : Loc) = ([("script", .given), ("total", .int t), ("numbers", .loc 4), ("first", .int u), ("places", .loc 5), ("left", .int v), ("head", .int h), ("tape", .loc 6), ("memory", .loc 8), ("sign", .int v1), ("code", .fnum M fr)] : Loc) := by kernel_rfl
theorem s11 : stmtsI ((inN (g09 n scr) 99).ex lawSc) (sg 11 12) [("script", .given), ("total", .int t), ("numbers", .loc 4), ("first", .int u), ("places", .loc 5), ("left", .int v), ("head", .int h), ("tape", .loc 6), ("memory", .loc 8), ("sign", .int v1), ("code", D)] [.tab lp09, .nums n1 g1, .nums n2 g2, .nums n3 g3, .nums N g, .nums 5 pl, .idict none es, .nums n7 g7, .nums 65536 f] Q = (Q .next [("script", .given), ("total", .int t), ("numbers", .loc 4), ("first", .int u), ("places", .loc 5), ("left", .int v), ("head", .int h), ("tape", .loc 6), ("memory", .loc 8), ("sign", .int v1), ("code", D), ("plain", .loc 9)] [.tab lp09, .nums n1 g1, .nums n2 g2, .nums n3 g3, .nums N g, .nums 5 pl, .idict none es, .nums n7 g7, .nums 65536 f, .nums 65536 (cutF 0 f)]) := by kernel_rfl
theorem s12 : stmtsI ((inN (g09 n scr) 99).ex lawSc) (sg 12 13) [("script", .given), ("total", .int t), ("numbers", .loc 4), ("first", .int u), ("places", .loc 5), ("left", .int v), ("head", .int h), ("tape", .loc 6), ("memory", .loc 8), ("sign", .int v1), ("code", D), ("plain", .loc 9)] [.tab lp09, .nums n1 g1, .nums n2 g2, .nums n3 g3, .nums N g, .nums 5 pl, .idict none es, .nums n7 g7, .nums 65536 f, .nums 65536 fr] Q = (Q .next [("script", .given), ("total", .int t), ("numbers", .loc 4), ("first", .int u), ("places", .loc 5), ("left", .int v), ("head", .int h), ("tape", .loc 6), ("memory", .loc 8), ("sign", .int v1), ("code", D), ("plain", .loc 9), ("mpu", .loc 10)] [.tab lp09, .nums n1 g1, .nums n2 g2, .nums n3 g3, .nums N g, .nums 5 pl, .idict none es, .nums n7 g7, .nums 65536 f, .nums 65536 fr, .inst (regs 8 u 0 0 0 255 48 u 0 0 (.bool false))]) := by kernel_rfl
theorem lf13 : st 13 = forSt (st 13) := by kernel_rfl
theorem le13 : (inN (g09 n scr) 98).ev lawSc (forIt (st 13)) [("script", .given), ("total", .int t), ("numbers", .loc 4), ("first", .int u), ("places", .loc 5), ("left", .int v), ("head", .int h), ("tape", .loc 6), ("memory", .loc 8), ("sign", .int v1), ("code", D), ("plain", .loc 9), ("mpu", .loc 10)] σ K = K (.rng 0 ((400 : Nat) : Int)) σ := by kernel_rfl
theorem la13 : asgI (inN (g09 n scr) 98) lawSc (forTg (st 13)) (.int s) [("script", .given), ("total", .int t), ("numbers", .loc 4), ("first", .int u), ("places", .loc 5), ("left", .int v), ("head", .int h), ("tape", .loc 6), ("memory", .loc 8), ("sign", .int v1), ("code", D), ("plain", .loc 9), ("mpu", .loc 10)] σ C = C [("script", .given), ("total", .int t), ("numbers", .loc 4), ("first", .int u), ("places", .loc 5), ("left", .int v), ("head", .int h), ("tape", .loc 6), ("memory", .loc 8), ("sign", .int v1), ("code", D), ("plain", .loc 9), ("mpu", .loc 10), ("turn", .int s)] σ := by kernel_rfl
theorem lx13 : delS (nmOf (forTg (st 13))) ([("script", .given), ("total", .int t), ("numbers", .loc 4), ("first", .int u), ("places", .loc 5), ("left", .int v), ("head", .int h), ("tape", .loc 6), ("memory", .loc 8), ("sign", .int v1), ("code", D), ("plain", .loc 9), ("mpu", .loc 10), ("turn", .int s)] : Loc) = ([("script", .given), ("total", .int t), ("numbers", .loc 4), ("first", .int u), ("places", .loc 5), ("left", .int v), ("head", .int h), ("tape", .loc 6), ("memory", .loc 8), ("sign", .int v1), ("code", D), ("plain", .loc 9), ("mpu", .loc 10)] : Loc) := by kernel_rfl
theorem lb13 : stmtsI ((inN (g09 n scr) 98).ex lawSc) (forBo (st 13)) [("script", .given), ("total", .int t), ("numbers", .loc 4), ("first", .int u), ("places", .loc 5), ("left", .int v), ("head", .int h), ("tape", .loc 6), ("memory", .loc 8), ("sign", .int v1), ("code", D), ("plain", .loc 9), ("mpu", .loc 10), ("turn", .int s)] (hp o N f (regs 8 u a x y sp p pc cyc exc ac)) Q = cond (decide (pc = 600)) (Q .brk [("script", .given), ("total", .int t), ("numbers", .loc 4), ("first", .int u), ("places", .loc 5), ("left", .int v), ("head", .int h), ("tape", .loc 6), ("memory", .loc 8), ("sign", .int v1), ("code", D), ("plain", .loc 9), ("mpu", .loc 10), ("turn", .int s)] (hp o N f (regs 8 u a x y sp p pc cyc exc ac))) (cond (decide (pc = 604)) (Q .brk [("script", .given), ("total", .int t), ("numbers", .loc 4), ("first", .int u), ("places", .loc 5), ("left", .int v), ("head", .int h), ("tape", .loc 6), ("memory", .loc 8), ("sign", .int v1), ("code", D), ("plain", .loc 9), ("mpu", .loc 10), ("turn", .int s)] (hp o N f (regs 8 u a x y sp p pc cyc exc ac))) ((inN (g09 n scr) 96).ca (.mth nStep) [.loc 10] [] (hp o N f (regs 8 u a x y sp p pc cyc exc ac)) (stK [("script", .given), ("total", .int t), ("numbers", .loc 4), ("first", .int u), ("places", .loc 5), ("left", .int v), ("head", .int h), ("tape", .loc 6), ("memory", .loc 8), ("sign", .int v1), ("code", D), ("plain", .loc 9), ("mpu", .loc 10), ("turn", .int s)] Q))) := by kernel_rfl
theorem hp_oo : hp (oo j1 j2 j3 j4 j5 j6 j7 j9) N f R = [.tab lp09, j1, j2, j3, j4, j5, j6, j7, .nums N f, j9, .inst R] := by kernel_rfl
theorem s14 : stmtsI ((inN (g09 n scr) 99).ex lawSc) (sg 14 15) [("script", .given), ("total", .int t), ("numbers", .loc 4), ("first", .int u), ("places", .loc 5), ("left", .int v), ("head", .int h), ("tape", .loc 6), ("memory", .loc 8), ("sign", .int v1), ("code", D), ("plain", .loc 9), ("mpu", .loc 10)] [.tab lp09, .nums n1 g1, .nums n2 g2, .nums n3 g3, .nums N g, .nums 5 pl, .idict none es, .nums n7 g7, .nums 65536 f, .nums 65536 fr, .inst R] Q = (Q .next [("script", .given), ("total", .int t), ("numbers", .loc 4), ("first", .int u), ("places", .loc 5), ("left", .int v), ("head", .int h), ("tape", .loc 6), ("memory", .loc 8), ("sign", .int v1), ("code", D), ("plain", .loc 9), ("mpu", .loc 10), ("where", .int 0), ("state", .int 0), ("log", .loc 11)] [.tab lp09, .nums n1 g1, .nums n2 g2, .nums n3 g3, .nums N g, .nums 5 pl, .idict none es, .nums n7 g7, .nums 65536 f, .nums 65536 fr, .inst R, .nums 0 (getI [])]) := by kernel_rfl
theorem lf15 : st 15 = whSt (st 15) := by kernel_rfl
theorem lt15a : (inN (g09 n scr) 98).ts lawSc (whT (st 15)) [("script", .given), ("total", .int t), ("numbers", .loc 4), ("first", .int u), ("places", .loc 5), ("left", .int v), ("head", .int h), ("tape", .loc 6), ("memory", .loc 8), ("sign", .int v1), ("code", D), ("plain", .loc 9), ("mpu", .loc 10), ("where", .int w), ("state", .int s), ("log", .loc 11)] σ C2 = C2 (decide (s < 4)) σ := by kernel_rfl
theorem lb15a : stmtsI ((inN (g09 n scr) 98).ex lawSc) ((whBo (st 15)).take 3) [("script", .given), ("total", .int t), ("numbers", .loc 4), ("first", .int u), ("places", .loc 5), ("left", .int v), ("head", .int h), ("tape", .loc 6), ("memory", .loc 8), ("sign", .int v1), ("code", D), ("plain", .loc 9), ("mpu", .loc 10), ("where", .int w), ("state", .int s), ("log", .loc 11)] [.tab lp09, .nums n1 g1, .nums n2 g2, .nums n3 g3, .nums N g, .nums 5 pl, .idict none es, .nums n7 g7, .nums 65536 f, .nums 65536 fr, .inst R, .nums k0 lg] Q = cond (decide (v - 1 = 0)) (Q .brk [("script", .given), ("total", .int t), ("numbers", .loc 4), ("first", .int u), ("places", .loc 5), ("left", .int (v - 1)), ("head", .int h), ("tape", .loc 6), ("memory", .loc 8), ("sign", .int v1), ("code", D), ("plain", .loc 9), ("mpu", .loc 10), ("where", .int w), ("state", .int s), ("log", .loc 11)] [.tab lp09, .nums n1 g1, .nums n2 g2, .nums n3 g3, .nums N g, .nums 5 pl, .idict none es, .nums n7 g7, .nums 65536 f, .nums 65536 fr, .inst R, .nums k0 lg]) (someK (cond (decide (k0 ≤ 1000)) (some (.nums (k0 + 1) (setF lg k0 s))) none) fun z => Q .next [("script", .given), ("total", .int t), ("numbers", .loc 4), ("first", .int u), ("places", .loc 5), ("left", .int (v - 1)), ("head", .int h), ("tape", .loc 6), ("memory", .loc 8), ("sign", .int v1), ("code", D), ("plain", .loc 9), ("mpu", .loc 10), ("where", .int w), ("state", .int s), ("log", .loc 11)] [.tab lp09, .nums n1 g1, .nums n2 g2, .nums n3 g3, .nums N g, .nums 5 pl, .idict none es, .nums n7 g7, .nums 65536 f, .nums 65536 fr, .inst R, z]) := by kernel_rfl
theorem lc15a : seqI (fun e σ1 K1 => (inN (g09 n scr) 96).ev lawSc e [("script", .given), ("total", .int t), ("numbers", .loc 4), ("first", .int u), ("places", .loc 5), ("left", .int v), ("head", .int h), ("tape", .loc 6), ("memory", .loc 8), ("sign", .int v1), ("code", D), ("plain", .loc 9), ("mpu", .loc 10), ("where", .int w), ("state", .int s), ("log", .loc 11)] σ1 K1) (caAr (asEx (hdT (whBo (st 15)) 3))) [.tab lp09, .nums n1 g1, .nums n2 g2, .nums n3 g3, .nums N g, .nums 5 pl, .idict none es, .nums n7 g7, .nums 65536 f, .nums 65536 fr, .inst R, .nums k0 lg] K2 = K2 [.loc 4, .int s, (lookK w es).getD (.int 0)] [.tab lp09, .nums n1 g1, .nums n2 g2, .nums n3 g3, .nums N g, .nums 5 pl, .idict none es, .nums n7 g7, .nums 65536 f, .nums 65536 fr, .inst R, .nums k0 lg] := by kernel_rfl
theorem ld15a : asgI (inN (g09 n scr) 97) lawSc (asTg (hdT (whBo (st 15)) 3)) (.tup [.int a, .int x, .int y]) [("script", .given), ("total", .int t), ("numbers", .loc 4), ("first", .int u), ("places", .loc 5), ("left", .int v), ("head", .int h), ("tape", .loc 6), ("memory", .loc 8), ("sign", .int v1), ("code", D), ("plain", .loc 9), ("mpu", .loc 10), ("where", .int w), ("state", .int s), ("log", .loc 11)] σ C = C [("script", .given), ("total", .int t), ("numbers", .loc 4), ("first", .int u), ("places", .loc 5), ("left", .int v), ("head", .int h), ("tape", .loc 6), ("memory", .loc 8), ("sign", .int v1), ("code", D), ("plain", .loc 9), ("mpu", .loc 10), ("where", .int w), ("state", .int s), ("log", .loc 11), ("write", .int a), ("step", .int x), ("follow", .int y)] σ := by kernel_rfl
theorem lt15b : (inN (g09 n scr) 98).ts lawSc (whT (st 15)) [("script", .given), ("total", .int t), ("numbers", .loc 4), ("first", .int u), ("places", .loc 5), ("left", .int v), ("head", .int h), ("tape", .loc 6), ("memory", .loc 8), ("sign", .int v1), ("code", D), ("plain", .loc 9), ("mpu", .loc 10), ("where", .int w), ("state", .int s), ("log", .loc 11), ("write", .int v2), ("step", .int v3), ("follow", .int v4)] σ C2 = C2 (decide (s < 4)) σ := by kernel_rfl
theorem lb15b : stmtsI ((inN (g09 n scr) 98).ex lawSc) ((whBo (st 15)).take 3) [("script", .given), ("total", .int t), ("numbers", .loc 4), ("first", .int u), ("places", .loc 5), ("left", .int v), ("head", .int h), ("tape", .loc 6), ("memory", .loc 8), ("sign", .int v1), ("code", D), ("plain", .loc 9), ("mpu", .loc 10), ("where", .int w), ("state", .int s), ("log", .loc 11), ("write", .int v2), ("step", .int v3), ("follow", .int v4)] [.tab lp09, .nums n1 g1, .nums n2 g2, .nums n3 g3, .nums N g, .nums 5 pl, .idict none es, .nums n7 g7, .nums 65536 f, .nums 65536 fr, .inst R, .nums k0 lg] Q = cond (decide (v - 1 = 0)) (Q .brk [("script", .given), ("total", .int t), ("numbers", .loc 4), ("first", .int u), ("places", .loc 5), ("left", .int (v - 1)), ("head", .int h), ("tape", .loc 6), ("memory", .loc 8), ("sign", .int v1), ("code", D), ("plain", .loc 9), ("mpu", .loc 10), ("where", .int w), ("state", .int s), ("log", .loc 11), ("write", .int v2), ("step", .int v3), ("follow", .int v4)] [.tab lp09, .nums n1 g1, .nums n2 g2, .nums n3 g3, .nums N g, .nums 5 pl, .idict none es, .nums n7 g7, .nums 65536 f, .nums 65536 fr, .inst R, .nums k0 lg]) (someK (cond (decide (k0 ≤ 1000)) (some (.nums (k0 + 1) (setF lg k0 s))) none) fun z => Q .next [("script", .given), ("total", .int t), ("numbers", .loc 4), ("first", .int u), ("places", .loc 5), ("left", .int (v - 1)), ("head", .int h), ("tape", .loc 6), ("memory", .loc 8), ("sign", .int v1), ("code", D), ("plain", .loc 9), ("mpu", .loc 10), ("where", .int w), ("state", .int s), ("log", .loc 11), ("write", .int v2), ("step", .int v3), ("follow", .int v4)] [.tab lp09, .nums n1 g1, .nums n2 g2, .nums n3 g3, .nums N g, .nums 5 pl, .idict none es, .nums n7 g7, .nums 65536 f, .nums 65536 fr, .inst R, z]) := by kernel_rfl
theorem lc15b : seqI (fun e σ1 K1 => (inN (g09 n scr) 96).ev lawSc e [("script", .given), ("total", .int t), ("numbers", .loc 4), ("first", .int u), ("places", .loc 5), ("left", .int v), ("head", .int h), ("tape", .loc 6), ("memory", .loc 8), ("sign", .int v1), ("code", D), ("plain", .loc 9), ("mpu", .loc 10), ("where", .int w), ("state", .int s), ("log", .loc 11), ("write", .int v2), ("step", .int v3), ("follow", .int v4)] σ1 K1) (caAr (asEx (hdT (whBo (st 15)) 3))) [.tab lp09, .nums n1 g1, .nums n2 g2, .nums n3 g3, .nums N g, .nums 5 pl, .idict none es, .nums n7 g7, .nums 65536 f, .nums 65536 fr, .inst R, .nums k0 lg] K2 = K2 [.loc 4, .int s, (lookK w es).getD (.int 0)] [.tab lp09, .nums n1 g1, .nums n2 g2, .nums n3 g3, .nums N g, .nums 5 pl, .idict none es, .nums n7 g7, .nums 65536 f, .nums 65536 fr, .inst R, .nums k0 lg] := by kernel_rfl
theorem ld15b : asgI (inN (g09 n scr) 97) lawSc (asTg (hdT (whBo (st 15)) 3)) (.tup [.int a, .int x, .int y]) [("script", .given), ("total", .int t), ("numbers", .loc 4), ("first", .int u), ("places", .loc 5), ("left", .int v), ("head", .int h), ("tape", .loc 6), ("memory", .loc 8), ("sign", .int v1), ("code", D), ("plain", .loc 9), ("mpu", .loc 10), ("where", .int w), ("state", .int s), ("log", .loc 11), ("write", .int v2), ("step", .int v3), ("follow", .int v4)] σ C = C [("script", .given), ("total", .int t), ("numbers", .loc 4), ("first", .int u), ("places", .loc 5), ("left", .int v), ("head", .int h), ("tape", .loc 6), ("memory", .loc 8), ("sign", .int v1), ("code", D), ("plain", .loc 9), ("mpu", .loc 10), ("where", .int w), ("state", .int s), ("log", .loc 11), ("write", .int a), ("step", .int x), ("follow", .int y)] σ := by kernel_rfl
theorem lh15 : whBo (st 15) = (whBo (st 15)).take 3 ++ ([.Assign [asTg (hdT (whBo (st 15)) 3)] (caEx (asEx (hdT (whBo (st 15)) 3))) (asPs (hdT (whBo (st 15)) 3))] ++ (whBo (st 15)).drop 4) := by kernel_rfl
theorem lg15 : stmtsI ((inN (g09 n scr) 98).ex lawSc) ((whBo (st 15)).drop 4) [("script", .given), ("total", .int t), ("numbers", .loc 4), ("first", .int u), ("places", .loc 5), ("left", .int v), ("head", .int h), ("tape", .loc 6), ("memory", .loc 8), ("sign", .int v1), ("code", D), ("plain", .loc 9), ("mpu", .loc 10), ("where", .int w), ("state", .int s), ("log", .loc 11), ("write", .int v2), ("step", .int v3), ("follow", .int v4)] [.tab lp09, .nums n1 g1, .nums n2 g2, .nums n3 g3, .nums N g, .nums 5 pl, .idict none es, .nums n7 g7, .nums 65536 f, .nums 65536 fr, .inst R, .nums k0 lg] Q = cond (decide (es.length ≤ 1000)) (Q .next [("script", .given), ("total", .int t), ("numbers", .loc 4), ("first", .int u), ("places", .loc 5), ("left", .int v), ("head", .int h), ("tape", .loc 6), ("memory", .loc 8), ("sign", .int v1), ("code", D), ("plain", .loc 9), ("mpu", .loc 10), ("where", .int (w + v3)), ("state", .int v4), ("log", .loc 11), ("write", .int v2), ("step", .int v3), ("follow", .int v4)] [.tab lp09, .nums n1 g1, .nums n2 g2, .nums n3 g3, .nums N g, .nums 5 pl, .idict none (putK w (.int v2) es), .nums n7 g7, .nums 65536 f, .nums 65536 fr, .inst R, .nums k0 lg]) False := by kernel_rfl
noncomputable def nRule : Str := "_law_rule"
theorem rule_a : (inN (g09 n scr) 96).ca (.fn nRule) [.loc 4, .int s, .int w] [] [.tab lp09, .nums n1 g1, .nums n2 g2, .nums n3 g3, .nums N g, .nums 5 pl, .idict none es, .nums n7 g7, .nums 65536 f, .nums 65536 fr, .inst R, .nums k0 lg] K = ruleC g N s w (fun c d e => K (.tup [.int c, .int d, .int e]) [.tab lp09, .nums n1 g1, .nums n2 g2, .nums n3 g3, .nums N g, .nums 5 pl, .idict none es, .nums n7 g7, .nums 65536 f, .nums 65536 fr, .inst R, .nums k0 lg]) := by kernel_rfl
theorem lf16 : st 16 = forSt (st 16) := by kernel_rfl
theorem le16 : (inN (g09 n scr) 98).ev lawSc (forIt (st 16)) [("script", .given), ("total", .int t), ("numbers", .loc 4), ("first", .int u), ("places", .loc 5), ("left", .int v), ("head", .int h), ("tape", .loc 6), ("memory", .loc 8), ("sign", .int v1), ("code", D), ("plain", .loc 9), ("mpu", .loc 10), ("where", .int w), ("state", .int s), ("log", .loc 11), ("write", .int v2), ("step", .int v3), ("follow", .int v4)] σ K = K (.loc 6) σ := by kernel_rfl
theorem la16 : asgI (inN (g09 n scr) 98) lawSc (forTg (st 16)) (.int p2) [("script", .given), ("total", .int t), ("numbers", .loc 4), ("first", .int u), ("places", .loc 5), ("left", .int v), ("head", .int h), ("tape", .loc 6), ("memory", .loc 8), ("sign", .int v1), ("code", D), ("plain", .loc 9), ("mpu", .loc 10), ("where", .int w), ("state", .int s), ("log", .loc 11), ("write", .int v2), ("step", .int v3), ("follow", .int v4)] σ C = C [("script", .given), ("total", .int t), ("numbers", .loc 4), ("first", .int u), ("places", .loc 5), ("left", .int v), ("head", .int h), ("tape", .loc 6), ("memory", .loc 8), ("sign", .int v1), ("code", D), ("plain", .loc 9), ("mpu", .loc 10), ("where", .int w), ("state", .int s), ("log", .loc 11), ("write", .int v2), ("step", .int v3), ("follow", .int v4), ("spot", .int p2)] σ := by kernel_rfl
theorem lb16 : stmtsI ((inN (g09 n scr) 98).ex lawSc) (forBo (st 16)) [("script", .given), ("total", .int t), ("numbers", .loc 4), ("first", .int u), ("places", .loc 5), ("left", .int v), ("head", .int h), ("tape", .loc 6), ("memory", .loc 8), ("sign", .int v1), ("code", D), ("plain", .loc 9), ("mpu", .loc 10), ("where", .int w), ("state", .int s), ("log", .loc 11), ("write", .int v2), ("step", .int v3), ("follow", .int v4), ("spot", .int p2)] [.tab lp09, .nums n1 g1, .nums n2 g2, .nums n3 g3, .nums N g, .nums 5 pl, .idict (some k0) es, .nums n7 g7, .nums 65536 f, .nums 65536 fr, .inst R, .nums M lg] Q = oneK (lookK p2 es) fun V => setItemI (.loc 9) (.int (h + p2)) V [.tab lp09, .nums n1 g1, .nums n2 g2, .nums n3 g3, .nums N g, .nums 5 pl, .idict (some k0) es, .nums n7 g7, .nums 65536 f, .nums 65536 fr, .inst R, .nums M lg] fun σ1 => Q .next [("script", .given), ("total", .int t), ("numbers", .loc 4), ("first", .int u), ("places", .loc 5), ("left", .int v), ("head", .int h), ("tape", .loc 6), ("memory", .loc 8), ("sign", .int v1), ("code", D), ("plain", .loc 9), ("mpu", .loc 10), ("where", .int w), ("state", .int s), ("log", .loc 11), ("write", .int v2), ("step", .int v3), ("follow", .int v4), ("spot", .int p2)] σ1 := by kernel_rfl
theorem li16 : setItemI (.loc 9) (.int (h + p2)) (.int x) [.tab lp09, .nums n1 g1, .nums n2 g2, .nums n3 g3, .nums N g, .nums 5 pl, .idict (some k0) es, .nums n7 g7, .nums 65536 f, .nums 65536 fr, .inst R, .nums M lg] (fun σ1 => Q .next L σ1) = gd (h + p2) 65536 (Q .next L [.tab lp09, .nums n1 g1, .nums n2 g2, .nums n3 g3, .nums N g, .nums 5 pl, .idict (some k0) es, .nums n7 g7, .nums 65536 f, .nums 65536 (setF fr (h + p2).toNat x), .inst R, .nums M lg]) := by kernel_rfl
theorem lx16 : delS (nmOf (forTg (st 16))) ([("script", .given), ("total", .int t), ("numbers", .loc 4), ("first", .int u), ("places", .loc 5), ("left", .int v), ("head", .int h), ("tape", .loc 6), ("memory", .loc 8), ("sign", .int v1), ("code", D), ("plain", .loc 9), ("mpu", .loc 10), ("where", .int w), ("state", .int s), ("log", .loc 11), ("write", .int v2), ("step", .int v3), ("follow", .int v4), ("spot", .int p2)] : Loc) = ([("script", .given), ("total", .int t), ("numbers", .loc 4), ("first", .int u), ("places", .loc 5), ("left", .int v), ("head", .int h), ("tape", .loc 6), ("memory", .loc 8), ("sign", .int v1), ("code", D), ("plain", .loc 9), ("mpu", .loc 10), ("where", .int w), ("state", .int s), ("log", .loc 11), ("write", .int v2), ("step", .int v3), ("follow", .int v4)] : Loc) := by kernel_rfl
theorem s17 : stmtsI ((inN (g09 n scr) 99).ex lawSc) (sg 17 18) [("script", .given), ("total", .int t), ("numbers", .loc 4), ("first", .int u), ("places", .loc 5), ("left", .int v), ("head", .int h), ("tape", .loc 6), ("memory", .loc 8), ("sign", .int v1), ("code", D), ("plain", .loc 9), ("mpu", .loc 10), ("where", .int w), ("state", .int s), ("log", .loc 11), ("write", .int v2), ("step", .int v3), ("follow", .int v4)] [.tab lp09, .nums n1 g1, .nums n2 g2, .nums n3 g3, .nums N g, .nums 5 pl, j6, .nums n7 g7, .nums 65536 f, .nums 65536 fr, .inst R, .nums M lg] Q = (Q .next [("script", .given), ("total", .int t), ("numbers", .loc 4), ("first", .int u), ("places", .loc 5), ("left", .int v), ("head", .int h), ("tape", .loc 6), ("memory", .loc 8), ("sign", .int v1), ("code", D), ("plain", .loc 9), ("mpu", .loc 10), ("where", .int w), ("state", .int s), ("log", .loc 11), ("write", .int v2), ("step", .int v3), ("follow", .int v4)] [.tab lp09, .nums n1 g1, .nums n2 g2, .nums n3 g3, .nums N g, .nums 5 pl, j6, .nums n7 g7, .nums 65536 f, .nums 65536 (setF (setF (setF (setF fr 16 v) 17 (M : Int)) 18 ((h + w).fmod 256)) 19 ((h + w).fdiv 256)), .inst R, .nums M lg]) := by kernel_rfl
theorem s18 : stmtsI ((inN (g09 n scr) 99).ex lawSc) (sg 18 19) [("script", .given), ("total", .int t), ("numbers", .loc 4), ("first", .int u), ("places", .loc 5), ("left", .int v), ("head", .int h), ("tape", .loc 6), ("memory", .loc 8), ("sign", .int v1), ("code", D), ("plain", .loc 9), ("mpu", .loc 10), ("where", .int w), ("state", .int s), ("log", .loc 11), ("write", .int v2), ("step", .int v3), ("follow", .int v4)] [.tab lp09, .nums n1 g1, .nums n2 g2, .nums n3 g3, .nums N g, .nums 5 pl, j6, .nums n7 g7, .nums 65536 f, .nums 65536 fr, .inst R, .nums M lg] Q = (setSliceI (.loc 9) (.int 640) (.int (640 + (M : Int))) (.loc 11) [.tab lp09, .nums n1 g1, .nums n2 g2, .nums n3 g3, .nums N g, .nums 5 pl, j6, .nums n7 g7, .nums 65536 f, .nums 65536 fr, .inst R, .nums M lg] fun σ1 => Q .next [("script", .given), ("total", .int t), ("numbers", .loc 4), ("first", .int u), ("places", .loc 5), ("left", .int v), ("head", .int h), ("tape", .loc 6), ("memory", .loc 8), ("sign", .int v1), ("code", D), ("plain", .loc 9), ("mpu", .loc 10), ("where", .int w), ("state", .int s), ("log", .loc 11), ("write", .int v2), ("step", .int v3), ("follow", .int v4)] σ1) := by kernel_rfl
theorem s19 : stmtsI ((inN (g09 n scr) 99).ex lawSc) (sg 19 20) [("script", .given), ("total", .int t), ("numbers", .loc 4), ("first", .int u), ("places", .loc 5), ("left", .int v), ("head", .int h), ("tape", .loc 6), ("memory", .loc 8), ("sign", .int v1), ("code", D), ("plain", .loc 9), ("mpu", .loc 10), ("where", .int w), ("state", .int s), ("log", .loc 11), ("write", .int v2), ("step", .int v3), ("follow", .int v4)] [.tab lp09, .nums n1 g1, .nums n2 g2, .nums n3 g3, .nums N g, .nums 5 pl, j6, .nums n7 g7, .nums 65536 f, .nums 65536 fr, .inst (regs 8 u a x y sp p pc cyc exc ac), .nums M lg] Q = cond (decide (s = 4)) (cond (decide (pc = 604)) (cond (decide (sp = 255)) (Q (.ret (.bool (cond (Nat.beq 65536 65536) (eqTo f fr 65536) false))) [("script", .given), ("total", .int t), ("numbers", .loc 4), ("first", .int u), ("places", .loc 5), ("left", .int v), ("head", .int h), ("tape", .loc 6), ("memory", .loc 8), ("sign", .int v1), ("code", D), ("plain", .loc 9), ("mpu", .loc 10), ("where", .int w), ("state", .int s), ("log", .loc 11), ("write", .int v2), ("step", .int v3), ("follow", .int v4)] [.tab lp09, .nums n1 g1, .nums n2 g2, .nums n3 g3, .nums N g, .nums 5 pl, j6, .nums n7 g7, .nums 65536 f, .nums 65536 fr, .inst (regs 8 u a x y sp p pc cyc exc ac), .nums M lg]) (Q (.ret (.bool (decide (sp = 255)))) [("script", .given), ("total", .int t), ("numbers", .loc 4), ("first", .int u), ("places", .loc 5), ("left", .int v), ("head", .int h), ("tape", .loc 6), ("memory", .loc 8), ("sign", .int v1), ("code", D), ("plain", .loc 9), ("mpu", .loc 10), ("where", .int w), ("state", .int s), ("log", .loc 11), ("write", .int v2), ("step", .int v3), ("follow", .int v4)] [.tab lp09, .nums n1 g1, .nums n2 g2, .nums n3 g3, .nums N g, .nums 5 pl, j6, .nums n7 g7, .nums 65536 f, .nums 65536 fr, .inst (regs 8 u a x y sp p pc cyc exc ac), .nums M lg])) (Q (.ret (.bool (decide (pc = 604)))) [("script", .given), ("total", .int t), ("numbers", .loc 4), ("first", .int u), ("places", .loc 5), ("left", .int v), ("head", .int h), ("tape", .loc 6), ("memory", .loc 8), ("sign", .int v1), ("code", D), ("plain", .loc 9), ("mpu", .loc 10), ("where", .int w), ("state", .int s), ("log", .loc 11), ("write", .int v2), ("step", .int v3), ("follow", .int v4)] [.tab lp09, .nums n1 g1, .nums n2 g2, .nums n3 g3, .nums N g, .nums 5 pl, j6, .nums n7 g7, .nums 65536 f, .nums 65536 fr, .inst (regs 8 u a x y sp p pc cyc exc ac), .nums M lg])) (cond (decide (pc = 600)) (cond (decide (sp = 255)) (Q (.ret (.bool (cond (Nat.beq 65536 65536) (eqTo f fr 65536) false))) [("script", .given), ("total", .int t), ("numbers", .loc 4), ("first", .int u), ("places", .loc 5), ("left", .int v), ("head", .int h), ("tape", .loc 6), ("memory", .loc 8), ("sign", .int v1), ("code", D), ("plain", .loc 9), ("mpu", .loc 10), ("where", .int w), ("state", .int s), ("log", .loc 11), ("write", .int v2), ("step", .int v3), ("follow", .int v4)] [.tab lp09, .nums n1 g1, .nums n2 g2, .nums n3 g3, .nums N g, .nums 5 pl, j6, .nums n7 g7, .nums 65536 f, .nums 65536 fr, .inst (regs 8 u a x y sp p pc cyc exc ac), .nums M lg]) (Q (.ret (.bool (decide (sp = 255)))) [("script", .given), ("total", .int t), ("numbers", .loc 4), ("first", .int u), ("places", .loc 5), ("left", .int v), ("head", .int h), ("tape", .loc 6), ("memory", .loc 8), ("sign", .int v1), ("code", D), ("plain", .loc 9), ("mpu", .loc 10), ("where", .int w), ("state", .int s), ("log", .loc 11), ("write", .int v2), ("step", .int v3), ("follow", .int v4)] [.tab lp09, .nums n1 g1, .nums n2 g2, .nums n3 g3, .nums N g, .nums 5 pl, j6, .nums n7 g7, .nums 65536 f, .nums 65536 fr, .inst (regs 8 u a x y sp p pc cyc exc ac), .nums M lg])) (Q (.ret (.bool (decide (pc = 600)))) [("script", .given), ("total", .int t), ("numbers", .loc 4), ("first", .int u), ("places", .loc 5), ("left", .int v), ("head", .int h), ("tape", .loc 6), ("memory", .loc 8), ("sign", .int v1), ("code", D), ("plain", .loc 9), ("mpu", .loc 10), ("where", .int w), ("state", .int s), ("log", .loc 11), ("write", .int v2), ("step", .int v3), ("follow", .int v4)] [.tab lp09, .nums n1 g1, .nums n2 g2, .nums n3 g3, .nums N g, .nums 5 pl, j6, .nums n7 g7, .nums 65536 f, .nums 65536 fr, .inst (regs 8 u a x y sp p pc cyc exc ac), .nums M lg])) := by kernel_rfl
end
end Mine
end
section
set_option Elab.async false
set_option maxRecDepth 100000
set_option linter.unusedVariables false
open PySem PySem.W PyProof.Rows PySem.Claim2Try PySem.Pin
namespace Mine
open PySem.Challenge
/-- the flags: carry, zero, sign -/
noncomputable def ci (c : Bool) : Int := cond c 1 0
noncomputable def P (c z g : Bool) : Int := 48 + ci c + cond z 2 0 + cond g 128 0
theorem bA8 {t : Int} : bA t 255 = t % 256 := bitAnd_m8 t
theorem bA16 {t : Int} (h0 : 0 ≤ t) (h1 : t < 65536) : bA t 65535 = t := by
  rw [show bA t 65535 = _ from bitAnd_m16 t]; omega
theorem bA128 {t : Int} (h0 : 0 ≤ t) (h1 : t < 256) : bA t 128 = cond (decide (128 ≤ t)) 128 0 := by
  obtain ⟨k, rfl⟩ := Int.eq_ofNat_of_zero_le h0
  have hk : k < 256 := by omega
  have : ∀ k : Fin 256, bA (k.val : Int) 128 = cond (decide ((128 : Int) ≤ k.val)) 128 0 := by decide +kernel
  exact this ⟨k, hk⟩
theorem gd_i {i : Int} {P : Prop} (h0 : 0 ≤ i) (h1 : i < 65536) (h : P) : gd i 65536 P := gd_n h0 h1 h
theorem nx_eq {pc : Int} (h0 : 0 ≤ pc) (h1 : pc < 65535) : nx pc = pc + 1 := by
  unfold nx; rw [bitAnd_m16]; omega
theorem fi_i {K : KV} {o st cyc f a x y sp p pc exc ac} (h0 : 0 ≤ pc) (h1 : pc < 65536) (h : K (.loc 10) (hp o 65536 f (regs 8 st a x y sp p pc cyc exc ac))) : fi K o 65536 st cyc f a x y sp p pc exc ac := by
  unfold fi; rw [bA16 h0 h1]; exact h
theorem nz_i {v : Int} {c z g : Bool} {K : Int → Prop} (h0 : 0 ≤ v) (h1 : v < 256) (h : ∀ g, K (P c (decide (v = 0)) g)) : nz v (P c z g) K := by
  unfold nz
  refine cond_b (fun e => ?_) (fun e => ?_)
  · rw [e] at h
    have : Builtin.bitOr (Builtin.bitAnd (P c z g) (Builtin.bitNot (Builtin.bitOr 2 128))) 2 = P c true false := by
      clear h; revert c z g; decide +kernel
    rw [this]; exact h _
  · rw [e] at h
    rw [show Builtin.bitAnd v 128 = _ from bA128 h0 h1]
    generalize decide (128 ≤ v) = b
    have : Builtin.bitOr (Builtin.bitAnd (P c z g) (Builtin.bitNot (Builtin.bitOr 2 128))) (cond b 128 0) = P c false b := by
      clear h
      revert c z g b; decide +kernel
    rw [this]; exact h _
theorem nzt_i {v : Int} {c z g : Bool} {K : Int → Prop} (h0 : 0 ≤ v) (h1 : v < 256) (h : ∀ g, K (P c (decide (v = 0)) g)) : nzt v (bA (P c z g) (bN (bO 2 128))) K := by
  unfold nzt
  refine cond_b (fun e => ?_) (fun e => ?_)
  · have e : decide (v = 0) = false := by rw [← Bool.not_eq_true']; exact e
    rw [e] at h
    rw [bA128 h0 h1]
    generalize decide (128 ≤ v) = b
    have : bO (bA (P c z g) (bN (bO 2 128))) (cond b 128 0) = P c false b := by
      clear h
      revert c z g b; decide +kernel
    rw [this]; exact h _
  · have e : decide (v = 0) = true := by rw [← Bool.not_eq_false']; exact e
    rw [e] at h
    have : bO (bA (P c z g) (bN (bO 2 128))) 2 = P c true false := by
      clear h; revert c z g; decide +kernel
    rw [this]; exact h _
theorem cmp_i {a v : Int} {c z g : Bool} {K : Int → Prop} (h0 : 0 ≤ a) (h1 : a < 128) (v0 : 0 ≤ v) (v1 : v < 128) (h : ∀ g, K (P (decide (v ≤ a)) (decide (a = v)) g)) : cmpC a v (P c z g) K := by
  have hb : ∃ b : Bool, bA (a - v) 128 = cond b 128 0 := by
    refine ⟨decide (a < v), ?_⟩
    by_cases hc : a < v
    · rw [decide_eq_true hc]
      obtain ⟨k, hk⟩ := Int.eq_ofNat_of_zero_le (show 0 ≤ v - a - 1 by omega)
      have e : a - v = -(k : Int) - 1 := by omega
      have hk2 : k < 128 := by omega
      have : ∀ k : Fin 128, bA (-(k.val : Int) - 1) 128 = 128 := by decide +kernel
      rw [e]; exact this ⟨k, hk2⟩
    · rw [decide_eq_false hc, bA128 (by omega) (by omega), decide_eq_false (show ¬ 128 ≤ a - v by omega)]
  obtain ⟨b, hb⟩ := hb
  unfold cmpC
  rw [hb]
  refine cond_b (fun e => ?_) (fun e => ?_)
  · rw [e, decide_eq_true (show v ≤ a by have := of_decide_eq_true e; omega)] at h
    have : bO (bO (bA (P c z g) (bN (bO (bO 1 2) 128))) (bO 1 2)) (cond b 128 0) = P true true b := by clear h hb; revert c z g b; decide +kernel
    rw [this]; exact h _
  · rw [e] at h
    have hne := of_decide_eq_false e
    refine cond_b (fun e2 => ?_) (fun e2 => ?_)
    · have e2 := of_decide_eq_true e2
      rw [decide_eq_true (show v ≤ a by omega)] at h
      have : bO (bO (bA (P c z g) (bN (bO (bO 1 2) 128))) 1) (cond b 128 0) = P true false b := by clear h hb; revert c z g b; decide +kernel
      rw [this]; exact h _
    · have e2 := of_decide_eq_false e2
      rw [decide_eq_false (show ¬ v ≤ a by omega)] at h
      have : bO (bA (P c z g) (bN (bO (bO 1 2) 128))) (cond b 128 0) = P false false b := by clear h hb; revert c z g b; decide +kernel
      rw [this]; exact h _
theorem pZ {c z g : Bool} : bA (P c z g) 2 = cond z 2 0 := by revert c z g; decide +kernel
theorem pC {c z g : Bool} : bA (P c z g) 1 = ci c := by revert c z g; decide +kernel
theorem brn_i {f : Nat → Int} {q v : Int} {K : Int → Int → Prop} (q0 : 0 ≤ q) (q1 : q < 65000) (hv : f q.toNat = v) (b0 : 0 ≤ v) (b1 : v < 128) (h : ∀ e, K (q + 1 + v) e) : brn f 65536 q K := by
  unfold brn
  refine gd_i q0 (by omega) ?_
  rw [hv, bA128 b0 (by omega), decide_eq_false (show ¬ 128 ≤ v by omega)]
  refine cond_f rfl ?_
  unfold brn2
  rw [bA16 (by omega) (by omega)]
  exact cond_b (fun _ => h _) (fun _ => h _)
theorem jsr_i {f : Nat → Int} {q l u : Int} {K : Int → Prop} (q0 : 0 ≤ q) (q1 : q < 65000) (hl : f q.toNat = l) (hu : f (q + 1).toNat = u) (u0 : 0 ≤ u) (u1 : u < 256) (h : K (l + u * 256)) : jsrC f 65536 q K := by
  unfold jsrC
  refine gd_i q0 (by omega) (gd_i (by omega) (by omega) ?_)
  rw [hl, hu]
  exact cond_t (small_i u0 (by omega)) h
theorem wrap_i {f : Nat → Int} {l u : Int} {K : Int → Prop} (hl : f 18 = l) (hu : f 19 = u) (u0 : 0 ≤ u) (u1 : u < 256) (h : K (l + u * 256)) : wrap2 f 65536 18 K := by
  intro b cl
  have e : wz 18 = 19 := by decide +kernel
  refine gd_i (by decide) (by decide) ?_
  rw [e]
  refine gd_i (by decide) (by decide) ?_
  show cond (small (f 19)) (K (f 18 + f 19 * 256)) False
  rw [hl, hu]
  exact cond_t (small_i u0 (by omega)) h
noncomputable abbrev Rt := Nat → (Nat → Int) → Int → Int → Int → Int → Int → Int → Prop
/-- what a turn of the loop gives -/
noncomputable def Steps (n : Nat) (scr : Nat → Int) (o : Nat → AObj) (st : Int) (R : Rt) : Prop := ∀ k f a x y sp p pc, pc ≠ 600 → pc ≠ 604 →
  (∀ cyc exc ac (K : KV), (∀ f a x y sp p pc cyc exc ac, R k f a x y sp p pc → K (.loc 10) (hp o 65536 f (regs 8 st a x y sp p pc cyc exc ac))) → gd pc 65536 (stepOf (g09 n scr) 95 10 (f pc.toNat) (hp o 65536 f (regs 8 st a x y sp p pc cyc exc ac)) K)) → R (k + 1) f a x y sp p pc
/-- the code of a list of octets, in a memory -/
structure CodeM (f : Nat → Int) (p : Int) (l : List Int) : Prop where
  lo : 20000 ≤ p
  hi : p + l.length < 62000
  at_ : ∀ i : Nat, i < l.length → f (p + (i : Int)).toNat = getI l i
/-- a place in it -/
structure At (p : Int) (i : Nat) : Prop where
  a : 1000 ≤ p + (i : Int)
  b : p + (i : Int) < 62000
theorem CodeM.pl {f : Nat → Int} {p : Int} {l : List Int} (C : CodeM f p l) {i : Nat} (hi : Nat.blt i l.length = true) : At p i ∧ f (p + (i : Int)).toNat = getI l i := by
  have h := Nat.blt_eq.mp hi
  refine ⟨⟨?_, ?_⟩, C.at_ i h⟩
  · have := C.lo; clear C hi h; omega
  · have := C.hi; clear C hi; omega
theorem At.g {p : Int} {i : Nat} {X : Prop} (A : At p i) (h : X) : gd (p + (i : Int)) 65536 X := by
  obtain ⟨a, b⟩ := A
  exact gd_i (by clear h; omega) (by clear h; omega) h
theorem At.ne {p : Int} {i : Nat} (A : At p i) : p + (i : Int) ≠ 600 ∧ p + (i : Int) ≠ 604 := by
  obtain ⟨a, b⟩ := A
  omega
theorem At.nx {p : Int} {i : Nat} (A : At p i) : nx (p + (i : Int)) = p + ((i + 1 : Nat) : Int) := by
  obtain ⟨a, b⟩ := A
  rw [nx_eq (by omega) (by omega)]
  omega
theorem pc2 (p : Int) (i : Nat) : p + ((i + 1 : Nat) : Int) + 1 = p + ((i + 2 : Nat) : Int) := by omega
theorem At.go {K : KV} {o st cyc f a x y sp p exc ac} {q : Int} {i : Nat} {pc : Int} (A : At q i) (e : pc = q + ((i + 2 : Nat) : Int)) (h : K (.loc 10) (hp o 65536 f (regs 8 st a x y sp p (q + ((i + 2 : Nat) : Int)) cyc exc ac))) : fi K o 65536 st cyc f a x y sp p pc exc ac := by
  subst e
  obtain ⟨a, b⟩ := A
  exact fi_i (by clear h; omega) (by clear h; omega) h
theorem small_pg {j : Int} (j0 : 0 ≤ j) (j1 : j < 256) {X : Prop} (h : X) : gd j 65536 X := gd_i j0 (by clear h; omega) h
section
variable {n : Nat} {scr : Nat → Int} {ob : Nat → AObj} {st : Int} {R : Rt} {k : Nat} {f : Nat → Int} {a x y sp v : Int} {c z g : Bool} {q : Int} {l : List Int}
theorem i169 (S : Steps n scr ob st R) (C : CodeM f q l) (i : Nat) (hi : Nat.blt (i + 1) l.length = true) (e0 : getI l i = 169) (e1 : getI l (i + 1) = v) (b0 : 0 ≤ v) (b1 : v < 256) (h : ∀ g, R k f v x y sp (P c (decide (v = 0)) g) (q + ((i + 2 : Nat) : Int))) : R (k + 1) f a x y sp (P c z g) (q + (i : Int)) := by
  obtain ⟨A, o0⟩ := C.pl (i := i) (Nat.blt_eq.mpr (Nat.lt_of_succ_lt (Nat.blt_eq.mp hi)))
  obtain ⟨B, o1⟩ := C.pl hi
  refine S _ _ _ _ _ _ _ _ A.ne.1 A.ne.2 fun cyc exc ac K hK => A.g ?_
  rw [o0, e0, op169, A.nx, o1, e1]
  exact B.g (nz_i b0 b1 fun g => A.go (pc2 q i) (hK _ _ _ _ _ _ _ _ _ _ (h g)))
theorem i160 (S : Steps n scr ob st R) (C : CodeM f q l) (i : Nat) (hi : Nat.blt (i + 1) l.length = true) (e0 : getI l i = 160) (e1 : getI l (i + 1) = v) (b0 : 0 ≤ v) (b1 : v < 256) (h : ∀ g, R k f a x v sp (P c (decide (v = 0)) g) (q + ((i + 2 : Nat) : Int))) : R (k + 1) f a x y sp (P c z g) (q + (i : Int)) := by
  obtain ⟨A, o0⟩ := C.pl (i := i) (Nat.blt_eq.mpr (Nat.lt_of_succ_lt (Nat.blt_eq.mp hi)))
  obtain ⟨B, o1⟩ := C.pl hi
  refine S _ _ _ _ _ _ _ _ A.ne.1 A.ne.2 fun cyc exc ac K hK => A.g ?_
  rw [o0, e0, op160, A.nx, o1, e1]
  exact B.g (nz_i b0 b1 fun g => A.go (pc2 q i) (hK _ _ _ _ _ _ _ _ _ _ (h g)))
theorem i162 (S : Steps n scr ob st R) (C : CodeM f q l) (i : Nat) (hi : Nat.blt (i + 1) l.length = true) (e0 : getI l i = 162) (e1 : getI l (i + 1) = v) (b0 : 0 ≤ v) (b1 : v < 256) (h : ∀ g, R k f a v y sp (P c (decide (v = 0)) g) (q + ((i + 2 : Nat) : Int))) : R (k + 1) f a x y sp (P c z g) (q + (i : Int)) := by
  obtain ⟨A, o0⟩ := C.pl (i := i) (Nat.blt_eq.mpr (Nat.lt_of_succ_lt (Nat.blt_eq.mp hi)))
  obtain ⟨B, o1⟩ := C.pl hi
  refine S _ _ _ _ _ _ _ _ A.ne.1 A.ne.2 fun cyc exc ac K hK => A.g ?_
  rw [o0, e0, op162, A.nx, o1, e1]
  exact B.g (nz_i b0 b1 fun g => A.go (pc2 q i) (hK _ _ _ _ _ _ _ _ _ _ (h g)))
theorem i165 (S : Steps n scr ob st R) (C : CodeM f q l) (i : Nat) (hi : Nat.blt (i + 1) l.length = true) (e0 : getI l i = 165) (j : Int) (e1 : getI l (i + 1) = j) (j0 : 0 ≤ j) (j1 : j < 256) (hv : f j.toNat = v) (b0 : 0 ≤ v) (b1 : v < 256) (h : ∀ g, R k f v x y sp (P c (decide (v = 0)) g) (q + ((i + 2 : Nat) : Int))) : R (k + 1) f a x y sp (P c z g) (q + (i : Int)) := by
  obtain ⟨A, o0⟩ := C.pl (i := i) (Nat.blt_eq.mpr (Nat.lt_of_succ_lt (Nat.blt_eq.mp hi)))
  obtain ⟨B, o1⟩ := C.pl hi
  refine S _ _ _ _ _ _ _ _ A.ne.1 A.ne.2 fun cyc exc ac K hK => A.g ?_
  rw [o0, e0, op165, A.nx, o1, e1]
  rw [hv]
  exact B.g (small_pg j0 j1 (nz_i b0 b1 fun g => A.go (pc2 q i) (hK _ _ _ _ _ _ _ _ _ _ (h g))))
theorem i166 (S : Steps n scr ob st R) (C : CodeM f q l) (i : Nat) (hi : Nat.blt (i + 1) l.length = true) (e0 : getI l i = 166) (j : Int) (e1 : getI l (i + 1) = j) (j0 : 0 ≤ j) (j1 : j < 256) (hv : f j.toNat = v) (b0 : 0 ≤ v) (b1 : v < 256) (h : ∀ g, R k f a v y sp (P c (decide (v = 0)) g) (q + ((i + 2 : Nat) : Int))) : R (k + 1) f a x y sp (P c z g) (q + (i : Int)) := by
  obtain ⟨A, o0⟩ := C.pl (i := i) (Nat.blt_eq.mpr (Nat.lt_of_succ_lt (Nat.blt_eq.mp hi)))
  obtain ⟨B, o1⟩ := C.pl hi
  refine S _ _ _ _ _ _ _ _ A.ne.1 A.ne.2 fun cyc exc ac K hK => A.g ?_
  rw [o0, e0, op166, A.nx, o1, e1]
  rw [hv]
  exact B.g (small_pg j0 j1 (nz_i b0 b1 fun g => A.go (pc2 q i) (hK _ _ _ _ _ _ _ _ _ _ (h g))))
theorem i198 {r : Int} (S : Steps n scr ob st R) (C : CodeM f q l) (i : Nat) (hi : Nat.blt (i + 1) l.length = true) (e0 : getI l i = 198) (j : Int) (e1 : getI l (i + 1) = j) (j0 : 0 ≤ j) (j1 : j < 256) (hv : f j.toNat = v) (hr : (v - 1) % 256 = r) (h : ∀ g, R k (setF f j.toNat r) a x y sp (P c (decide (r = 0)) g) (q + ((i + 2 : Nat) : Int))) : R (k + 1) f a x y sp (P c z g) (q + (i : Int)) := by
  obtain ⟨A, o0⟩ := C.pl (i := i) (Nat.blt_eq.mpr (Nat.lt_of_succ_lt (Nat.blt_eq.mp hi)))
  obtain ⟨B, o1⟩ := C.pl hi
  refine S _ _ _ _ _ _ _ _ A.ne.1 A.ne.2 fun cyc exc ac K hK => A.g ?_
  rw [o0, e0, op198, A.nx, o1, e1]
  rw [hv, bA8, hr]
  have r0 : 0 ≤ r ∧ r < 256 := by clear h hK; omega
  exact B.g (small_pg j0 j1 (nzt_i r0.1 r0.2 fun g => small_pg j0 j1 (A.go (pc2 q i) (hK _ _ _ _ _ _ _ _ _ _ (h g)))))
theorem i230 {r : Int} (S : Steps n scr ob st R) (C : CodeM f q l) (i : Nat) (hi : Nat.blt (i + 1) l.length = true) (e0 : getI l i = 230) (j : Int) (e1 : getI l (i + 1) = j) (j0 : 0 ≤ j) (j1 : j < 256) (hv : f j.toNat = v) (hr : (v + 1) % 256 = r) (h : ∀ g, R k (setF f j.toNat r) a x y sp (P c (decide (r = 0)) g) (q + ((i + 2 : Nat) : Int))) : R (k + 1) f a x y sp (P c z g) (q + (i : Int)) := by
  obtain ⟨A, o0⟩ := C.pl (i := i) (Nat.blt_eq.mpr (Nat.lt_of_succ_lt (Nat.blt_eq.mp hi)))
  obtain ⟨B, o1⟩ := C.pl hi
  refine S _ _ _ _ _ _ _ _ A.ne.1 A.ne.2 fun cyc exc ac K hK => A.g ?_
  rw [o0, e0, op230, A.nx, o1, e1]
  rw [hv, bA8, hr]
  have r0 : 0 ≤ r ∧ r < 256 := by clear h hK; omega
  exact B.g (small_pg j0 j1 (nzt_i r0.1 r0.2 fun g => small_pg j0 j1 (A.go (pc2 q i) (hK _ _ _ _ _ _ _ _ _ _ (h g)))))
theorem i201 (S : Steps n scr ob st R) (C : CodeM f q l) (i : Nat) (hi : Nat.blt (i + 1) l.length = true) (e0 : getI l i = 201) (e1 : getI l (i + 1) = v) (a0 : 0 ≤ a) (a1 : a < 128) (b0 : 0 ≤ v) (b1 : v < 128) (h : ∀ g, R k f a x y sp (P (decide (v ≤ a)) (decide (a = v)) g) (q + ((i + 2 : Nat) : Int))) : R (k + 1) f a x y sp (P c z g) (q + (i : Int)) := by
  obtain ⟨A, o0⟩ := C.pl (i := i) (Nat.blt_eq.mpr (Nat.lt_of_succ_lt (Nat.blt_eq.mp hi)))
  obtain ⟨B, o1⟩ := C.pl hi
  refine S _ _ _ _ _ _ _ _ A.ne.1 A.ne.2 fun cyc exc ac K hK => A.g ?_
  rw [o0, e0, op201, A.nx, o1, e1]
  exact B.g (cmp_i a0 a1 b0 b1 fun g => A.go (pc2 q i) (hK _ _ _ _ _ _ _ _ _ _ (h g)))
theorem brn_at {d i : Nat} {K : Int → Int → Prop} (A : At q (i + 1)) (hv : f (q + ((i + 1 : Nat) : Int)).toNat = (d : Int)) (hd : Nat.blt d 128 = true) (h : ∀ e, K (q + ((i + 2 + d : Nat) : Int)) e) : brn f 65536 (q + ((i + 1 : Nat) : Int)) K := by
  have := Nat.blt_eq.mp hd
  obtain ⟨a, b⟩ := A
  have e : q + ((i + 2 + d : Nat) : Int) = q + ((i + 1 : Nat) : Int) + 1 + (d : Int) := by clear h hv; omega
  rw [e] at h
  exact brn_i (by clear h hv; omega) (by clear h hv; omega) hv (by clear h hv; omega) (by clear h hv; omega) h
theorem At.go2 {K : KV} {o st cyc f a x y sp p exc ac} {q : Int} {i d : Nat} (A : At q i) (hd : Nat.blt d 128 = true) (h : K (.loc 10) (hp o 65536 f (regs 8 st a x y sp p (q + ((i + 2 + d : Nat) : Int)) cyc exc ac))) : fi K o 65536 st cyc f a x y sp p (q + ((i + 2 + d : Nat) : Int)) exc ac := by
  have := Nat.blt_eq.mp hd
  obtain ⟨a, b⟩ := A
  exact fi_i (by clear h; omega) (by clear h; omega) h
theorem i208t (S : Steps n scr ob st R) (C : CodeM f q l) (i : Nat) (hi : Nat.blt (i + 1) l.length = true) (e0 : getI l i = 208) (d : Nat) (e1 : getI l (i + 1) = (d : Int)) (hd : Nat.blt d 128 = true) (hz : z = false) (h : R k f a x y sp (P c z g) (q + ((i + 2 + d : Nat) : Int))) : R (k + 1) f a x y sp (P c z g) (q + (i : Int)) := by
  obtain ⟨A, o0⟩ := C.pl (i := i) (Nat.blt_eq.mpr (Nat.lt_of_succ_lt (Nat.blt_eq.mp hi)))
  obtain ⟨B, o1⟩ := C.pl hi
  refine S _ _ _ _ _ _ _ _ A.ne.1 A.ne.2 fun cyc exc ac K hK => A.g ?_
  rw [o0, e0, op208, A.nx, pZ, hz]
  rw [hz] at h
  exact cond_f rfl (brn_at B (o1.trans e1) hd fun e => A.go2 hd (hK _ _ _ _ _ _ _ _ _ _ h))
theorem i208f (S : Steps n scr ob st R) (C : CodeM f q l) (i : Nat) (hi : Nat.blt (i + 1) l.length = true) (e0 : getI l i = 208) (hz : z = true) (h : R k f a x y sp (P c z g) (q + ((i + 2 : Nat) : Int))) : R (k + 1) f a x y sp (P c z g) (q + (i : Int)) := by
  obtain ⟨A, o0⟩ := C.pl (i := i) (Nat.blt_eq.mpr (Nat.lt_of_succ_lt (Nat.blt_eq.mp hi)))
  refine S _ _ _ _ _ _ _ _ A.ne.1 A.ne.2 fun cyc exc ac K hK => A.g ?_
  rw [o0, e0, op208, A.nx, pZ, hz]
  rw [hz] at h
  exact cond_t rfl (A.go (pc2 q i) (hK _ _ _ _ _ _ _ _ _ _ h))
theorem i240t (S : Steps n scr ob st R) (C : CodeM f q l) (i : Nat) (hi : Nat.blt (i + 1) l.length = true) (e0 : getI l i = 240) (d : Nat) (e1 : getI l (i + 1) = (d : Int)) (hd : Nat.blt d 128 = true) (hz : z = true) (h : R k f a x y sp (P c z g) (q + ((i + 2 + d : Nat) : Int))) : R (k + 1) f a x y sp (P c z g) (q + (i : Int)) := by
  obtain ⟨A, o0⟩ := C.pl (i := i) (Nat.blt_eq.mpr (Nat.lt_of_succ_lt (Nat.blt_eq.mp hi)))
  obtain ⟨B, o1⟩ := C.pl hi
  refine S _ _ _ _ _ _ _ _ A.ne.1 A.ne.2 fun cyc exc ac K hK => A.g ?_
  rw [o0, e0, op240, A.nx, pZ, hz]
  rw [hz] at h
  exact cond_t rfl (brn_at B (o1.trans e1) hd fun e => A.go2 hd (hK _ _ _ _ _ _ _ _ _ _ h))
theorem i240f (S : Steps n scr ob st R) (C : CodeM f q l) (i : Nat) (hi : Nat.blt (i + 1) l.length = true) (e0 : getI l i = 240) (hz : z = false) (h : R k f a x y sp (P c z g) (q + ((i + 2 : Nat) : Int))) : R (k + 1) f a x y sp (P c z g) (q + (i : Int)) := by
  obtain ⟨A, o0⟩ := C.pl (i := i) (Nat.blt_eq.mpr (Nat.lt_of_succ_lt (Nat.blt_eq.mp hi)))
  refine S _ _ _ _ _ _ _ _ A.ne.1 A.ne.2 fun cyc exc ac K hK => A.g ?_
  rw [o0, e0, op240, A.nx, pZ, hz]
  rw [hz] at h
  exact cond_f rfl (A.go (pc2 q i) (hK _ _ _ _ _ _ _ _ _ _ h))
theorem i176t (S : Steps n scr ob st R) (C : CodeM f q l) (i : Nat) (hi : Nat.blt (i + 1) l.length = true) (e0 : getI l i = 176) (d : Nat) (e1 : getI l (i + 1) = (d : Int)) (hd : Nat.blt d 128 = true) (hz : c = true) (h : R k f a x y sp (P c z g) (q + ((i + 2 + d : Nat) : Int))) : R (k + 1) f a x y sp (P c z g) (q + (i : Int)) := by
  obtain ⟨A, o0⟩ := C.pl (i := i) (Nat.blt_eq.mpr (Nat.lt_of_succ_lt (Nat.blt_eq.mp hi)))
  obtain ⟨B, o1⟩ := C.pl hi
  refine S _ _ _ _ _ _ _ _ A.ne.1 A.ne.2 fun cyc exc ac K hK => A.g ?_
  rw [o0, e0, op176, A.nx, pC, hz]
  rw [hz] at h
  exact cond_t rfl (brn_at B (o1.trans e1) hd fun e => A.go2 hd (hK _ _ _ _ _ _ _ _ _ _ h))
theorem i176f (S : Steps n scr ob st R) (C : CodeM f q l) (i : Nat) (hi : Nat.blt (i + 1) l.length = true) (e0 : getI l i = 176) (hz : c = false) (h : R k f a x y sp (P c z g) (q + ((i + 2 : Nat) : Int))) : R (k + 1) f a x y sp (P c z g) (q + (i : Int)) := by
  obtain ⟨A, o0⟩ := C.pl (i := i) (Nat.blt_eq.mpr (Nat.lt_of_succ_lt (Nat.blt_eq.mp hi)))
  refine S _ _ _ _ _ _ _ _ A.ne.1 A.ne.2 fun cyc exc ac K hK => A.g ?_
  rw [o0, e0, op176, A.nx, pC, hz]
  rw [hz] at h
  exact cond_f rfl (A.go (pc2 q i) (hK _ _ _ _ _ _ _ _ _ _ h))
theorem jsr_at {m u : Int} {i : Nat} {K : Int → Prop} (B : At q (i + 1)) (D : At q (i + 2)) (hl : f (q + ((i + 1 : Nat) : Int)).toNat = m) (hu : f (q + ((i + 2 : Nat) : Int)).toNat = u) (u0 : 0 ≤ u) (u1 : u < 256) (h : K (m + u * 256)) : jsrC f 65536 (q + ((i + 1 : Nat) : Int)) K := by
  obtain ⟨a, b⟩ := B
  exact jsr_i (by clear h hl hu; omega) (by clear h hl hu; omega) hl (by rw [pc2]; exact hu) u0 u1 h
theorem i76 {p m u t : Int} (S : Steps n scr ob st R) (C : CodeM f q l) (i : Nat) (hi : Nat.blt (i + 2) l.length = true) (e0 : getI l i = 76) (e1 : getI l (i + 1) = m) (e2 : getI l (i + 2) = u) (u0 : 0 ≤ u) (u1 : u < 256) (ht : m + u * 256 = t) (t0 : 0 ≤ t) (t1 : t < 65536) (h : R k f a x y sp p t) : R (k + 1) f a x y sp p (q + (i : Int)) := by
  obtain ⟨A, o0⟩ := C.pl (i := i) (Nat.blt_eq.mpr (Nat.lt_of_succ_lt (Nat.lt_of_succ_lt (Nat.blt_eq.mp hi))))
  obtain ⟨B, o1⟩ := C.pl (i := i + 1) (Nat.blt_eq.mpr (Nat.lt_of_succ_lt (Nat.blt_eq.mp hi)))
  obtain ⟨D, o2⟩ := C.pl hi
  refine S _ _ _ _ _ _ _ _ A.ne.1 A.ne.2 fun cyc exc ac K hK => A.g ?_
  rw [o0, e0, op76, A.nx]
  refine jsr_at B D (o1.trans e1) (o2.trans e2) u0 u1 ?_
  rw [ht]
  exact fi_i t0 t1 (hK _ _ _ _ _ _ _ _ _ _ h)
theorem pc3 (p : Int) (i : Nat) : p + ((i + 1 : Nat) : Int) + 2 = p + ((i + 3 : Nat) : Int) := by omega
theorem At.go3 {K : KV} {o st cyc f a x y sp p exc ac} {q : Int} {i : Nat} (A : At q i) (h : K (.loc 10) (hp o 65536 f (regs 8 st a x y sp p (q + ((i + 3 : Nat) : Int)) cyc exc ac))) : fi K o 65536 st cyc f a x y sp p (q + ((i + 1 : Nat) : Int) + 2) exc ac := by
  rw [pc3]
  obtain ⟨a, b⟩ := A
  exact fi_i (by clear h; omega) (by clear h; omega) h
theorem i157 {p : Int} (S : Steps n scr ob st R) (C : CodeM f q l) (i : Nat) (hi : Nat.blt (i + 2) l.length = true) (e0 : getI l i = 157) (e1 : getI l (i + 1) = 128) (e2 : getI l (i + 2) = 2) (x0 : 0 ≤ x) (x1 : x < 256) (h : R k (setF f (640 + x).toNat a) a x y sp p (q + ((i + 3 : Nat) : Int))) : R (k + 1) f a x y sp p (q + (i : Int)) := by
  have u0 : (0 : Int) ≤ 2 := by decide
  have u1 : (2 : Int) < 256 := by decide
  obtain ⟨A, o0⟩ := C.pl (i := i) (Nat.blt_eq.mpr (Nat.lt_of_succ_lt (Nat.lt_of_succ_lt (Nat.blt_eq.mp hi))))
  obtain ⟨B, o1⟩ := C.pl (i := i + 1) (Nat.blt_eq.mpr (Nat.lt_of_succ_lt (Nat.blt_eq.mp hi)))
  obtain ⟨D, o2⟩ := C.pl hi
  refine S _ _ _ _ _ _ _ _ A.ne.1 A.ne.2 fun cyc exc ac K hK => A.g ?_
  rw [o0, e0, op157, A.nx]
  refine jsr_at B D (o1.trans e1) (o2.trans e2) u0 u1 ?_
  have e : bA (128 + 2 * 256 + x) 65535 = 640 + x := bA16 (by clear h hK; omega) (by clear h hK; omega)
  rw [e]
  exact gd_i (by clear h hK; omega) (by clear h hK; omega) (A.go3 (hK _ _ _ _ _ _ _ _ _ _ h))
theorem i145 {p : Int}  {m u A0 : Int} (S : Steps n scr ob st R) (C : CodeM f q l) (i : Nat) (hi : Nat.blt (i + 1) l.length = true) (e0 : getI l i = 145) (e1 : getI l (i + 1) = 18) (hl : f 18 = m) (hu : f 19 = u) (u0 : 0 ≤ u) (u1 : u < 256) (hA : m + u * 256 = A0) (p0 : 0 ≤ A0) (p1 : A0 < 65536) (h : R k (setF f A0.toNat a) a x 0 sp p (q + ((i + 2 : Nat) : Int))) : R (k + 1) f a x 0 sp p (q + (i : Int)) := by
  obtain ⟨A, o0⟩ := C.pl (i := i) (Nat.blt_eq.mpr (Nat.lt_of_succ_lt (Nat.blt_eq.mp hi)))
  obtain ⟨B, o1⟩ := C.pl hi
  refine S _ _ _ _ _ _ _ _ A.ne.1 A.ne.2 fun cyc exc ac K hK => A.g ?_
  rw [o0, e0, op145, A.nx, o1, e1]
  refine B.g (wrap_i hl hu u0 u1 ?_)
  rw [hA, Int.add_zero, bA16 p0 p1]
  exact gd_i p0 p1 (A.go (pc2 q i) (hK _ _ _ _ _ _ _ _ _ _ h))
theorem i129 {p : Int} {b : Int}  {m u A0 : Int} (S : Steps n scr ob st R) (C : CodeM f q l) (i : Nat) (hi : Nat.blt (i + 1) l.length = true) (e0 : getI l i = 129) (e1 : getI l (i + 1) = b) (hb : (b + x) % 256 = 18) (hl : f 18 = m) (hu : f 19 = u) (u0 : 0 ≤ u) (u1 : u < 256) (hA : m + u * 256 = A0) (p0 : 0 ≤ A0) (p1 : A0 < 65536) (h : R k (setF f A0.toNat a) a x y sp p (q + ((i + 2 : Nat) : Int))) : R (k + 1) f a x y sp p (q + (i : Int)) := by
  obtain ⟨A, o0⟩ := C.pl (i := i) (Nat.blt_eq.mpr (Nat.lt_of_succ_lt (Nat.blt_eq.mp hi)))
  obtain ⟨B, o1⟩ := C.pl hi
  refine S _ _ _ _ _ _ _ _ A.ne.1 A.ne.2 fun cyc exc ac K hK => A.g ?_
  have e : bA 255 (b + x) = 18 := by rw [show bA 255 (b + x) = _ from bitAnd_m8' _, hb]
  rw [o0, e0, op129, A.nx, o1, e1, e]
  refine B.g (wrap_i hl hu u0 u1 ?_)
  rw [hA]
  exact gd_i p0 p1 (A.go (pc2 q i) (hK _ _ _ _ _ _ _ _ _ _ h))
theorem i177  {m u A0 : Int} (S : Steps n scr ob st R) (C : CodeM f q l) (i : Nat) (hi : Nat.blt (i + 1) l.length = true) (e0 : getI l i = 177) (e1 : getI l (i + 1) = 18) (hl : f 18 = m) (hu : f 19 = u) (u0 : 0 ≤ u) (u1 : u < 256) (hA : m + u * 256 = A0) (p0 : 0 ≤ A0) (p1 : A0 < 65536) (hv : f A0.toNat = v) (b0 : 0 ≤ v) (b1 : v < 256) (h : ∀ g, R k f v x 0 sp (P c (decide (v = 0)) g) (q + ((i + 2 : Nat) : Int))) : R (k + 1) f a x 0 sp (P c z g) (q + (i : Int)) := by
  obtain ⟨A, o0⟩ := C.pl (i := i) (Nat.blt_eq.mpr (Nat.lt_of_succ_lt (Nat.blt_eq.mp hi)))
  obtain ⟨B, o1⟩ := C.pl hi
  refine S _ _ _ _ _ _ _ _ A.ne.1 A.ne.2 fun cyc exc ac K hK => A.g ?_
  rw [o0, e0, op177, A.nx, o1, e1]
  refine B.g (wrap_i hl hu u0 u1 ?_)
  rw [hA, Int.add_zero, bA16 p0 p1]
  rw [hv]
  exact cond_b (fun _ => gd_i p0 p1 (nz_i b0 b1 fun g => A.go (pc2 q i) (hK _ _ _ _ _ _ _ _ _ _ (h g)))) (fun _ => gd_i p0 p1 (nz_i b0 b1 fun g => A.go (pc2 q i) (hK _ _ _ _ _ _ _ _ _ _ (h g))))
theorem i161 {b : Int}  {m u A0 : Int} (S : Steps n scr ob st R) (C : CodeM f q l) (i : Nat) (hi : Nat.blt (i + 1) l.length = true) (e0 : getI l i = 161) (e1 : getI l (i + 1) = b) (hb : (b + x) % 256 = 18) (hl : f 18 = m) (hu : f 19 = u) (u0 : 0 ≤ u) (u1 : u < 256) (hA : m + u * 256 = A0) (p0 : 0 ≤ A0) (p1 : A0 < 65536) (hv : f A0.toNat = v) (b0 : 0 ≤ v) (b1 : v < 256) (h : ∀ g, R k f v x y sp (P c (decide (v = 0)) g) (q + ((i + 2 : Nat) : Int))) : R (k + 1) f a x y sp (P c z g) (q + (i : Int)) := by
  obtain ⟨A, o0⟩ := C.pl (i := i) (Nat.blt_eq.mpr (Nat.lt_of_succ_lt (Nat.blt_eq.mp hi)))
  obtain ⟨B, o1⟩ := C.pl hi
  refine S _ _ _ _ _ _ _ _ A.ne.1 A.ne.2 fun cyc exc ac K hK => A.g ?_
  have e : bA 255 (b + x) = 18 := by rw [show bA 255 (b + x) = _ from bitAnd_m8' _, hb]
  rw [o0, e0, op161, A.nx, o1, e1, e]
  refine B.g (wrap_i hl hu u0 u1 ?_)
  rw [hA]
  rw [hv]
  exact gd_i p0 p1 (nz_i b0 b1 fun g => A.go (pc2 q i) (hK _ _ _ _ _ _ _ _ _ _ (h g)))
end
end Mine
end
section
set_option Elab.async false
set_option maxRecDepth 100000
set_option linter.unusedVariables false
open PySem PySem.W PyProof.Rows PySem.Claim2Try PySem.Pin
namespace Mine
open PySem.Challenge
theorem beq_ne {i j : Nat} (h : i ≠ j) : Nat.beq i j = false := by
  cases e : Nat.beq i j with
  | false => rfl
  | true => exact absurd (Nat.eq_of_beq_eq_true e) h
/-- a tape with a sign written -/
noncomputable def setT (tf : Int → Int) (k v : Int) (j : Int) : Int := if j = k then v else tf j
/-- the memory while the machine runs -/
noncomputable def mm (F : Nat → Int) (h : Int) (q r u v : Int) (tf : Int → Int) (lg : List Int) (i : Nat) : Int :=
  cond (Nat.beq i 16) q (cond (Nat.beq i 17) r (cond (Nat.beq i 18) u (cond (Nat.beq i 19) v (if 640 ≤ i ∧ i < 640 + lg.length then getI lg (i - 640) else if h - 32 ≤ (i : Int) ∧ (i : Int) < h + 32 then tf ((i : Int) - h) else F i))))
section
variable {F : Nat → Int} {h q r u v : Int} {tf : Int → Int} {lg : List Int}
theorem mm_16 (x : Int) : setF (mm F h q r u v tf lg) (16 : Int).toNat x = mm F h x r u v tf lg := by
  funext i
  show cond (Nat.beq i 16) x (mm F h q r u v tf lg i) = _
  unfold mm
  cases Nat.beq i 16 <;> rfl
theorem mm_17 (x : Int) : setF (mm F h q r u v tf lg) (17 : Int).toNat x = mm F h q x u v tf lg := by
  funext i
  show cond (Nat.beq i 17) x (mm F h q r u v tf lg i) = _
  unfold mm
  cases e : Nat.beq i 17 with
  | false => rfl
  | true => rw [Nat.eq_of_beq_eq_true e]; rfl
theorem mm_18 (x : Int) : setF (mm F h q r u v tf lg) (18 : Int).toNat x = mm F h q r x v tf lg := by
  funext i
  show cond (Nat.beq i 18) x (mm F h q r u v tf lg i) = _
  unfold mm
  cases e : Nat.beq i 18 with
  | false => rfl
  | true => rw [Nat.eq_of_beq_eq_true e]; rfl
theorem mm_19 (x : Int) : setF (mm F h q r u v tf lg) (19 : Int).toNat x = mm F h q r u x tf lg := by
  funext i
  show cond (Nat.beq i 19) x (mm F h q r u v tf lg i) = _
  unfold mm
  cases e : Nat.beq i 19 with
  | false => rfl
  | true => rw [Nat.eq_of_beq_eq_true e]; rfl
/-- behind the first page -/
theorem mm_far (i : Nat) (hi : 20 ≤ i) : mm F h q r u v tf lg i = if 640 ≤ i ∧ i < 640 + lg.length then getI lg (i - 640) else if h - 32 ≤ (i : Int) ∧ (i : Int) < h + 32 then tf ((i : Int) - h) else F i := by
  have ne : ∀ k, k < 20 → i ≠ k := fun k hk e => absurd hi (Nat.not_le_of_lt (e ▸ hk))
  unfold mm
  rw [beq_ne (ne 16 (by decide)), beq_ne (ne 17 (by decide)), beq_ne (ne 18 (by decide)), beq_ne (ne 19 (by decide))]
  rfl
theorem getI_left {l m : List Int} {k : Nat} (hk : k < l.length) : getI (l ++ m) k = getI l k := by
  unfold getI
  rw [List.getD_eq_getElem?_getD, List.getD_eq_getElem?_getD, List.getElem?_append_left hk]
theorem getI_right {l m : List Int} {k : Nat} : getI (l ++ m) (l.length + k) = getI m k := by
  unfold getI
  rw [List.getD_eq_getElem?_getD, List.getD_eq_getElem?_getD, List.getElem?_append_right (Nat.le_add_right _ _), Nat.add_sub_cancel_left]
theorem lg_i {n : Nat} : (640 + (n : Int)).toNat = 640 + n := rfl
theorem lg_iff {i n : Nat} (h : ¬ i = 640 + n) : (640 ≤ i ∧ i < 640 + (n + 1)) ↔ (640 ≤ i ∧ i < 640 + n) := by omega
theorem lg_sub {i n : Nat} (h : 640 ≤ i ∧ i < 640 + n) : i - 640 < n := by omega
theorem mm_lg (hl : lg.length < 20) (x : Int) : setF (mm F h q r u v tf lg) (640 + (lg.length : Int)).toNat x = mm F h q r u v tf (lg ++ [x]) := by
  funext i
  have hlen : (lg ++ [x]).length = lg.length + 1 := by rw [List.length_append]; rfl
  rw [lg_i]
  unfold setF
  by_cases hi : i = 640 + lg.length
  · subst hi
    rw [show Nat.beq (640 + lg.length) (640 + lg.length) = true from Nat.beq_refl _]
    show x = _
    rw [mm_far (lg := lg ++ [x]) _ (Nat.le_trans (by decide) (Nat.le_add_right 640 _)), hlen, if_pos ⟨Nat.le_add_right _ _, Nat.add_lt_add_left (Nat.lt_succ_self _) 640⟩, Nat.add_sub_cancel_left]
    exact (getI_right (l := lg) (m := [x]) (k := 0)).symm
  · rw [beq_ne hi]
    show mm F h q r u v tf lg i = _
    unfold mm
    rw [hlen]
    by_cases hc : 640 ≤ i ∧ i < 640 + lg.length
    · rw [if_pos hc, if_pos ((lg_iff hi).mpr hc), getI_left (lg_sub hc)]
    · rw [if_neg hc, if_neg fun q => hc ((lg_iff hi).mp q)]
theorem tp_i {h w : Int} (h0 : 4000 ≤ h) (w0 : -32 ≤ w) (w1 : w < 32) : 20 ≤ (h + w).toNat ∧ 640 + 20 ≤ (h + w).toNat ∧ (((h + w).toNat : Nat) : Int) - h = w ∧ h - 32 ≤ (((h + w).toNat : Nat) : Int) ∧ (((h + w).toNat : Nat) : Int) < h + 32 := by
  have e : (((h + w).toNat : Nat) : Int) = h + w := Int.toNat_of_nonneg (by omega)
  generalize (h + w).toNat = n at e
  omega
theorem tp_ne {h w : Int} {i : Nat} (hi : ¬ i = (h + w).toNat) : ¬ ((i : Int) - h = w) := fun e => hi (by rw [← e, Int.add_comm, Int.sub_add_cancel]; rfl)
theorem not_lg {i n : Nat} (h : 640 + 20 ≤ i) (hn : n < 20) : ¬ (640 ≤ i ∧ i < 640 + n) := by omega
theorem mm_rt (h0 : 4000 ≤ h) (w : Int) (w0 : -32 ≤ w) (w1 : w < 32) (hl : lg.length < 20) : mm F h q r u v tf lg (h + w).toNat = tf w := by
  obtain ⟨a, b, c, d⟩ := tp_i h0 w0 w1
  rw [mm_far _ a, if_neg (not_lg b hl), if_pos d, c]
theorem mm_tp (h0 : 4000 ≤ h) (w : Int) (w0 : -32 ≤ w) (w1 : w < 32) (hl : lg.length < 20) (x : Int) : setF (mm F h q r u v tf lg) (h + w).toNat x = mm F h q r u v (setT tf w x) lg := by
  funext i
  unfold setF
  by_cases hi : i = (h + w).toNat
  · rw [hi, show Nat.beq (h + w).toNat (h + w).toNat = true from Nat.beq_refl _, mm_rt (tf := setT tf w x) h0 w w0 w1 hl]
    exact (if_pos rfl).symm
  · rw [beq_ne hi]
    show mm F h q r u v tf lg i = _
    have e : setT tf w x ((i : Int) - h) = tf ((i : Int) - h) := if_neg (tp_ne hi)
    unfold mm
    rw [e]
theorem mm_hi (h1 : h < 16000) (hl : lg.length < 20) (i : Nat) (hi : 20000 ≤ i) : mm F h q r u v tf lg i = F i := by
  rw [mm_far _ (Nat.le_trans (by decide) hi), if_neg (not_lg (Nat.le_trans (by decide) hi) hl), if_neg fun c => ?_]
  have := c.2
  clear c hl
  omega
end
theorem at_pc {R : Rt} {k : Nat} {f : Nat → Int} {a x y sp p t u : Int} (e : t = u) (h : R k f a x y sp p t) : R k f a x y sp p u := e ▸ h
/-- the code of a list of octets -/
noncomputable def CodeAt (F : Nat → Int) (p : Int) (l : List Int) : Prop := 20000 ≤ p ∧ p + l.length < 62000 ∧ ∀ i : Nat, i < l.length → F (p + (i : Int)).toNat = getI l i
theorem len_app {a b : Nat} {p : Int} (h : p + ((a + b : Nat) : Int) < 62000) : p + a < 62000 ∧ p + a + b < 62000 := by omega
theorem CodeAt.left {F : Nat → Int} {p : Int} {l m : List Int} (c : CodeAt F p (l ++ m)) : CodeAt F p l := by
  obtain ⟨c1, c2, c3⟩ := c
  rw [List.length_append] at c2 c3
  exact ⟨c1, (len_app c2).1, fun i hi => (c3 i (Nat.lt_of_lt_of_le hi (Nat.le_add_right _ _))).trans (getI_left hi)⟩
theorem CodeAt.right {F : Nat → Int} {p q : Int} {l m : List Int} (c : CodeAt F p (l ++ m)) (hq : q = p + l.length) : CodeAt F q m := by
  obtain ⟨c1, c2, c3⟩ := c
  rw [List.length_append] at c2 c3
  subst hq
  refine ⟨Int.le_trans c1 (Int.le_add_of_nonneg_right (Int.natCast_nonneg _)), (len_app c2).2, fun i hi => ?_⟩
  rw [Int.add_assoc, ← getI_right (l := l)]
  exact c3 (l.length + i) (Nat.add_lt_add_left hi _)
/-- the head's two octets -/
noncomputable def hl8 (h w : Int) : Int := (h + w) % 256
noncomputable def hh8 (h w : Int) : Int := (h + w) / 256
section
variable {n : Nat} {scr : Nat → Int} {ob : Nat → AObj} {st : Int} {R : Rt} {F : Nat → Int} {h q r : Int} {tf : Int → Int} {lg : List Int}
theorem mm_code {l : List Int} {p u v : Int} (c : CodeAt F p l) (h1 : h < 16000) (hl : lg.length < 20) : CodeM (mm F h q r u v tf lg) p l where
  lo := c.1
  hi := c.2.1
  at_ i hi := by
    have c0 := c.1
    rw [mm_hi h1 hl _ (by clear h1 hl hi; omega)]
    exact c.2.2 i hi
theorem at_0 {R : Rt} {k : Nat} {f : Nat → Int} {a x y sp p u : Int} (h : R k f a x y sp p (u + ((0 : Nat) : Int))) : R k f a x y sp p u := at_pc (Int.add_zero u) h
theorem wd_eq (t : Int) : t.fmod 256 + t.fdiv 256 * 256 = t := by rw [show t.fmod 256 = _ from fmod_lit t 256, show t.fdiv 256 = _ from fdiv_lit t 256]; omega
theorem wd_b {t : Int} (t0 : 0 ≤ t) (t1 : t < 65536) : 0 ≤ t.fdiv 256 ∧ t.fdiv 256 < 256 := by rw [show t.fdiv 256 = _ from fdiv_lit t 256]; omega
theorem hl8_b (h w : Int) : 0 ≤ hl8 h w ∧ hl8 h w < 256 := by unfold hl8; omega
theorem hl8_up (h w : Int) : (hl8 h w + 1) % 256 = hl8 h (w + 1) := by unfold hl8; rw [Int.emod_add_emod, Int.add_assoc]
theorem hl8_dn (h w : Int) : (hl8 h w - 1) % 256 = hl8 h (w - 1) := by unfold hl8; rw [Int.emod_sub_emod, Int.add_sub_assoc]
theorem xb {h w : Int} (h0 : 4000 ≤ h) (h1 : h < 16000) (w0 : -30 ≤ w) (w1 : w < 30) : 1 ≤ h + w ∧ h + w < 65000 := by omega
theorem uniq {x u v : Int} (a : 0 ≤ u) (b : u < 256) (e : u + v * 256 = x) : x % 256 = u ∧ x / 256 = v := by
  subst e
  exact ⟨by rw [Int.add_mul_emod_self_right]; exact Int.emod_eq_of_lt a b, by rw [Int.add_mul_ediv_right _ _ (by decide), Int.ediv_eq_zero_of_lt a b, Int.zero_add]⟩
theorem dm (x : Int) : 0 ≤ x % 256 ∧ x % 256 < 256 ∧ x % 256 + x / 256 * 256 = x := ⟨Int.emod_nonneg x (by decide), Int.emod_lt_of_pos x (by decide), by rw [Int.mul_comm]; exact Int.emod_add_mul_ediv x 256⟩
theorem d_b {x : Int} (x0 : 1 ≤ x) (x1 : x < 65000) : 0 ≤ x / 256 ∧ x / 256 < 255 := ⟨Int.ediv_nonneg (Int.le_trans (by decide) x0) (by decide), Int.ediv_lt_of_lt_mul (by decide) (Int.lt_trans x1 (by decide))⟩
theorem up_a {u v x : Int} (b : u < 256) (e : u + v * 256 = x) : (u + 1 = 256 ∧ 0 + (v + 1) * 256 = x + 1) ∨ (u + 1 < 256 ∧ (u + 1) + v * 256 = x + 1) := by omega
theorem dn_a {u v x : Int} (a : 0 ≤ u) (e : u + v * 256 = x) : (u = 0 ∧ 255 + (v - 1) * 256 = x - 1) ∨ (0 ≤ u - 1 ∧ ¬ u = 0 ∧ (u - 1) + v * 256 = x - 1) := by omega
theorem m256 {v : Int} (a : 0 ≤ v) (b : v < 256) : v % 256 = v := Int.emod_eq_of_lt a b
theorem x_up {x : Int} (x0 : 1 ≤ x) (x1 : x < 65000) : ((x + 1) % 256 = 0 → (x / 256 + 1) % 256 = (x + 1) / 256) ∧ ((x + 1) % 256 ≠ 0 → x / 256 = (x + 1) / 256) := by
  obtain ⟨a, b, e⟩ := dm x
  obtain ⟨c, d⟩ := d_b x0 x1
  generalize x % 256 = u at a b e
  generalize x / 256 = v at c d e ⊢
  rcases up_a b e with ⟨_, q⟩ | ⟨p, q⟩
  · obtain ⟨r1, r2⟩ := uniq (by decide) (by decide) q
    rw [r1, r2]
    exact ⟨fun _ => m256 (Int.add_nonneg c (by decide)) (Int.add_lt_add_right d 1), fun h => absurd rfl h⟩
  · obtain ⟨r1, r2⟩ := uniq (Int.add_nonneg a (by decide)) p q
    rw [r1, r2]
    exact ⟨fun h => absurd h (Int.ne_of_gt (Int.lt_add_one_of_le a)), fun _ => rfl⟩
theorem x_dn {x : Int} (x0 : 1 ≤ x) (x1 : x < 65000) : (x % 256 = 0 → (x / 256 - 1) % 256 = (x - 1) / 256) ∧ (x % 256 ≠ 0 → x / 256 = (x - 1) / 256) := by
  obtain ⟨a, b, e⟩ := dm x
  obtain ⟨c, d⟩ := d_b x0 x1
  generalize x % 256 = u at a b e ⊢
  generalize x / 256 = v at c d e ⊢
  rcases dn_a a e with ⟨p, q⟩ | ⟨p, p2, q⟩
  · obtain ⟨r1, r2⟩ := uniq (by decide) (by decide) q
    rw [r2]
    exact ⟨fun _ => m256 (by clear d r1 r2 q; omega) (Int.lt_trans (Int.sub_lt_self v (by decide)) (Int.lt_trans d (by decide))), fun h => absurd p h⟩
  · obtain ⟨r1, r2⟩ := uniq p (Int.lt_trans (Int.sub_lt_self u (by decide)) b) q
    rw [r2]
    exact ⟨fun h => absurd h p2, fun _ => rfl⟩
theorem hh8_up {h w : Int} (h0 : 4000 ≤ h) (h1 : h < 16000) (w0 : -30 ≤ w) (w1 : w < 30) : (hl8 h (w + 1) = 0 → (hh8 h w + 1) % 256 = hh8 h (w + 1)) ∧ (hl8 h (w + 1) ≠ 0 → hh8 h w = hh8 h (w + 1)) := by
  unfold hl8 hh8
  rw [← Int.add_assoc]
  exact x_up (xb h0 h1 w0 w1).1 (xb h0 h1 w0 w1).2
theorem hh8_dn {h w : Int} (h0 : 4000 ≤ h) (h1 : h < 16000) (w0 : -30 ≤ w) (w1 : w < 30) : (hl8 h w = 0 → (hh8 h w - 1) % 256 = hh8 h (w - 1)) ∧ (hl8 h w ≠ 0 → hh8 h w = hh8 h (w - 1)) := by
  unfold hl8 hh8
  rw [← Int.add_sub_assoc]
  exact x_dn (xb h0 h1 w0 w1).1 (xb h0 h1 w0 w1).2
theorem kk {K k : Nat} (m : Nat) (h : K + m ≤ k) : ∃ j, k = j + m ∧ K ≤ j := ⟨k - m, by omega, by omega⟩
noncomputable abbrev up6 : List Int := [230, 18, 208, 2, 230, 19]
noncomputable abbrev dn8 : List Int := [165, 18, 208, 2, 198, 19, 198, 18]
theorem le_up {K k m j : Nat} (h : K + m ≤ k) (hj : j ≤ m) : K + j ≤ k := by omega
/-- the step of the head, and the jump -/
theorem step_up (S : Steps n scr ob st R) {w p t : Int} {a x y : Int} {c z g : Bool} {K k : Nat} (h0 : 4000 ≤ h) (h1 : h < 16000) (w0 : -30 ≤ w) (w1 : w < 30) (hl : lg.length < 20) (C : CodeAt F p (up6 ++ [76] ++ [t.fmod 256, t.fdiv 256])) (t0 : 0 ≤ t) (t1 : t < 65536)
    (hk : K + 6 ≤ k) (hR : ∀ k' c z g, K ≤ k' → R k' (mm F h q r (hl8 h (w + 1)) (hh8 h (w + 1)) tf lg) a x y 255 (P c z g) t) : R k (mm F h q r (hl8 h w) (hh8 h w) tf lg) a x y 255 (P c z g) p := by
  have Cm : ∀ {u v : Int}, CodeM (mm F h q r u v tf lg) p (up6 ++ [76] ++ [t.fmod 256, t.fdiv 256]) := mm_code C h1 hl
  clear C
  obtain ⟨td0, td1⟩ := wd_b t0 t1
  obtain ⟨e2, e3⟩ := hh8_up h0 h1 w0 w1
  obtain ⟨k1, rfl, hk1⟩ := kk (K := K + 4) 2 hk
  refine at_0 (i230 (v := hl8 h w) (r := hl8 h (w + 1)) S Cm 0 rfl rfl 18 rfl (by decide) (by decide) rfl (hl8_up h w) fun g => ?_)
  rw [mm_18]
  have jmp : ∀ (k' : Nat) (c z g : Bool), K + 1 ≤ k' → R k' (mm F h q r (hl8 h (w + 1)) (hh8 h (w + 1)) tf lg) a x y 255 (P c z g) (p + ((6 : Nat) : Int)) := fun k' c z g hk => by
    obtain ⟨k2, rfl, hk2⟩ := kk (K := K) 1 hk
    exact i76 S Cm 6 rfl rfl rfl rfl td0 td1 (wd_eq t) t0 t1 (hR _ _ _ _ hk2)
  cases hz : decide (hl8 h (w + 1) = 0) with
  | true =>
    refine i208f S Cm 2 rfl rfl rfl ?_
    obtain ⟨k2, rfl, hk2⟩ := kk (K := K + 3) 1 hk1
    refine i230 (v := hh8 h w) (r := hh8 h (w + 1)) S Cm 4 rfl rfl 19 rfl (by decide) (by decide) rfl (e2 (of_decide_eq_true hz)) fun g => ?_
    rw [mm_19]
    exact jmp _ _ _ _ (le_up (m := 3) (j := 1) hk2 (by decide))
  | false =>
    refine i208t S Cm 2 rfl rfl 2 rfl rfl rfl ?_
    rw [e3 (of_decide_eq_false hz)]
    exact jmp _ _ _ _ (le_up (m := 4) (j := 1) hk1 (by decide))
theorem step_dn (S : Steps n scr ob st R) {w p t : Int} {a x y : Int} {c z g : Bool} {K k : Nat} (h0 : 4000 ≤ h) (h1 : h < 16000) (w0 : -30 ≤ w) (w1 : w < 30) (hl : lg.length < 20) (C : CodeAt F p (dn8 ++ [76] ++ [t.fmod 256, t.fdiv 256])) (t0 : 0 ≤ t) (t1 : t < 65536)
    (hk : K + 6 ≤ k) (hR : ∀ k' a c z g, K ≤ k' → R k' (mm F h q r (hl8 h (w - 1)) (hh8 h (w - 1)) tf lg) a x y 255 (P c z g) t) : R k (mm F h q r (hl8 h w) (hh8 h w) tf lg) a x y 255 (P c z g) p := by
  have Cm : ∀ {u v : Int}, CodeM (mm F h q r u v tf lg) p (dn8 ++ [76] ++ [t.fmod 256, t.fdiv 256]) := mm_code C h1 hl
  clear C
  obtain ⟨td0, td1⟩ := wd_b t0 t1
  obtain ⟨e2, e3⟩ := hh8_dn h0 h1 w0 w1
  obtain ⟨k1, rfl, hk1⟩ := kk (K := K + 4) 2 hk
  refine at_0 (i165 (v := hl8 h w) S Cm 0 rfl rfl 18 rfl (by decide) (by decide) rfl (hl8_b h w).1 (hl8_b h w).2 fun g => ?_)
  have rest : ∀ (k' : Nat) (a : Int) (c z g : Bool), K + 2 ≤ k' → R k' (mm F h q r (hl8 h w) (hh8 h (w - 1)) tf lg) a x y 255 (P c z g) (p + ((6 : Nat) : Int)) := fun k' a c z g hk => by
    obtain ⟨k2, rfl, hk2⟩ := kk (K := K) 2 hk
    refine i198 (v := hl8 h w) (r := hl8 h (w - 1)) S Cm 6 rfl rfl 18 rfl (by decide) (by decide) rfl (hl8_dn h w) fun g => ?_
    rw [mm_18]
    exact i76 S Cm 8 rfl rfl rfl rfl td0 td1 (wd_eq t) t0 t1 (hR _ _ _ _ _ hk2)
  cases hz : decide (hl8 h w = 0) with
  | true =>
    refine i208f S Cm 2 rfl rfl rfl ?_
    obtain ⟨k2, rfl, hk2⟩ := kk (K := K + 3) 1 hk1
    refine i198 (v := hh8 h w) (r := hh8 h (w - 1)) S Cm 4 rfl rfl 19 rfl (by decide) (by decide) rfl (e2 (of_decide_eq_true hz)) fun g => ?_
    rw [mm_19]
    exact rest _ _ _ _ _ (le_up (m := 3) (j := 2) hk2 (by decide))
  | false =>
    refine i208t S Cm 2 rfl rfl 2 rfl rfl rfl ?_
    have := rest k1 (hl8 h w) c false g (le_up (m := 4) (j := 2) hk1 (by decide))
    rw [← e3 (of_decide_eq_false hz)] at this
    exact this
end
end Mine
end
section
set_option Elab.async false
set_option maxRecDepth 100000
set_option linter.unusedVariables false
open PySem PySem.W PyProof.Rows PySem.Claim2Try PySem.Pin
namespace Mine
open PySem.Challenge
theorem hd_eq (h w : Int) : hl8 h w + hh8 h w * 256 = h + w := by unfold hl8 hh8; omega
structure HdB (h w : Int) : Prop where
  h0 : 4000 ≤ h
  h1 : h < 16000
  w0 : -30 ≤ w
  w1 : w < 30
theorem HdB.hi {h w : Int} (B : HdB h w) : 0 ≤ hh8 h w ∧ hh8 h w < 256 := by obtain ⟨a, b, c, d⟩ := B; unfold hh8; omega
theorem HdB.ad {h w : Int} (B : HdB h w) : 0 ≤ h + w ∧ h + w < 65536 := by obtain ⟨a, b, c, d⟩ := B; omega
theorem HdB.w2 {h w : Int} (B : HdB h w) : -32 ≤ w ∧ w < 32 := by obtain ⟨a, b, c, d⟩ := B; omega
section
variable {n : Nat} {scr : Nat → Int} {ob : Nat → AObj} {st : Int} {R : Rt} {F : Nat → Int} {h q r : Int} {tf : Int → Int} {lg : List Int}
theorem mm_g8 {h q r u v : Int} {tf : Int → Int} : mm F h q r u v tf lg 18 = u := rfl
theorem mm_g9 {h q r u v : Int} {tf : Int → Int} : mm F h q r u v tf lg 19 = v := rfl
theorem bx_eq (W : Int) : ((18 - W).fmod 256 + W) % 256 = 18 := by rw [show (18 - W).fmod 256 = _ from fmod_lit _ 256]; omega
theorem tail_at {w p t d : Int} {a x y : Int} {K k : Nat} (S : Steps n scr ob st R) (B : HdB h w) (hl : lg.length < 20) (hd : d = 1 ∨ d = -1) (C : CodeAt F p (cond (decide (d = 1)) [230, 18, 208, 2, 230, 19] [165, 18, 208, 2, 198, 19, 198, 18] ++ [76] ++ [t.fmod 256, t.fdiv 256])) (t0 : 0 ≤ t) (t1 : t < 65536)
    (hk : K + 6 ≤ k) (hR : ∀ k' a c z g, K ≤ k' → R k' (mm F h q r (hl8 h (w + d)) (hh8 h (w + d)) tf lg) a x y 255 (P c z g) t) (c z g : Bool) : R k (mm F h q r (hl8 h w) (hh8 h w) tf lg) a x y 255 (P c z g) p := by
  rcases hd with rfl | rfl
  · exact step_up S B.h0 B.h1 B.w0 B.w1 hl C t0 t1 hk fun k' c z g hk => hR k' a c z g hk
  · exact step_dn S B.h0 B.h1 B.w0 B.w1 hl C t0 t1 hk hR
theorem rule_run (S : Steps n scr ob st R) {ev : Bool} {w W p t d v : Int} {a x y : Int} {c z g : Bool} {K k : Nat} (B : HdB h w) (hl : lg.length < 20) (hd : d = 1 ∨ d = -1) (v0 : 0 ≤ v) (v1 : v < 256) (hy : ev = true → y = 0) (hx : ev = false → x = W)
    (C : CodeAt F p (ruleL ev v d W t)) (t0 : 0 ≤ t) (t1 : t < 65536) (hk : K + 8 ≤ k) (hR : ∀ k' a c z g, K ≤ k' → R k' (mm F h q r (hl8 h (w + d)) (hh8 h (w + d)) (setT tf w v) lg) a x y 255 (P c z g) t) :
    R k (mm F h q r (hl8 h w) (hh8 h w) tf lg) a x y 255 (P c z g) p := by
  have e4 : ruleL ev v d W t = ([169, v] ++ cond ev [145, 18] [129, (18 - W).fmod 256]) ++ (cond (decide (d = 1)) [230, 18, 208, 2, 230, 19] [165, 18, 208, 2, 198, 19, 198, 18] ++ [76] ++ [t.fmod 256, t.fdiv 256]) := by
    unfold ruleL; simp only [List.append_assoc]
  rw [e4] at C
  have Ct := C.right (q := p + ((2 + 2 : Nat) : Int)) (by cases ev <;> rfl)
  have Cm : CodeM (mm F h q r (hl8 h w) (hh8 h w) tf lg) p ([169, v] ++ cond ev [145, 18] [129, (18 - W).fmod 256]) := mm_code C.left B.h1 hl
  clear C
  obtain ⟨hh0, hh1⟩ := B.hi
  obtain ⟨ad0, ad1⟩ := B.ad
  obtain ⟨k1, rfl, hk1⟩ := kk (K := K + 6) 2 hk
  refine at_0 (i169 (v := v) S Cm 0 rfl rfl rfl v0 v1 fun g => ?_)
  cases ev with
  | true =>
    obtain rfl := hy rfl
    refine i145 S Cm 2 rfl rfl rfl mm_g8 mm_g9 hh0 hh1 (hd_eq h w) ad0 ad1 ?_
    rw [mm_tp B.h0 w B.w2.1 B.w2.2 hl]
    exact tail_at S B hl hd Ct t0 t1 hk1 hR _ _ _
  | false =>
    obtain rfl := hx rfl
    refine i129 S Cm 2 rfl rfl rfl (bx_eq x) mm_g8 mm_g9 hh0 hh1 (hd_eq h w) ad0 ad1 ?_
    rw [mm_tp B.h0 w B.w2.1 B.w2.2 hl]
    exact tail_at S B hl hd Ct t0 t1 hk1 hR _ _ _
theorem pre_len (ev : Bool) (s W m0 m1 : Int) : (preL ev s W m0 m1).length = 26 := by cases ev <;> rfl
theorem pre_blt (ev : Bool) (s W m0 m1 : Int) (i : Nat) (hi : Nat.blt i 26 = true) : Nat.blt i (preL ev s W m0 m1).length = true := by rw [pre_len]; exact hi
theorem three {a : Int} (a0 : 0 ≤ a) (a1 : a < 3) : (a = 1) ∨ (a = 2) ∨ (a = 0) := by omega
theorem pos_a (p : Int) (m : Nat) : p + 26 + (m : Int) + ((0 : Nat) : Int) = p + ((22 + 2 + (2 + m) : Nat) : Int) := by omega
theorem pos_b (p : Int) (m k : Nat) : p + 26 + (m : Int) + (k : Int) + ((0 : Nat) : Int) = p + ((24 + 2 + (m + k) : Nat) : Int) := by omega
theorem blt_a {m : Nat} (h : m ≤ 15) : Nat.blt (2 + m) 128 = true := Nat.blt_eq.mpr (by omega)
theorem blt_b {m k : Nat} (h : m ≤ 15) (h2 : k ≤ 15) : Nat.blt (m + k) 128 = true := Nat.blt_eq.mpr (by omega)
/-- behind the reading of the sign: the choice among three rules -/
theorem pick_run (S : Steps n scr ob st R) {ev : Bool} {s w W p : Int} {g pl : Nat → Int} {a x y : Int} {c z b : Bool} {K k : Nat} (B : HdB h w) (hl : lg.length < 20) (hev : evn s = ev) (hy : ev = true → y = 0) (hx : ev = false → x = W)
    (C : CodeAt F p (blockL g pl s W)) (tp : ∀ t, 0 ≤ pl (rF g s t).toNat ∧ pl (rF g s t).toNat < 65536) (a0 : 0 ≤ tf w) (a1 : tf w < 3) (ha : tf w = a) (hk : K + 11 ≤ k)
    (hR : ∀ k' a c z b, K ≤ k' → R k' (mm F h q r (hl8 h (w + rD g s (tf w))) (hh8 h (w + rD g s (tf w))) (setT tf w (rW g s (tf w))) lg) a x y 255 (P c z b) (pl (rF g s (tf w)).toNat)) :
    R k (mm F h q r (hl8 h w) (hh8 h w) tf lg) a x y 255 (P c z b) (p + ((20 : Nat) : Int)) := by
  have l0 := rul_len g pl s W 0
  have l1 := rul_len g pl s W 1
  have C0 := C.left.left.left
  have R0 : CodeAt F (p + 26) (rulL g pl s W 0) := C.left.left.right (by rw [pre_len]; rfl)
  have R1 : CodeAt F (p + 26 + ((rulL g pl s W 0).length : Int)) (rulL g pl s W 1) := C.left.right (by rw [List.length_append, pre_len, Int.add_assoc]; rfl)
  have R2 : CodeAt F (p + 26 + ((rulL g pl s W 0).length : Int) + ((rulL g pl s W 1).length : Int)) (rulL g pl s W 2) := C.right (by rw [List.length_append, List.length_append, pre_len, Int.add_assoc, Int.add_assoc, ← Int.add_assoc 26]; rfl)
  clear C
  generalize (rulL g pl s W 0).length = m0 at l0 C0 R1 R2
  generalize (rulL g pl s W 1).length = m1 at l1 C0 R2
  have Cm : CodeM (mm F h q r (hl8 h w) (hh8 h w) tf lg) p (preL (evn s) s W m0 m1) := mm_code C0 B.h1 hl
  clear C0
  have fin : ∀ (t : Int) (q' : Int) (k' : Nat) (c z b : Bool), tf w = t → CodeAt F q' (rulL g pl s W t) → K + 8 ≤ k' → R k' (mm F h q r (hl8 h w) (hh8 h w) tf lg) a x y 255 (P c z b) q' := fun t q' k' c z b ht Cq hk => by
    subst ht
    have v := rW_b g s (tf w)
    unfold rulL at Cq
    exact rule_run S B hl (rD_b g s _) v.1 (Int.lt_trans v.2 (by decide)) (fun e => hy (hev ▸ e)) (fun e => hx (hev ▸ e)) Cq (tp _).1 (tp _).2 hk hR
  obtain ⟨k1, rfl, hk1⟩ := kk (K := K + 9) 2 hk
  have bl := fun i hi => pre_blt (evn s) s W m0 m1 i hi
  subst ha
  refine i201 (v := 1) S Cm 20 (bl 21 rfl) (by cases evn s <;> rfl) (by cases evn s <;> rfl) a0 (Int.lt_trans a1 (by decide)) (by decide) (by decide) fun b => ?_
  rcases three a0 a1 with e | e | e
  · rw [decide_eq_true e]
    refine i240t S Cm 22 (bl 23 rfl) (by cases evn s <;> rfl) (2 + m0) (by cases evn s <;> rfl) (blt_a l0.1) rfl ?_
    rw [← pos_a]
    exact at_pc (Int.add_zero _).symm (fin 1 _ _ _ _ _ e R1 (le_up (m := 9) (j := 8) hk1 (by decide)))
  · rw [show decide (tf w = 1) = false by rw [e]; rfl, show decide (1 ≤ tf w) = true by rw [e]; rfl]
    obtain ⟨k2, rfl, hk2⟩ := kk (K := K + 8) 1 hk1
    refine i240f S Cm 22 (bl 23 rfl) (by cases evn s <;> rfl) rfl ?_
    refine i176t S Cm 24 (bl 25 rfl) (by cases evn s <;> rfl) (m0 + m1) (by cases evn s <;> rfl) (blt_b l0.1 l1.1) rfl ?_
    rw [← pos_b]
    exact at_pc (Int.add_zero _).symm (fin 2 _ _ _ _ _ e R2 hk2)
  · rw [show decide (tf w = 1) = false by rw [e]; rfl, show decide (1 ≤ tf w) = false by rw [e]; rfl]
    obtain ⟨k2, rfl, hk2⟩ := kk (K := K + 8) 1 hk1
    refine i240f S Cm 22 (bl 23 rfl) (by cases evn s <;> rfl) rfl ?_
    refine i176f S Cm 24 (bl 25 rfl) (by cases evn s <;> rfl) rfl ?_
    exact fin 0 _ _ _ _ _ e R0 hk2
theorem len_push (lg : List Int) (s : Int) (hl : lg.length < 19) : (lg ++ [s]).length < 20 := by rw [List.length_append]; exact Nat.succ_lt_succ hl
theorem sub1 {lf : Int} (a : 1 ≤ lf) (b : lf < 200) : (lf - 1) % 256 = lf - 1 := by omega
theorem len_b {l : List Int} (hl : l.length < 20) : 0 ≤ (l.length : Int) ∧ (l.length : Int) < 256 ∧ ((l.length : Int) + 1) % 256 = (l.length : Int) + 1 := by omega
theorem block_run (S : Steps n scr ob st R) {s w W p lf : Int} {g pl : Nat → Int} {a x y : Int} {c z b : Bool} {K k : Nat} (B : HdB h w) (hl : lg.length < 19) (s0 : 0 ≤ s) (s1 : s < 256) (W0 : 0 ≤ W) (W1 : W < 256)
    (C : CodeAt F p (blockL g pl s W)) (tp : ∀ t, 0 ≤ pl (rF g s t).toNat ∧ pl (rF g s t).toNat < 65536) (a0 : 0 ≤ tf w) (a1 : tf w < 3) (lf0 : 1 ≤ lf) (lf1 : lf < 200) (hk : K + 20 ≤ k)
    (hZ : lf - 1 = 0 → ∀ k' a x y c z b, K ≤ k' → R k' (mm F h 0 lg.length (hl8 h w) (hh8 h w) tf lg) a x y 255 (P c z b) 600)
    (hR : lf - 1 ≠ 0 → ∀ k' a x y c z b, K ≤ k' → R k' (mm F h (lf - 1) ((lg.length : Int) + 1) (hl8 h (w + rD g s (tf w))) (hh8 h (w + rD g s (tf w))) (setT tf w (rW g s (tf w))) (lg ++ [s])) a x y 255 (P c z b) (pl (rF g s (tf w)).toNat)) :
    R k (mm F h lf lg.length (hl8 h w) (hh8 h w) tf lg) a x y 255 (P c z b) p := by
  have C0 := C.left.left.left
  generalize ((rulL g pl s W 0).length : Int) = m0 at C0
  generalize ((rulL g pl s W 1).length : Int) = m1 at C0
  have hl20 : lg.length < 20 := Nat.lt_succ_of_lt hl
  have hl2 := len_push lg s hl
  have Cm : ∀ {q r u v : Int} {lg' : List Int}, lg'.length < 20 → CodeM (mm F h q r u v tf lg') p (preL (evn s) s W m0 m1) := fun hl' => mm_code C0 B.h1 hl'
  clear C0
  have bl := fun i hi => pre_blt (evn s) s W m0 m1 i hi
  obtain ⟨n0, n1, n2⟩ := len_b hl20
  obtain ⟨k1, rfl, hk1⟩ := kk (K := K + 17) 3 hk
  refine at_0 (i198 (v := lf) (r := lf - 1) S (Cm hl20) 0 (bl 1 rfl) rfl 16 rfl (by decide) (by decide) rfl (sub1 lf0 lf1) fun b => ?_)
  rw [mm_16]
  cases hz : decide (lf - 1 = 0) with
  | true =>
    have hz := of_decide_eq_true hz
    rw [hz]
    refine i208f S (Cm hl20) 2 (bl 3 rfl) rfl rfl ?_
    exact i76 (m := 88) (u := 2) (t := 600) S (Cm hl20) 4 (bl 6 rfl) rfl rfl rfl (by decide) (by decide) (by decide) (by decide) (by decide) (hZ hz _ _ _ _ _ _ _ (le_up (m := 17) (j := 0) hk1 (by decide)))
  | false =>
    have hR := hR (of_decide_eq_false hz)
    clear hZ
    refine i208t S (Cm hl20) 2 (bl 3 rfl) rfl 3 rfl rfl rfl ?_
    refine i166 (v := lg.length) S (Cm hl20) 7 (bl 8 rfl) rfl 17 rfl (by decide) (by decide) rfl n0 n1 fun b => ?_
    obtain ⟨k2, rfl, hk2⟩ := kk (K := K + 12) 5 hk1
    refine i169 (v := s) S (Cm hl20) 9 (bl 10 rfl) rfl rfl s0 s1 fun b => ?_
    refine i157 S (Cm hl20) 11 (bl 13 rfl) rfl rfl rfl n0 n1 ?_
    rw [mm_lg hl20]
    refine i230 (v := lg.length) (r := (lg.length : Int) + 1) S (Cm hl2) 14 (bl 15 rfl) rfl 17 rfl (by decide) (by decide) rfl n2 fun b => ?_
    rw [mm_17]
    obtain ⟨hh0, hh1⟩ := B.hi
    obtain ⟨ad0, ad1⟩ := B.ad
    have hk3 := le_up (m := 12) (j := 11) hk2 (by decide)
    cases hev : evn s with
    | true =>
      rw [hev] at Cm
      refine i160 (v := 0) S (Cm hl2) 16 rfl rfl rfl (by decide) (by decide) fun b => ?_
      refine i177 S (Cm hl2) 18 rfl rfl rfl mm_g8 mm_g9 hh0 hh1 (hd_eq h w) ad0 ad1 (mm_rt B.h0 w B.w2.1 B.w2.2 hl2) a0 (Int.lt_trans a1 (by decide)) fun b => ?_
      exact pick_run S B hl2 hev (fun _ => rfl) (fun e => nomatch e) C tp a0 a1 rfl hk3 fun k' a c z b hk => hR _ _ _ _ _ _ _ hk
    | false =>
      rw [hev] at Cm
      refine i162 (v := W) S (Cm hl2) 16 rfl rfl rfl W0 W1 fun b => ?_
      refine i161 S (Cm hl2) 18 rfl rfl rfl (bx_eq W) mm_g8 mm_g9 hh0 hh1 (hd_eq h w) ad0 ad1 (mm_rt B.h0 w B.w2.1 B.w2.2 hl2) a0 (Int.lt_trans a1 (by decide)) fun b => ?_
      exact pick_run S B hl2 hev (fun e => nomatch e) (fun _ => rfl) C tp a0 a1 rfl hk3 fun k' a c z b hk => hR _ _ _ _ _ _ _ hk
end
end Mine
end
section
set_option Elab.async false
set_option maxRecDepth 100000
set_option linter.unusedVariables false
open PySem PySem.W PyProof.Rows PySem.Claim2Try PySem.Pin
namespace Mine
open PySem.Challenge
/-- how a plain machine ends -/
structure Fs where
  s : Int
  wh : Int
  left : Nat
  tf : Int → Int
  lg : List Int
noncomputable def run (g : Nat → Int) : Nat → Int → Int → (Int → Int) → List Int → Fs
  | 0, s, wh, tf, lg => ⟨s, wh, 0, tf, lg⟩
  | m + 1, s, wh, tf, lg => if s = 4 then ⟨4, wh, m + 1, tf, lg⟩ else if m = 0 then ⟨s, wh, 0, tf, lg⟩ else run g m (rF g s (tf wh)) (wh + rD g s (tf wh)) (setT tf wh (rW g s (tf wh))) (lg ++ [s])
theorem run_4 {g : Nat → Int} {m : Nat} {wh : Int} {tf : Int → Int} {lg : List Int} : run g (m + 1) 4 wh tf lg = ⟨4, wh, m + 1, tf, lg⟩ := by rw [run, if_pos rfl]
theorem run_1 {g : Nat → Int} {s wh : Int} {tf : Int → Int} {lg : List Int} (hs : s ≠ 4) : run g (0 + 1) s wh tf lg = ⟨s, wh, 0, tf, lg⟩ := by rw [run, if_neg hs, if_pos rfl]
theorem run_s {g : Nat → Int} {m : Nat} {s wh : Int} {tf : Int → Int} {lg : List Int} (hs : s ≠ 4) : run g (m + 1 + 1) s wh tf lg = run g (m + 1) (rF g s (tf wh)) (wh + rD g s (tf wh)) (setT tf wh (rW g s (tf wh))) (lg ++ [s]) := by rw [run, if_neg hs, if_neg (Nat.succ_ne_zero m)]
theorem setT_b {tf : Int → Int} (ht : ∀ j, 0 ≤ tf j ∧ tf j < 3) (g : Nat → Int) (s w t : Int) (j : Int) : 0 ≤ setT tf w (rW g s t) j ∧ setT tf w (rW g s t) j < 3 := by
  unfold setT
  split
  · exact rW_b g s t
  · exact ht j
structure Wb (m : Nat) (wh : Int) (n : Nat) : Prop where
  a : (m : Int) - 16 ≤ wh
  b : wh ≤ 16 - (m : Int)
  c : n + m ≤ 16
theorem Wb.hd {m n : Nat} {wh h : Int} (w : Wb m wh n) (h0 : 4000 ≤ h) (h1 : h < 16000) : HdB h wh := by obtain ⟨a, b, c⟩ := w; exact ⟨h0, h1, by clear h0 h1; omega, by clear h0 h1; omega⟩
theorem Wb.len {m n : Nat} {wh : Int} (w : Wb m wh n) : n < 19 := by obtain ⟨a, b, c⟩ := w; clear a b; omega
theorem Wb.next {m n : Nat} {wh d : Int} (w : Wb (m + 1) wh n) (hd : d = 1 ∨ d = -1) : Wb m (wh + d) (n + 1) := by
  obtain ⟨a, b, c⟩ := w
  exact ⟨by clear c; omega, by clear c; omega, by clear a b hd; omega⟩
theorem left_b {m : Nat} (h : m ≤ 16) : 1 ≤ ((m + 1 : Nat) : Int) ∧ ((m + 1 : Nat) : Int) < 200 := by omega
theorem Wb.m {m n : Nat} {wh : Int} (w : Wb m wh n) : m ≤ 16 := by obtain ⟨a, b, c⟩ := w; clear a b; omega
theorem rF_i (g : Nat → Int) (s t : Int) : (rF g s t).toNat < 5 := by have := rF_b g s t; omega
theorem lt4 {s : Int} (a : s ≤ 4) (b : s ≠ 4) : s < 4 := by omega
theorem f20 {m k : Nat} (h : 20 * (m + 1 + 1) ≤ k) : 20 * (m + 1) + 20 ≤ k := by omega
theorem cast_pred (m : Nat) : ((m + 1 + 1 : Nat) : Int) - 1 = ((m + 1 : Nat) : Int) := by omega
theorem wb0 {m : Nat} (hm : m + 1 + 1 ≤ 13) : Wb (m + 1) 0 (([] : List Int).length) := ⟨by omega, by omega, by show 0 + (m + 1) ≤ 16; omega⟩
theorem f400 {m : Nat} (hm : m + 1 + 1 ≤ 13) : 20 * (m + 1 + 1) ≤ 400 := by omega
theorem ne0 (m : Nat) : ¬ (((m + 1 + 1 : Nat) : Int) - 1 = 0) := by omega
section
variable {n : Nat} {scr : Nat → Int} {ob : Nat → AObj} {st : Int} {R : Rt} {F : Nat → Int} {h : Int}
theorem mach_run (S : Steps n scr ob st R) {g pl : Nat → Int} {Wf : Int → Int} (h0 : 4000 ≤ h) (h1 : h < 16000) (hW : ∀ s, 0 ≤ Wf s ∧ Wf s < 256) (hC : ∀ s, 0 ≤ s → s < 4 → CodeAt F (pl s.toNat) (blockL g pl s (Wf s))) (hp : ∀ i, i < 5 → 0 ≤ pl i ∧ pl i < 65536) (h4 : pl 4 = 604) :
    ∀ (m : Nat) (s wh : Int) (tf : Int → Int) (lg : List Int) (k : Nat) (a x y : Int) (c z b : Bool), 0 ≤ s → s ≤ 4 → Wb m wh lg.length → (∀ j, 0 ≤ tf j ∧ tf j < 3) → 20 * (m + 1) ≤ k →
      (∀ k a x y c z b, R k (mm F h (run g (m + 1) s wh tf lg).left (run g (m + 1) s wh tf lg).lg.length (hl8 h (run g (m + 1) s wh tf lg).wh) (hh8 h (run g (m + 1) s wh tf lg).wh) (run g (m + 1) s wh tf lg).tf (run g (m + 1) s wh tf lg).lg) a x y 255 (P c z b) (if (run g (m + 1) s wh tf lg).s = 4 then 604 else 600)) →
      R k (mm F h ((m + 1 : Nat) : Int) lg.length (hl8 h wh) (hh8 h wh) tf lg) a x y 255 (P c z b) (pl s.toNat) := by
  intro m
  induction m with
  | zero =>
    intro s wh tf lg k a x y c z b s0 s1 wb ht hk hfin
    by_cases h4' : s = 4
    · subst h4'
      rw [run_4] at hfin
      have := hfin k a x y c z b
      rw [if_pos rfl] at this
      exact at_pc (by rw [← h4]; rfl) this
    · rw [run_1 h4'] at hfin
      have s4 := lt4 s1 h4'
      refine block_run (K := 0) S (wb.hd h0 h1) wb.len s0 (Int.lt_trans s4 (by decide)) (hW s).1 (hW s).2 (hC s s0 s4) (fun t => hp _ (rF_i g s t)) (ht wh).1 (ht wh).2 (by decide) (by decide) hk (fun _ k' a x y c z b _ => ?_) (fun hne => absurd rfl hne)
      have := hfin k' a x y c z b
      rw [if_neg h4'] at this
      exact this
  | succ m ih =>
    intro s wh tf lg k a x y c z b s0 s1 wb ht hk hfin
    by_cases h4' : s = 4
    · subst h4'
      rw [run_4] at hfin
      have := hfin k a x y c z b
      rw [if_pos rfl] at this
      exact at_pc (by rw [← h4]; rfl) this
    · rw [run_s h4'] at hfin
      have s4 := lt4 s1 h4'
      have fb := rF_b g s (tf wh)
      have lb := left_b wb.m
      refine block_run (K := 20 * (m + 1)) S (wb.hd h0 h1) wb.len s0 (Int.lt_trans s4 (by decide)) (hW s).1 (hW s).2 (hC s s0 s4) (fun t => hp _ (rF_i g s t)) (ht wh).1 (ht wh).2 lb.1 lb.2 (f20 hk) (fun h1 => absurd h1 (ne0 m)) (fun _ k' a x y c z b hk' => ?_)
      have e2 : ((lg.length : Int) + 1) = ((lg ++ [s]).length : Int) := by rw [List.length_append]; rfl
      rw [cast_pred, e2]
      refine ih _ _ _ _ k' a x y c z b fb.1 (Int.le_of_lt_add_one fb.2) (by rw [List.length_append]; exact wb.next (rD_b g s (tf wh))) (setT_b ht g s wh _) hk' hfin
end
/-- dicts of numbers -/
theorem look_put (j k : Int) (v : AV) (es : List (Int × AV)) : lookK j (putK k v es) = if j = k then some v else lookK j es := by
  have t1 : ∀ es : List (Int × AV), hasK k es = true → lookK j (turnK k v es) = if j = k then some v else lookK j es := fun es => by
    induction es with
    | nil => intro h; cases h
    | cons x r ih =>
      intro h
      obtain ⟨i, u⟩ := x
      have h : cond (decide (i = k)) true (hasK k r) = true := h
      show lookK j (cond (decide (i = k)) ((i, v) :: turnK k v r) ((i, u) :: turnK k v r)) = if j = k then some v else cond (decide (i = j)) (some u) (lookK j r)
      have tl : ∀ r : List (Int × AV), lookK j (turnK k v r) = if j = k ∧ hasK k r = true then some v else lookK j r := fun r => by
        induction r with
        | nil => rw [if_neg (fun q => nomatch q.2)]; rfl
        | cons x r ih =>
          obtain ⟨i, u⟩ := x
          show lookK j (cond (decide (i = k)) ((i, v) :: turnK k v r) ((i, u) :: turnK k v r)) = if j = k ∧ cond (decide (i = k)) true (hasK k r) = true then some v else cond (decide (i = j)) (some u) (lookK j r)
          by_cases hi : i = k
          · rw [decide_eq_true hi]
            show cond (decide (i = j)) (some v) (lookK j (turnK k v r)) = _
            by_cases hj : i = j
            · rw [decide_eq_true hj, if_pos ⟨by omega, rfl⟩]; rfl
            · rw [decide_eq_false hj, if_neg (fun q => hj (by omega)), ih, if_neg (fun q => hj (by omega))]; rfl
          · rw [decide_eq_false hi]
            show cond (decide (i = j)) (some u) (lookK j (turnK k v r)) = if j = k ∧ hasK k r = true then some v else _
            by_cases hj : i = j
            · rw [decide_eq_true hj, if_neg (fun q => hi (by omega))]; rfl
            · rw [decide_eq_false hj]; exact ih
      by_cases hi : i = k
      · rw [decide_eq_true hi]
        show cond (decide (i = j)) (some v) (lookK j (turnK k v r)) = _
        by_cases hj : i = j
        · rw [decide_eq_true hj, if_pos (by omega)]; rfl
        · rw [decide_eq_false hj, if_neg (by omega), tl, if_neg (fun q => hj (by omega))]; rfl
      · rw [decide_eq_false hi] at h
        rw [decide_eq_false hi]
        show cond (decide (i = j)) (some u) (lookK j (turnK k v r)) = _
        by_cases hj : i = j
        · rw [decide_eq_true hj, if_neg (by omega)]; rfl
        · rw [decide_eq_false hj]
          exact ih h
  have t2 : ∀ es : List (Int × AV), hasK k es = false → lookK j (es ++ [(k, v)]) = if j = k then some v else lookK j es := fun es => by
    induction es with
    | nil =>
      intro _
      show cond (decide (k = j)) (some v) none = _
      by_cases hj : j = k
      · rw [if_pos hj, decide_eq_true hj.symm]; rfl
      · rw [if_neg hj, decide_eq_false (fun e => hj e.symm)]; rfl
    | cons x r ih =>
      intro h
      obtain ⟨i, u⟩ := x
      have h : cond (decide (i = k)) true (hasK k r) = false := h
      have hi : ¬ i = k := fun e => by rw [decide_eq_true e] at h; cases h
      rw [decide_eq_false hi] at h
      show cond (decide (i = j)) (some u) (lookK j (r ++ [(k, v)])) = if j = k then some v else cond (decide (i = j)) (some u) (lookK j r)
      rw [ih h]
      by_cases hj : i = j
      · rw [decide_eq_true hj]
        show some u = if j = k then some v else some u
        rw [if_neg (show ¬ j = k by omega)]
      · rw [decide_eq_false hj]; rfl
  unfold putK
  cases h : hasK k es with
  | true => exact t1 es h
  | false => exact t2 es h
theorem turn_keys (k : Int) (v : AV) : ∀ es : List (Int × AV), (turnK k v es).map (·.1) = es.map (·.1)
  | [] => rfl
  | (j, u) :: r => by
    show (cond (decide (j = k)) ((j, v) :: turnK k v r) ((j, u) :: turnK k v r)).map (·.1) = j :: r.map (·.1)
    cases decide (j = k)
    · exact congrArg (j :: ·) (turn_keys k v r)
    · exact congrArg (j :: ·) (turn_keys k v r)
theorem put_len (k : Int) (v : AV) (es : List (Int × AV)) : (putK k v es).length ≤ es.length + 1 := by
  unfold putK
  cases hasK k es with
  | true =>
    have := congrArg List.length (turn_keys k v es)
    rw [List.length_map, List.length_map] at this
    exact Nat.le_trans (Nat.le_of_eq this) (Nat.le_succ _)
  | false => exact Nat.le_of_eq (by show (es ++ [(k, v)]).length = _; rw [List.length_append]; rfl)
theorem put_keys (k : Int) (v : AV) (es : List (Int × AV)) (j : Int) (hj : j ∈ (putK k v es).map (·.1)) : j = k ∨ j ∈ es.map (·.1) := by
  unfold putK at hj
  cases hh : hasK k es with
  | true => rw [hh] at hj; exact .inr (turn_keys k v es ▸ hj)
  | false =>
    rw [hh] at hj
    have hj : j ∈ (es ++ [(k, v)]).map (·.1) := hj
    rw [List.map_append, List.mem_append] at hj
    exact hj.elim .inr fun h => .inl (List.mem_singleton.mp h)
theorem look_none (j : Int) : ∀ {es : List (Int × AV)}, lookK j es = none → j ∉ es.map (·.1)
  | [], _ => fun h => nomatch h
  | (i, u) :: r, h => by
    have h : cond (decide (i = j)) (some u) (lookK j r) = none := h
    have hi : ¬ i = j := fun e => by rw [decide_eq_true e] at h; cases h
    rw [decide_eq_false hi] at h
    intro q
    rcases List.mem_cons.mp q with q | q
    · exact hi q.symm
    · exact look_none j h q
theorem look_mem (j : Int) : ∀ {es : List (Int × AV)}, j ∈ es.map (·.1) → ∃ v, lookK j es = some v
  | [], h => nomatch h
  | (i, u) :: r, h => by
    show ∃ v, cond (decide (i = j)) (some u) (lookK j r) = some v
    by_cases hi : i = j
    · exact ⟨u, by rw [decide_eq_true hi]; rfl⟩
    · rw [decide_eq_false hi]
      rcases List.mem_cons.mp h with q | q
      · exact absurd q.symm hi
      · exact look_mem j q
theorem look_some (j : Int) {v : AV} : ∀ {es : List (Int × AV)}, lookK j es = some v → j ∈ es.map (·.1)
  | [], h => by cases h
  | (i, u) :: r, h => by
    have h : cond (decide (i = j)) (some u) (lookK j r) = some v := h
    by_cases hi : i = j
    · exact List.mem_cons.mpr (.inl hi.symm)
    · rw [decide_eq_false hi] at h
      exact List.mem_cons_of_mem _ (look_some j h)
end Mine
end
section
set_option Elab.async false
set_option maxRecDepth 100000
set_option linter.unusedVariables false
open PySem PySem.W PyProof.Rows PySem.Claim2Try PySem.Pin
namespace Mine
open PySem.Challenge
theorem put_sub (k : Int) (v : AV) (es : List (Int × AV)) (j : Int) (hj : j ∈ es.map (·.1)) : j ∈ (putK k v es).map (·.1) := by
  unfold putK
  cases hasK k es with
  | true => exact (turn_keys k v es).symm ▸ hj
  | false =>
    show j ∈ (es ++ [(k, v)]).map (·.1)
    rw [List.map_append]
    exact List.mem_append_left _ hj
theorem getI_push (lg : List Int) (s : Int) : setF (getI lg) lg.length s = getI (lg ++ [s]) := by
  funext i
  unfold setF getI
  by_cases hi : i = lg.length
  · subst hi
    rw [show Nat.beq lg.length lg.length = true from Nat.beq_refl _, List.getD_eq_getElem?_getD, List.getD_eq_getElem?_getD, List.getElem?_append_right (Nat.le_refl _), Nat.sub_self]; rfl
  · rw [show Nat.beq i lg.length = false from beq_ne hi, List.getD_eq_getElem?_getD, List.getD_eq_getElem?_getD]
    show (lg[i]?).getD 0 = _
    by_cases hl : i < lg.length
    · rw [List.getElem?_append_left hl]
    · rw [List.getElem?_append_right (by omega), List.getElem?_eq_none (by omega), List.getElem?_eq_none (by show 1 ≤ _; omega)]
theorem someK_c {α : Type} {b : Bool} {x : α} {K : α → Prop} (hb : b = true) : someK (cond b (some x) none) K = K x := by rw [hb]; rfl
/-- the tape laid over a memory -/
noncomputable def pset (h : Int) (tf : Int → Int) : List Int → (Nat → Int) → Nat → Int
  | [], f => f
  | k :: r, f => pset h tf r (setF f (h + k).toNat (tf k))
theorem pset_at (h : Int) (tf : Int → Int) (i : Nat) : ∀ (ks : List Int) (f : Nat → Int), pset h tf ks f i = f i ∨ ∃ k ∈ ks, (h + k).toNat = i ∧ pset h tf ks f i = tf k
  | [], f => .inl rfl
  | k :: r, f => by
    rcases pset_at h tf i r (setF f (h + k).toNat (tf k)) with e | ⟨k', h1, h2, h3⟩
    · have e : pset h tf (k :: r) f i = setF f (h + k).toNat (tf k) i := e
      by_cases hi : i = (h + k).toNat
      · refine .inr ⟨k, List.mem_cons_self .., hi.symm, ?_⟩
        rw [e]; unfold setF; rw [hi, show Nat.beq (h + k).toNat (h + k).toNat = true from Nat.beq_refl _]; rfl
      · refine .inl ?_
        rw [e]; unfold setF; rw [beq_ne hi]; rfl
    · exact .inr ⟨k', List.mem_cons_of_mem _ h1, h2, h3⟩
theorem pset_in (h : Int) (tf : Int → Int) (i : Nat) : ∀ (ks : List Int) (f : Nat → Int), (∀ k ∈ ks, 0 ≤ h + k) → (∀ k, k ∈ ks → (h + k).toNat = i → pset h tf ks f i = tf ((i : Int) - h))
  | [], f, _, k, hk, _ => nomatch hk
  | j :: r, f, hb, k, hk, he => by
    by_cases hr : ∃ k' ∈ r, (h + k').toNat = i
    · obtain ⟨k', h1, h2⟩ := hr
      exact pset_in h tf i r _ (fun k hk => hb k (List.mem_cons_of_mem _ hk)) k' h1 h2
    · rcases List.mem_cons.mp hk with rfl | hk
      · rcases pset_at h tf i r (setF f (h + k).toNat (tf k)) with e | ⟨k', h1, h2, h3⟩
        · have e : pset h tf (k :: r) f i = setF f (h + k).toNat (tf k) i := e
          rw [e]; unfold setF; rw [he, show Nat.beq i i = true from Nat.beq_refl _]
          have := hb k (List.mem_cons_self ..)
          exact congrArg tf (by omega)
        · exact (hr ⟨k', h1, h2⟩).elim
      · exact (hr ⟨k, hk, he⟩).elim
section
variable (n : Nat) (scr : Nat → Int) (N : Nat) (g pl f fr : Nat → Int) (t h u v1 : Int) (Q : KF) (D : AV) (R : List (Str × AV))
variable (n1 : Nat) (g1 : Nat → Int) (n2 : Nat) (g2 : Nat → Int) (n3 : Nat) (g3 : Nat → Int) (n7 : Nat) (g7 : Nat → Int)
theorem it_a (hN : 12 ≤ N) (v w s x : Int) (es : List (Int × AV)) (k0 : Nat) (lg : Nat → Int) (s0 : 0 ≤ s) (s1 : s < 4) (hv : v - 1 ≠ 0) (hk : k0 ≤ 1000) (he : es.length ≤ 1000) (hx : (lookK w es).getD (.int 0) = .int x) (x0 : 0 ≤ x) (x1 : x < 3)
    (hQ : Q .next [("script", .given), ("total", .int t), ("numbers", .loc 4), ("first", .int u), ("places", .loc 5), ("left", .int (v - 1)), ("head", .int h), ("tape", .loc 6), ("memory", .loc 8), ("sign", .int v1), ("code", D), ("plain", .loc 9), ("mpu", .loc 10), ("where", .int (w + rD g s x)), ("state", .int (rF g s x)), ("log", .loc 11), ("write", .int (rW g s x)), ("step", .int (rD g s x)), ("follow", .int (rF g s x))] [.tab lp09, .nums n1 g1, .nums n2 g2, .nums n3 g3, .nums N g, .nums 5 pl, .idict none (putK w (.int (rW g s x)) es), .nums n7 g7, .nums 65536 f, .nums 65536 fr, .inst R, .nums (k0 + 1) (setF lg k0 s)]) : stmtsI ((inN (g09 n scr) 98).ex lawSc) (whBo (st 15)) [("script", .given), ("total", .int t), ("numbers", .loc 4), ("first", .int u), ("places", .loc 5), ("left", .int v), ("head", .int h), ("tape", .loc 6), ("memory", .loc 8), ("sign", .int v1), ("code", D), ("plain", .loc 9), ("mpu", .loc 10), ("where", .int w), ("state", .int s), ("log", .loc 11)] [.tab lp09, .nums n1 g1, .nums n2 g2, .nums n3 g3, .nums N g, .nums 5 pl, .idict none es, .nums n7 g7, .nums 65536 f, .nums 65536 fr, .inst R, .nums k0 lg] Q := by
  generalize hbo : whBo (st 15) = bo
  have e := lh15
  rw [hbo] at e
  rw [e, ← hbo, stmtsI_app, lb15a]
  refine cond_f (decide_eq_false hv) ?_
  rw [someK_c (decide_eq_true hk), nextK_next, stmtsI_app]
  have hn : caNm (asEx (hdT (whBo (st 15)) 3)) = nRule := by kernel_rfl
  have hh := assign_fn (G := g09 n scr) (n := 96) (sc := lawSc) (t := asTg (hdT (whBo (st 15)) 3)) (f := caNm (asEx (hdT (whBo (st 15)) 3))) (fp := caNp (asEx (hdT (whBo (st 15)) 3))) (pos := caPs (asEx (hdT (whBo (st 15)) 3))) (ps := asPs (hdT (whBo (st 15)) 3)) (args := caAr (asEx (hdT (whBo (st 15)) 3)))
    (L := [("script", .given), ("total", .int t), ("numbers", .loc 4), ("first", .int u), ("places", .loc 5), ("left", .int (v - 1)), ("head", .int h), ("tape", .loc 6), ("memory", .loc 8), ("sign", .int v1), ("code", D), ("plain", .loc 9), ("mpu", .loc 10), ("where", .int w), ("state", .int s), ("log", .loc 11)]) (σ := [.tab lp09, .nums n1 g1, .nums n2 g2, .nums n3 g3, .nums N g, .nums 5 pl, .idict none es, .nums n7 g7, .nums 65536 f, .nums 65536 fr, .inst R, .nums (k0 + 1) (setF lg k0 s)]) (Q := nextK (stmtsI ((inN (g09 n scr) 98).ex lawSc) ((whBo (st 15)).drop 4)) Q) (vs := [.loc 4, .int s, (lookK w es).getD (.int 0)]) (gg := fun Z => Z)
    (by kernel_rfl) (by kernel_rfl) (by kernel_rfl) (by kernel_rfl) (by kernel_rfl) (fun K => by kernel_rfl)
    (fun K => lc15a (K2 := K) ..)
  refine Eq.mpr hh ?_
  rw [hx, hn]
  show (inN (g09 n scr) 96).ca (.fn nRule) _ _ _ _
  rw [rule_a]
  refine ruleC_i hN s0 s1 x0 x1 ?_
  rw [ld15a, nextK_next, lg15]
  exact cond_t (decide_eq_true he) hQ
theorem it_b (hN : 12 ≤ N) (v w s x : Int) (v2 v3 v4 : Int) (es : List (Int × AV)) (k0 : Nat) (lg : Nat → Int) (s0 : 0 ≤ s) (s1 : s < 4) (hv : v - 1 ≠ 0) (hk : k0 ≤ 1000) (he : es.length ≤ 1000) (hx : (lookK w es).getD (.int 0) = .int x) (x0 : 0 ≤ x) (x1 : x < 3)
    (hQ : Q .next [("script", .given), ("total", .int t), ("numbers", .loc 4), ("first", .int u), ("places", .loc 5), ("left", .int (v - 1)), ("head", .int h), ("tape", .loc 6), ("memory", .loc 8), ("sign", .int v1), ("code", D), ("plain", .loc 9), ("mpu", .loc 10), ("where", .int (w + rD g s x)), ("state", .int (rF g s x)), ("log", .loc 11), ("write", .int (rW g s x)), ("step", .int (rD g s x)), ("follow", .int (rF g s x))] [.tab lp09, .nums n1 g1, .nums n2 g2, .nums n3 g3, .nums N g, .nums 5 pl, .idict none (putK w (.int (rW g s x)) es), .nums n7 g7, .nums 65536 f, .nums 65536 fr, .inst R, .nums (k0 + 1) (setF lg k0 s)]) : stmtsI ((inN (g09 n scr) 98).ex lawSc) (whBo (st 15)) [("script", .given), ("total", .int t), ("numbers", .loc 4), ("first", .int u), ("places", .loc 5), ("left", .int v), ("head", .int h), ("tape", .loc 6), ("memory", .loc 8), ("sign", .int v1), ("code", D), ("plain", .loc 9), ("mpu", .loc 10), ("where", .int w), ("state", .int s), ("log", .loc 11), ("write", .int v2), ("step", .int v3), ("follow", .int v4)] [.tab lp09, .nums n1 g1, .nums n2 g2, .nums n3 g3, .nums N g, .nums 5 pl, .idict none es, .nums n7 g7, .nums 65536 f, .nums 65536 fr, .inst R, .nums k0 lg] Q := by
  generalize hbo : whBo (st 15) = bo
  have e := lh15
  rw [hbo] at e
  rw [e, ← hbo, stmtsI_app, lb15b]
  refine cond_f (decide_eq_false hv) ?_
  rw [someK_c (decide_eq_true hk), nextK_next, stmtsI_app]
  have hn : caNm (asEx (hdT (whBo (st 15)) 3)) = nRule := by kernel_rfl
  have hh := assign_fn (G := g09 n scr) (n := 96) (sc := lawSc) (t := asTg (hdT (whBo (st 15)) 3)) (f := caNm (asEx (hdT (whBo (st 15)) 3))) (fp := caNp (asEx (hdT (whBo (st 15)) 3))) (pos := caPs (asEx (hdT (whBo (st 15)) 3))) (ps := asPs (hdT (whBo (st 15)) 3)) (args := caAr (asEx (hdT (whBo (st 15)) 3)))
    (L := [("script", .given), ("total", .int t), ("numbers", .loc 4), ("first", .int u), ("places", .loc 5), ("left", .int (v - 1)), ("head", .int h), ("tape", .loc 6), ("memory", .loc 8), ("sign", .int v1), ("code", D), ("plain", .loc 9), ("mpu", .loc 10), ("where", .int w), ("state", .int s), ("log", .loc 11), ("write", .int v2), ("step", .int v3), ("follow", .int v4)]) (σ := [.tab lp09, .nums n1 g1, .nums n2 g2, .nums n3 g3, .nums N g, .nums 5 pl, .idict none es, .nums n7 g7, .nums 65536 f, .nums 65536 fr, .inst R, .nums (k0 + 1) (setF lg k0 s)]) (Q := nextK (stmtsI ((inN (g09 n scr) 98).ex lawSc) ((whBo (st 15)).drop 4)) Q) (vs := [.loc 4, .int s, (lookK w es).getD (.int 0)]) (gg := fun Z => Z)
    (by kernel_rfl) (by kernel_rfl) (by kernel_rfl) (by kernel_rfl) (by kernel_rfl) (fun K => by kernel_rfl)
    (fun K => lc15b (K2 := K) ..)
  refine Eq.mpr hh ?_
  rw [hx, hn]
  show (inN (g09 n scr) 96).ca (.fn nRule) _ _ _ _
  rw [rule_a]
  refine ruleC_i hN s0 s1 x0 x1 ?_
  rw [ld15b, nextK_next, lg15]
  exact cond_t (decide_eq_true he) hQ
end
end Mine
end
section
set_option Elab.async false
set_option maxRecDepth 100000
set_option linter.unusedVariables false
open PySem PySem.W PyProof.Rows PySem.Claim2Try PySem.Pin
namespace Mine
open PySem.Challenge
theorem k_pred {m kk : Nat} (h : m + 2 ≤ kk) : ∃ k1, kk = k1 + 1 ∧ m + 1 ≤ k1 := ⟨kk - 1, by omega, by omega⟩
theorem Wb.out {m n : Nat} {wh : Int} (w : Wb m wh n) : n ≤ 100 ∧ -17 < wh ∧ wh < 17 := by
  obtain ⟨a, b, c⟩ := w
  exact ⟨by clear a b; omega, by clear c; omega, by clear c; omega⟩
theorem le1000 {n m : Nat} (h : n + m ≤ 100) : n ≤ 1000 := by omega
theorem put_next {a b m : Nat} (h : a ≤ b + 1) (h2 : b + (m + 1) ≤ 100) : a + m ≤ 100 := by omega
theorem min_i {p : Int} (p1 : p ≤ 65536) (p0 : 0 ≤ p) : min p.toNat 65536 = p.toNat := Nat.min_eq_left (Int.toNat_le.mpr p1)
theorem nat_add {p : Int} {M : Nat} (p0 : 0 ≤ p) : (p + (M : Int)).toNat = p.toNat + M := Int.toNat_add_nat p0 M
theorem le_of_sum {p : Int} {M : Nat} (h : p + M ≤ 65536) : p ≤ 65536 := by omega
theorem sub_sum {a M : Nat} (h : a + M ≤ 65536) : a + M + (65536 - (a + M)) = 65536 := by omega
theorem nat_le {p : Int} {M : Nat} (p0 : 0 ≤ p) (h : p + M ≤ 65536) : p.toNat + M ≤ 65536 := by rw [← Int.toNat_add_nat p0 M]; exact Int.toNat_le.mpr h
theorem key_b {h k : Int} (h0 : 4000 ≤ h) (h1 : h < 16000) (k0 : -17 < k) (k1 : k < 17) : 0 ≤ h + k ∧ h + k < 65536 := by omega
/-- a list laid into another -/
noncomputable def putF (p M : Nat) (g f : Nat → Int) (k : Nat) : Int := if p ≤ k ∧ k < p + M then g (k - p) else f k
theorem splice_put (p M : Nat) (f g : Nat → Int) : spliceF p (p + M) M f g = putF p M g f := by
  funext k
  unfold spliceF putF
  by_cases h1 : k < p
  · rw [Nat.blt_eq.mpr h1, if_neg (by omega)]; rfl
  · rw [show Nat.blt k p = false from by rw [Bool.eq_false_iff]; exact fun z => h1 (Nat.blt_eq.mp z)]
    by_cases h2 : k < p + M
    · rw [Nat.blt_eq.mpr h2, if_pos (by omega)]; rfl
    · rw [show Nat.blt k (p + M) = false from by rw [Bool.eq_false_iff]; exact fun z => h2 (Nat.blt_eq.mp z), if_neg (by omega)]
      exact congrArg f (by omega)
theorem numsK_at {σ : Hp} {m N : Nat} {f : Nat → Int} {K : Nat → Nat → (Nat → Int) → Prop} (hm : nth σ m = some (.nums N f)) : numsK σ (.loc m) K = K m N f := by
  show (match nth σ m with | some (.nums p f) => K m p f | _ => False) = _
  rw [hm]
theorem readK_at {σ : Hp} {m N : Nat} {f : Nat → Int} {K : Nat → (Nat → Int) → Prop} (hm : nth σ m = some (.nums N f)) : readK σ (.loc m) K = K N f := by
  show (match nth σ m with | some (.nums p f) => K p f | _ => False) = _
  rw [hm]
theorem bound_int {N d : Nat} {i : Int} (h : 0 ≤ i) : boundI N d (.int i) = some (min i.toNat N) := by
  show cond (decide (0 ≤ i)) (some (min i.toNat N)) none = _
  rw [decide_eq_true h]; rfl
theorem setSlice_i {m M : Nat} {z : AV} {p : Int} {f g : Nat → Int} {σ : Hp} {K : Hp → Prop} (hm : nth σ m = some (.nums 65536 f)) (hz : ∀ K, readK σ z K = K M g) (hs : sameLoc m z = false) (p0 : 0 ≤ p) (p1 : p + M ≤ 65536) (h : K (setN σ m (.nums 65536 (putF p.toNat M g f)))) :
    setSliceI (.loc m) (.int p) (.int (p + (M : Int))) z σ K := by
  unfold setSliceI
  rw [numsK_at hm, hz]
  refine cond_f hs ?_
  rw [bound_int p0, bound_int (Int.add_nonneg p0 (Int.natCast_nonneg M))]
  rw [min_i (le_of_sum p1) p0, nat_add p0, Nat.min_eq_left (nat_le p0 p1)]
  show cond (decide (p.toNat ≤ p.toNat + M) && decide (p.toNat + M + (65536 - (p.toNat + M)) ≤ 1000000)) (K (setN σ m (.nums (p.toNat + M + (65536 - (p.toNat + M))) (spliceF p.toNat (p.toNat + M) M f g)))) False
  rw [sub_sum (nat_le p0 p1), splice_put]
  refine cond_t ?_ h
  rw [decide_eq_true (Nat.le_add_right p.toNat M)]
  rfl
section
variable (n : Nat) (scr : Nat → Int) (N : Nat) (g pl f fr : Nat → Int) (t h u v1 : Int) (Q : KF) (D : AV) (R : List (Str × AV))
variable (n1 : Nat) (g1 : Nat → Int) (n2 : Nat) (g2 : Nat → Int) (n3 : Nat) (g3 : Nat → Int) (n7 : Nat) (g7 : Nat → Int)
theorem plain_run (hN : 12 ≤ N) : ∀ (m kk : Nat) (s wh : Int) (tf : Int → Int) (lg : List Int) (es : List (Int × AV)) (v2 v3 v4 : Int), 0 ≤ s → s ≤ 4 → Wb m wh lg.length → es.length + m ≤ 100 → (∀ j, 0 ≤ tf j ∧ tf j < 3) → (∀ j, (lookK j es).getD (.int 0) = .int (tf j)) → (∀ j ∈ es.map (·.1), -17 < j ∧ j < 17) → m + 2 ≤ kk →
    (∀ (es' : List (Int × AV)) (v2 v3 v4 : Int), (∀ j, (lookK j es').getD (.int 0) = .int ((run g (m + 1) s wh tf lg).tf j)) → (∀ j ∈ es'.map (·.1), -17 < j ∧ j < 17) → (∀ j ∈ es.map (·.1), j ∈ es'.map (·.1)) → (run g (m + 1) s wh tf lg).lg.length ≤ 100 → -17 < (run g (m + 1) s wh tf lg).wh → (run g (m + 1) s wh tf lg).wh < 17 →
      Q .next [("script", .given), ("total", .int t), ("numbers", .loc 4), ("first", .int u), ("places", .loc 5), ("left", .int ((run g (m + 1) s wh tf lg).left : Int)), ("head", .int h), ("tape", .loc 6), ("memory", .loc 8), ("sign", .int v1), ("code", D), ("plain", .loc 9), ("mpu", .loc 10), ("where", .int (run g (m + 1) s wh tf lg).wh), ("state", .int (run g (m + 1) s wh tf lg).s), ("log", .loc 11), ("write", .int v2), ("step", .int v3), ("follow", .int v4)] [.tab lp09, .nums n1 g1, .nums n2 g2, .nums n3 g3, .nums N g, .nums 5 pl, .idict none es', .nums n7 g7, .nums 65536 f, .nums 65536 fr, .inst R, .nums (run g (m + 1) s wh tf lg).lg.length (getI (run g (m + 1) s wh tf lg).lg)]) →
    whileLoop (fun L σ K => (inN (g09 n scr) 98).ts lawSc (whT (st 15)) L σ K) (stmtsI ((inN (g09 n scr) 98).ex lawSc) (whBo (st 15))) kk [("script", .given), ("total", .int t), ("numbers", .loc 4), ("first", .int u), ("places", .loc 5), ("left", .int ((m + 1 : Nat) : Int)), ("head", .int h), ("tape", .loc 6), ("memory", .loc 8), ("sign", .int v1), ("code", D), ("plain", .loc 9), ("mpu", .loc 10), ("where", .int wh), ("state", .int s), ("log", .loc 11), ("write", .int v2), ("step", .int v3), ("follow", .int v4)] [.tab lp09, .nums n1 g1, .nums n2 g2, .nums n3 g3, .nums N g, .nums 5 pl, .idict none es, .nums n7 g7, .nums 65536 f, .nums 65536 fr, .inst R, .nums lg.length (getI lg)] Q := by
  intro m
  induction m with
  | zero =>
    intro kk s wh tf lg es v2 v3 v4 s0 s1 wb he ht hr hb hk hQ
    obtain ⟨k1, rfl, hk1⟩ := k_pred hk
    obtain ⟨o1, o2, o3⟩ := wb.out
    rw [turn_while, lt15b]
    by_cases h4 : s = 4
    · subst h4
      rw [run_4] at hQ
      exact hQ es v2 v3 v4 hr hb (fun _ h => h) o1 o2 o3
    · rw [run_1 h4] at hQ
      refine cond_t (decide_eq_true (lt4 s1 h4)) ?_
      generalize hbo : whBo (st 15) = bo
      have e := lh15
      rw [hbo] at e
      rw [e, ← hbo, stmtsI_app, lb15b]
      exact cond_t (by decide) (hQ es v2 v3 v4 hr hb (fun _ h => h) o1 o2 o3)
  | succ m ih =>
    intro kk s wh tf lg es v2 v3 v4 s0 s1 wb he ht hr hb hk hQ
    obtain ⟨k1, rfl, hk1⟩ := k_pred hk
    obtain ⟨o1, o2, o3⟩ := wb.out
    rw [turn_while, lt15b]
    by_cases h4 : s = 4
    · subst h4
      rw [run_4] at hQ
      exact hQ es v2 v3 v4 hr hb (fun _ h => h) o1 o2 o3
    · rw [run_s h4] at hQ
      refine cond_t (decide_eq_true (lt4 s1 h4)) ?_
      have fb := rF_b g s (tf wh)
      have db := rD_b g s (tf wh)
      have pl := put_len wh (.int (rW g s (tf wh))) es
      refine it_b (x := tf wh) (hN := hN) (s0 := s0) (s1 := lt4 s1 h4) (hv := ne0 m) (hk := Nat.le_trans o1 (by decide)) (he := le1000 he) (hx := hr wh) (x0 := (ht wh).1) (x1 := (ht wh).2) (hQ := ?_) ..
      rw [loopK_next, getI_push, cast_pred m]
      have hlen : lg.length + 1 = (lg ++ [s]).length := by rw [List.length_append]; rfl
      rw [hlen]
      refine ih k1 _ _ _ _ _ _ _ _ fb.1 (Int.le_of_lt_add_one fb.2) (by rw [← hlen]; exact wb.next db) (put_next pl he) (setT_b ht g s wh _) (fun j => ?_) (fun j hj => ?_) hk1 (fun es' v2 v3 v4 a1 a2 a3 a4 a5 a6 => hQ es' v2 v3 v4 a1 a2 (fun j hj => a3 j (put_sub _ _ _ _ hj)) a4 a5 a6)
      · rw [look_put]
        unfold setT
        by_cases hj : j = wh
        · rw [if_pos hj, if_pos hj]; rfl
        · rw [if_neg hj, if_neg hj]; exact hr j
      · rcases put_keys _ _ _ _ hj with e | e
        · subst e; exact ⟨o2, o3⟩
        · exact hb j e
theorem keys_run (v w s v2 v3 v4 : Int) (k0 M : Nat) (lg : Nat → Int) (tf : Int → Int) (es : List (Int × AV)) (h0 : 4000 ≤ h) (h1 : h < 16000) (hr : ∀ j, (lookK j es).getD (.int 0) = .int (tf j)) (hb : ∀ j ∈ es.map (·.1), -17 < j ∧ j < 17) :
    ∀ (m i : Nat) (fr : Nat → Int), i + m = es.length → Q .next [("script", .given), ("total", .int t), ("numbers", .loc 4), ("first", .int u), ("places", .loc 5), ("left", .int v), ("head", .int h), ("tape", .loc 6), ("memory", .loc 8), ("sign", .int v1), ("code", D), ("plain", .loc 9), ("mpu", .loc 10), ("where", .int w), ("state", .int s), ("log", .loc 11), ("write", .int v2), ("step", .int v3), ("follow", .int v4)] [.tab lp09, .nums n1 g1, .nums n2 g2, .nums n3 g3, .nums N g, .nums 5 pl, .idict (some k0) es, .nums n7 g7, .nums 65536 f, .nums 65536 (pset h tf ((es.map (·.1)).drop i) fr), .inst R, .nums M lg] →
      genLoop (keySrc 6 k0 es.length) (bodyD (nmOf (forTg (st 16))) (stmtsI ((inN (g09 n scr) 98).ex lawSc) (forBo (st 16)))) (asgI (inN (g09 n scr) 98) lawSc (forTg (st 16))) m i [("script", .given), ("total", .int t), ("numbers", .loc 4), ("first", .int u), ("places", .loc 5), ("left", .int v), ("head", .int h), ("tape", .loc 6), ("memory", .loc 8), ("sign", .int v1), ("code", D), ("plain", .loc 9), ("mpu", .loc 10), ("where", .int w), ("state", .int s), ("log", .loc 11), ("write", .int v2), ("step", .int v3), ("follow", .int v4)] [.tab lp09, .nums n1 g1, .nums n2 g2, .nums n3 g3, .nums N g, .nums 5 pl, .idict (some k0) es, .nums n7 g7, .nums 65536 f, .nums 65536 fr, .inst R, .nums M lg] Q := by
  intro m
  have src : ∀ (i : Nat) (fr : Nat → Int), keySrc 6 k0 es.length [.tab lp09, .nums n1 g1, .nums n2 g2, .nums n3 g3, .nums N g, .nums 5 pl, .idict (some k0) es, .nums n7 g7, .nums 65536 f, .nums 65536 fr, .inst R, .nums M lg] i = some ((nth es i).map fun x => .int x.1) := fun i fr => by
    show cond (Nat.beq k0 k0 && Nat.beq es.length es.length) (some ((nth es i).map fun x => AV.int x.1)) none = _
    rw [show Nat.beq k0 k0 = true from Nat.beq_refl _, show Nat.beq es.length es.length = true from Nat.beq_refl _]; rfl
  induction m with
  | zero =>
    intro i fr hi hQ
    have hn : nth es i = none := by rw [nth_eq]; exact List.getElem?_eq_none (Nat.le_of_eq hi.symm)
    rw [end_src (by rw [src, hn]; rfl)]
    rw [show (es.map (·.1)).drop i = [] from List.drop_eq_nil_of_le (by rw [List.length_map]; exact Nat.le_of_eq hi.symm)] at hQ
    exact hQ
  | succ m ih =>
    intro i fr hi hQ
    have hlt : i < es.length := Nat.lt_of_lt_of_eq (Nat.lt_add_of_pos_right (Nat.succ_pos m)) hi
    have hn : nth es i = some es[i] := by rw [nth_eq]; exact List.getElem?_eq_getElem hlt
    have hk : es[i].1 ∈ es.map (·.1) := List.mem_map_of_mem (List.getElem_mem hlt)
    obtain ⟨b0, b1⟩ := hb _ hk
    have hd : (es.map (·.1)).drop i = es[i].1 :: (es.map (·.1)).drop (i + 1) := by
      rw [List.drop_eq_getElem_cons (by rw [List.length_map]; exact hlt), List.getElem_map]
    rw [hd] at hQ
    rw [turn_src (v := .int es[i].1) (by rw [src, hn]; rfl)]
    generalize es[i].1 = key at *
    rw [la16, bodyD_eq, lb16]
    obtain ⟨V, hV⟩ := look_mem key hk
    have hv := hr key
    rw [hV] at hv
    have hv : V = .int (tf key) := hv
    subst hv
    rw [hV]
    show setItemI (.loc 9) (.int (h + key)) (.int (tf key)) _ _
    rw [li16]
    have kb := key_b h0 h1 b0 b1
    refine gd_i kb.1 kb.2 ?_
    rw [loopK_next, lx16]
    exact ih (i + 1) _ ((Nat.add_right_comm i 1 m).trans hi) hQ
end
end Mine
end
section
set_option Elab.async false
set_option maxRecDepth 100000
set_option linter.unusedVariables false
open PySem PySem.W PyProof.Rows PySem.Claim2Try PySem.Pin
namespace Mine
open PySem.Challenge
theorem eqTo_i {f g : Nat → Int} : ∀ N, (∀ i, i < N → f i = g i) → eqTo f g N = true
  | 0, _ => rfl
  | N + 1, h => by show cond (decide (f N = g N)) (eqTo f g N) false = true; rw [decide_eq_true (h N (Nat.lt_succ_self N))]; exact eqTo_i N fun i hi => h i (Nat.lt_succ_of_lt hi)
theorem gc_end {K : KV} {b : Bool} {q : Pos} {x : AObj} {r : Hp} : gcK 1 K (.bool b) (.tab q :: x :: r) = K (.bool b) [.tab q] := rfl
theorem mm_init {F : Nat → Int} {h q : Int} {tf : Int → Int} (e0 : F 16 = q) (e1 : F 17 = 0) (e2 : F 18 = hl8 h 0) (e3 : F 19 = hh8 h 0) (hw : ∀ i : Nat, h - 32 ≤ (i : Int) → (i : Int) < h + 32 → F i = tf ((i : Int) - h)) (h0 : 4000 ≤ h) : F = mm F h q ((([] : List Int).length : Nat) : Int) (hl8 h 0) (hh8 h 0) tf [] := by
  funext i
  by_cases a : i = 16
  · subst a; exact e0
  by_cases b : i = 17
  · subst b; exact e1
  by_cases c : i = 18
  · subst c; exact e2
  by_cases d : i = 19
  · subst d; exact e3
  unfold mm
  rw [beq_ne a, beq_ne b, beq_ne c, beq_ne d]
  show F i = if 640 ≤ i ∧ i < 640 + ([] : List Int).length then getI [] (i - 640) else if h - 32 ≤ (i : Int) ∧ (i : Int) < h + 32 then tf ((i : Int) - h) else F i
  rw [if_neg (show ¬ (640 ≤ i ∧ i < 640 + ([] : List Int).length) by show ¬ (640 ≤ i ∧ i < 640 + 0); omega)]
  by_cases hh : h - 32 ≤ (i : Int) ∧ (i : Int) < h + 32
  · rw [if_pos hh]; exact hw i hh.1 hh.2
  · rw [if_neg hh]
theorem nn {h k : Int} (h0 : 4000 ≤ h) (b : -17 < k) : 0 ≤ h + k := by omega
theorem bk {h : Int} {i : Nat} : (h + ((i : Int) - h)).toNat = i := by rw [Int.add_comm, Int.sub_add_cancel]; rfl
theorem rg {h : Int} {i : Nat} (a : h - 32 ≤ (i : Int) ∧ (i : Int) < h + 32) : -32 ≤ (i : Int) - h ∧ (i : Int) - h < 32 := by omega
theorem eqk {h k : Int} {i : Nat} (h0 : 4000 ≤ h) (b : -17 < k) (e : (h + k).toNat = i) : (i : Int) - h = k := by
  subst e
  rw [Int.toNat_of_nonneg (nn h0 b), Int.add_comm, Int.add_sub_cancel]
theorem inw {h k : Int} {i : Nat} (b : -17 < k ∧ k < 17) (e : (i : Int) - h = k) : h - 32 ≤ (i : Int) ∧ (i : Int) < h + 32 := by omega
theorem ne_lg {i n : Nat} (h : i < 640) : ¬ (640 ≤ i ∧ i < 640 + n) := fun q => absurd q.1 (Nat.not_le_of_lt h)
theorem fin_eq {F : Nat → Int} {h q w : Int} {tf : Int → Int} {lg : List Int} {ks : List Int} (h0 : 4000 ≤ h) (hb : ∀ k ∈ ks, -17 < k ∧ k < 17) (hn : ∀ j, j ∉ ks → tf j = 0) (hs : ∀ j, -8 ≤ j → j < 8 → j ∈ ks) (hz : ∀ j, -32 ≤ j → j < 32 → ¬ (-8 ≤ j ∧ j < 8) → F (h + j).toNat = 0) (i : Nat) :
    mm F h q lg.length (hl8 h w) (hh8 h w) tf lg i = putF 640 lg.length (getI lg) (setF (setF (setF (setF (pset h tf ks (cutF 0 F)) 16 q) 17 (lg.length : Int)) 18 ((h + w).fmod 256)) 19 ((h + w).fdiv 256)) i := by
  rw [show (h + w).fmod 256 = _ from fmod_lit _ 256, show (h + w).fdiv 256 = _ from fdiv_lit _ 256]
  unfold putF
  by_cases a : i = 16
  · subst a; rw [if_neg (ne_lg (by decide))]; rfl
  by_cases b : i = 17
  · subst b; rw [if_neg (ne_lg (by decide))]; rfl
  by_cases c : i = 18
  · subst c; rw [if_neg (ne_lg (by decide))]; rfl
  by_cases d : i = 19
  · subst d; rw [if_neg (ne_lg (by decide))]; rfl
  have hs4 : ∀ f : Nat → Int, setF (setF (setF (setF f 16 q) 17 (lg.length : Int)) 18 ((h + w) % ((256 : Nat) : Int))) 19 ((h + w) / ((256 : Nat) : Int)) i = f i := fun f => by
    unfold setF
    rw [beq_ne a, beq_ne b, beq_ne c, beq_ne d]; rfl
  rw [hs4]
  unfold mm
  rw [beq_ne a, beq_ne b, beq_ne c, beq_ne d]
  clear hs4 a b c d
  show (if 640 ≤ i ∧ i < 640 + lg.length then getI lg (i - 640) else if h - 32 ≤ (i : Int) ∧ (i : Int) < h + 32 then tf ((i : Int) - h) else F i) = _
  by_cases hr : 640 ≤ i ∧ i < 640 + lg.length
  · rw [if_pos hr, if_pos hr]
  · rw [if_neg hr, if_neg hr]
    clear hr
    have ec : cutF 0 F i = F i := congrArg F (Nat.zero_add i)
    by_cases hw : h - 32 ≤ (i : Int) ∧ (i : Int) < h + 32
    · rw [if_pos hw]
      by_cases hk : ((i : Int) - h) ∈ ks
      · exact (pset_in h tf i ks _ (fun k hk => nn h0 (hb k hk).1) _ hk bk).symm
      · rcases pset_at h tf i ks (cutF 0 F) with e | ⟨k, h2, h3, _⟩
        · rw [e, ec, hn _ hk]
          have := hz ((i : Int) - h) (rg hw).1 (rg hw).2 (fun q => hk (hs _ q.1 q.2))
          rw [bk] at this
          exact this.symm
        · exact (hk (eqk h0 (hb k h2).1 h3 ▸ h2)).elim
    · rw [if_neg hw]
      rcases pset_at h tf i ks (cutF 0 F) with e | ⟨k, h2, h3, _⟩
      · rw [e, ec]
      · exact (hw (inw (hb k h2) (eqk h0 (hb k h2).1 h3))).elim
section
variable (n : Nat) (scr : Nat → Int) (N : Nat) (g pl f fr : Nat → Int) (t h u v1 : Int) (Q : KF) (D : AV) (R : List (Str × AV)) (es : List (Int × AV))
variable (n1 : Nat) (g1 : Nat → Int) (n2 : Nat) (g2 : Nat → Int) (n3 : Nat) (g3 : Nat → Int) (n7 : Nat) (g7 : Nat → Int)
noncomputable def Rr (v : Int) : Rt := fun k f a x y sp p pc => ∀ i cyc exc ac, i + k = 400 → genLoop (rangeSrc 400 0) (bodyD (nmOf (forTg (st 13))) (stmtsI ((inN (g09 n scr) 98).ex lawSc) (forBo (st 13)))) (asgI (inN (g09 n scr) 98) lawSc (forTg (st 13))) k i [("script", .given), ("total", .int t), ("numbers", .loc 4), ("first", .int u), ("places", .loc 5), ("left", .int v), ("head", .int h), ("tape", .loc 6), ("memory", .loc 8), ("sign", .int v1), ("code", D), ("plain", .loc 9), ("mpu", .loc 10)] (hp (oo (.nums n1 g1) (.nums n2 g2) (.nums n3 g3) (.nums N g) (.nums 5 pl) (.idict none es) (.nums n7 g7) (.nums 65536 fr)) 65536 f (regs 8 u a x y sp p pc cyc exc ac)) Q
theorem steps_r (v : Int) : Steps n scr (oo (.nums n1 g1) (.nums n2 g2) (.nums n3 g3) (.nums N g) (.nums 5 pl) (.idict none es) (.nums n7 g7) (.nums 65536 fr)) u (Rr n scr N g pl fr t h u v1 Q D es n1 g1 n2 g2 n3 g3 n7 g7 v) := by
  intro k f a x y sp p pc hne hne2 H i cyc exc ac hi
  rw [turn_range (by omega), la13, bodyD_eq, lb13]
  refine cond_f (decide_eq_false hne) (cond_f (decide_eq_false hne2) ?_)
  rw [fetch09]
  refine H cyc exc ac _ fun f a x y sp p pc cyc exc ac hR => ?_
  show loopK _ Q .next (delS (nmOf (forTg (st 13))) _) _
  rw [loopK_next, lx13]
  exact hR (i + 1) cyc exc ac (by omega)
theorem r_end (v : Int) {k : Nat} {f : Nat → Int} {a x y sp p pc : Int} (hpc : pc = 600 ∨ pc = 604) (hQ : ∀ cyc exc ac, Q .next [("script", .given), ("total", .int t), ("numbers", .loc 4), ("first", .int u), ("places", .loc 5), ("left", .int v), ("head", .int h), ("tape", .loc 6), ("memory", .loc 8), ("sign", .int v1), ("code", D), ("plain", .loc 9), ("mpu", .loc 10)] (hp (oo (.nums n1 g1) (.nums n2 g2) (.nums n3 g3) (.nums N g) (.nums 5 pl) (.idict none es) (.nums n7 g7) (.nums 65536 fr)) 65536 f (regs 8 u a x y sp p pc cyc exc ac))) : Rr n scr N g pl fr t h u v1 Q D es n1 g1 n2 g2 n3 g3 n7 g7 v k f a x y sp p pc := by
  intro i cyc exc ac hi
  cases k with
  | zero => rw [end_range (by omega)]; exact hQ _ _ _
  | succ k =>
    rw [turn_range (by omega), la13, bodyD_eq, lb13]
    have fin : loopK (fun L2 σ2 => genLoop (rangeSrc 400 0) (bodyD (nmOf (forTg (st 13))) (stmtsI ((inN (g09 n scr) 98).ex lawSc) (forBo (st 13)))) (asgI (inN (g09 n scr) 98) lawSc (forTg (st 13))) k (i + 1) L2 σ2 Q) Q .brk (delS (nmOf (forTg (st 13))) [("script", .given), ("total", .int t), ("numbers", .loc 4), ("first", .int u), ("places", .loc 5), ("left", .int v), ("head", .int h), ("tape", .loc 6), ("memory", .loc 8), ("sign", .int v1), ("code", D), ("plain", .loc 9), ("mpu", .loc 10), ("turn", .int (0 + (i : Int)))]) (hp (oo (.nums n1 g1) (.nums n2 g2) (.nums n3 g3) (.nums N g) (.nums 5 pl) (.idict none es) (.nums n7 g7) (.nums 65536 fr)) 65536 f (regs 8 u a x y sp p pc cyc exc ac)) := by
      rw [loopK_brk, lx13]; exact hQ _ _ _
    rcases hpc with e | e
    · exact cond_t (decide_eq_true e) fin
    · exact cond_f (decide_eq_false (by omega)) (cond_t (decide_eq_true e) fin)
theorem end_ok (v w s v2 v3 v4 : Int) (j6 : AObj) (M : Nat) (lg : Nat → Int) (a x y p pc cyc exc : Int) (ac : AV) (b1 : List Stmt) (hb1 : sg 17 18 ++ (sg 18 19 ++ sg 19 20) = b1) (hM : M ≤ 100) (hpc : pc = if s = 4 then 604 else 600) (he : ∀ i, i < 65536 → f i = putF (640 : Int).toNat M lg (setF (setF (setF (setF fr 16 v) 17 (M : Int)) 18 ((h + w).fmod 256)) 19 ((h + w).fdiv 256)) i) :
    stmtsI ((inN (g09 n scr) 99).ex lawSc) b1 [("script", .given), ("total", .int t), ("numbers", .loc 4), ("first", .int u), ("places", .loc 5), ("left", .int v), ("head", .int h), ("tape", .loc 6), ("memory", .loc 8), ("sign", .int v1), ("code", D), ("plain", .loc 9), ("mpu", .loc 10), ("where", .int w), ("state", .int s), ("log", .loc 11), ("write", .int v2), ("step", .int v3), ("follow", .int v4)] [.tab lp09, .nums n1 g1, .nums n2 g2, .nums n3 g3, .nums N g, .nums 5 pl, j6, .nums n7 g7, .nums 65536 f, .nums 65536 fr, .inst (regs 8 u a x y 255 p pc cyc exc ac), .nums M lg] (retK (gcK 1 fun v σ => v = .bool true ∧ ∃ q, nth σ 0 = some (.tab q))) := by
  subst hb1
  rw [stmtsI_app, s17, nextK_next, stmtsI_app, s18]
  refine setSlice_i (m := 9) (M := M) (p := 640) (f := (setF (setF (setF (setF fr 16 v) 17 (M : Int)) 18 ((h + w).fmod 256)) 19 ((h + w).fdiv 256))) (g := lg) rfl (fun K => rfl) rfl (by decide) (by omega) ?_
  show nextK _ _ .next _ [.tab lp09, .nums n1 g1, .nums n2 g2, .nums n3 g3, .nums N g, .nums 5 pl, j6, .nums n7 g7, .nums 65536 f, .nums 65536 (putF (640 : Int).toNat M lg (setF (setF (setF (setF fr 16 v) 17 (M : Int)) 18 ((h + w).fmod 256)) 19 ((h + w).fdiv 256))), .inst (regs 8 u a x y 255 p pc cyc exc ac), .nums M lg]
  rw [nextK_next, s19]
  have fin : retK (gcK 1 fun v σ => v = AV.bool true ∧ ∃ q, nth σ 0 = some (.tab q)) (.ret (.bool (cond (Nat.beq 65536 65536) (eqTo f (putF (640 : Int).toNat M lg (setF (setF (setF (setF fr 16 v) 17 (M : Int)) 18 ((h + w).fmod 256)) 19 ((h + w).fdiv 256))) 65536) false))) [("script", .given), ("total", .int t), ("numbers", .loc 4), ("first", .int u), ("places", .loc 5), ("left", .int v), ("head", .int h), ("tape", .loc 6), ("memory", .loc 8), ("sign", .int v1), ("code", D), ("plain", .loc 9), ("mpu", .loc 10), ("where", .int w), ("state", .int s), ("log", .loc 11), ("write", .int v2), ("step", .int v3), ("follow", .int v4)] [.tab lp09, .nums n1 g1, .nums n2 g2, .nums n3 g3, .nums N g, .nums 5 pl, j6, .nums n7 g7, .nums 65536 f, .nums 65536 (putF (640 : Int).toNat M lg (setF (setF (setF (setF fr 16 v) 17 (M : Int)) 18 ((h + w).fmod 256)) 19 ((h + w).fdiv 256))), .inst (regs 8 u a x y 255 p pc cyc exc ac), .nums M lg] := by
    rw [retK_ret, gc_end, eqTo_i 65536 he]
    exact ⟨rfl, _, rfl⟩
  by_cases h4 : s = 4
  · rw [if_pos h4] at hpc
    exact cond_t (decide_eq_true h4) (cond_t (decide_eq_true hpc) (cond_t rfl fin))
  · rw [if_neg h4] at hpc
    exact cond_f (decide_eq_false h4) (cond_t (decide_eq_true hpc) (cond_t rfl fin))
end
end Mine
end
section
set_option Elab.async false
set_option maxRecDepth 100000
set_option linter.unusedVariables false
open PySem PySem.W PyProof.Rows PySem.Claim2Try PySem.Pin
namespace Mine
open PySem.Challenge
section
variable (n : Nat) (scr : Nat → Int) (N : Nat) (g pl F : Nat → Int) (t h u v1 : Int) (Q : KF) (D : AV) (σ : Hp)
variable (n1 : Nat) (g1 : Nat → Int) (n2 : Nat) (g2 : Nat → Int) (n3 : Nat) (g3 : Nat → Int) (n7 : Nat) (g7 : Nat → Int)
theorem wb0' {m : Nat} {d : Int} (hm : m + 1 + 1 ≤ 13) (hd : d = 1 ∨ d = -1) : Wb m (0 + d) (([] ++ [0] : List Int).length) := ⟨by omega, by omega, by show 1 + m ≤ 16; omega⟩
theorem l20 {a m : Nat} (h : a ≤ 20) (hm : m + 1 + 1 ≤ 13) : a + (m + 1) ≤ 100 := by omega
theorem m999 {m : Nat} (hm : m + 1 + 1 ≤ 13) : m + 2 ≤ 999 := by omega
theorem l13 (v : Int) : stmtsI ((inN (g09 n scr) 99).ex lawSc) [forSt (st 13)] [("script", .given), ("total", .int t), ("numbers", .loc 4), ("first", .int u), ("places", .loc 5), ("left", .int v), ("head", .int h), ("tape", .loc 6), ("memory", .loc 8), ("sign", .int v1), ("code", D), ("plain", .loc 9), ("mpu", .loc 10)] σ Q = genLoop (rangeSrc 400 0) (bodyD (nmOf (forTg (st 13))) (stmtsI ((inN (g09 n scr) 98).ex lawSc) (forBo (st 13)))) (asgI (inN (g09 n scr) 98) lawSc (forTg (st 13))) 400 0 [("script", .given), ("total", .int t), ("numbers", .loc 4), ("first", .int u), ("places", .loc 5), ("left", .int v), ("head", .int h), ("tape", .loc 6), ("memory", .loc 8), ("sign", .int v1), ("code", D), ("plain", .loc 9), ("mpu", .loc 10)] σ Q :=
  for_range (by kernel_rfl) (fun K => le13 (K := K) ..) (by decide)
theorem l15 (L : Loc) : stmtsI ((inN (g09 n scr) 99).ex lawSc) [whSt (st 15)] L σ Q = whileLoop (fun L σ K => (inN (g09 n scr) 98).ts lawSc (whT (st 15)) L σ K) (stmtsI ((inN (g09 n scr) 98).ex lawSc) (whBo (st 15))) 1000 L σ Q := while_i
theorem l16 (v w s v2 v3 v4 : Int) (f fr lg : Nat → Int) (R : List (Str × AV)) (M : Nat) (es : List (Int × AV)) : stmtsI ((inN (g09 n scr) 99).ex lawSc) [forSt (st 16)] [("script", .given), ("total", .int t), ("numbers", .loc 4), ("first", .int u), ("places", .loc 5), ("left", .int v), ("head", .int h), ("tape", .loc 6), ("memory", .loc 8), ("sign", .int v1), ("code", D), ("plain", .loc 9), ("mpu", .loc 10), ("where", .int w), ("state", .int s), ("log", .loc 11), ("write", .int v2), ("step", .int v3), ("follow", .int v4)] [.tab lp09, .nums n1 g1, .nums n2 g2, .nums n3 g3, .nums N g, .nums 5 pl, .idict none es, .nums n7 g7, .nums 65536 f, .nums 65536 fr, .inst R, .nums M lg] Q = ∀ ep, genLoop (keySrc 6 ep es.length) (bodyD (nmOf (forTg (st 16))) (stmtsI ((inN (g09 n scr) 98).ex lawSc) (forBo (st 16)))) (asgI (inN (g09 n scr) 98) lawSc (forTg (st 16))) es.length 0 [("script", .given), ("total", .int t), ("numbers", .loc 4), ("first", .int u), ("places", .loc 5), ("left", .int v), ("head", .int h), ("tape", .loc 6), ("memory", .loc 8), ("sign", .int v1), ("code", D), ("plain", .loc 9), ("mpu", .loc 10), ("where", .int w), ("state", .int s), ("log", .loc 11), ("write", .int v2), ("step", .int v3), ("follow", .int v4)] [.tab lp09, .nums n1 g1, .nums n2 g2, .nums n3 g3, .nums N g, .nums 5 pl, .idict (some ep) es, .nums n7 g7, .nums 65536 f, .nums 65536 fr, .inst R, .nums M lg] Q :=
  for_dict (by kernel_rfl) (fun K => le16 (K := K) ..) rfl
theorem tail_ok (m : Nat) (tf : Int → Int) (es : List (Int × AV)) (Wf : Int → Int) (b0 : List Stmt) (hb0 : sg 11 12 ++ (sg 12 13 ++ ([forSt (st 13)] ++ (sg 14 15 ++ ([whSt (st 15)] ++ ([forSt (st 16)] ++ (sg 17 18 ++ (sg 18 19 ++ sg 19 20))))))) = b0) (hN : 12 ≤ N) (hm : m + 1 + 1 ≤ 13) (h0 : 4000 ≤ h) (h1 : h < 16000) (hW : ∀ s, 0 ≤ Wf s ∧ Wf s < 256) (hC : ∀ s, 0 ≤ s → s < 4 → CodeAt F (pl s.toNat) (blockL g pl s (Wf s))) (hp : ∀ i, i < 5 → 0 ≤ pl i ∧ pl i < 65536) (h4 : pl 4 = 604) (hu : pl 0 = u)
    (e0 : F 16 = ((m + 1 + 1 : Nat) : Int)) (e1 : F 17 = 0) (e2 : F 18 = hl8 h 0) (e3 : F 19 = hh8 h 0) (hw : ∀ i : Nat, h - 32 ≤ (i : Int) → (i : Int) < h + 32 → F i = tf ((i : Int) - h))
    (ht : ∀ j, 0 ≤ tf j ∧ tf j < 3) (hr : ∀ j, (lookK j es).getD (.int 0) = .int (tf j)) (hb : ∀ j ∈ es.map (·.1), -17 < j ∧ j < 17) (hs : ∀ j, -8 ≤ j → j < 8 → j ∈ es.map (·.1)) (hl : es.length ≤ 20) (hz : ∀ j, -32 ≤ j → j < 32 → ¬ (-8 ≤ j ∧ j < 8) → F (h + j).toNat = 0) :
    stmtsI ((inN (g09 n scr) 99).ex lawSc) b0 [("script", .given), ("total", .int t), ("numbers", .loc 4), ("first", .int u), ("places", .loc 5), ("left", .int ((m + 1 + 1 : Nat) : Int)), ("head", .int h), ("tape", .loc 6), ("memory", .loc 8), ("sign", .int v1), ("code", D)] [.tab lp09, .nums n1 g1, .nums n2 g2, .nums n3 g3, .nums N g, .nums 5 pl, .idict none es, .nums n7 g7, .nums 65536 F] (retK (gcK 1 fun v σ => v = .bool true ∧ ∃ q, nth σ 0 = some (.tab q))) := by
  subst hb0
  generalize hb1 : sg 17 18 ++ (sg 18 19 ++ sg 19 20) = b1
  rw [stmtsI_app, s11, nextK_next, stmtsI_app, s12, nextK_next, stmtsI_app, l13]
  generalize hQ : nextK (stmtsI ((inN (g09 n scr) 99).ex lawSc) (sg 14 15 ++ ([whSt (st 15)] ++ ([forSt (st 16)] ++ b1)))) (retK (gcK 1 fun v σ => v = .bool true ∧ ∃ q, nth σ 0 = some (.tab q))) = Q1
  have key : Rr n scr N g pl (cutF 0 F) t h u v1 Q1 D es n1 g1 n2 g2 n3 g3 n7 g7 ((m + 1 + 1 : Nat) : Int) 400 (mm F h ((m + 1 + 1 : Nat) : Int) ((([] : List Int).length : Nat) : Int) (hl8 h 0) (hh8 h 0) tf []) 0 0 0 255 (P false false false) (pl (0 : Int).toNat) := by
    refine mach_run (steps_r n scr N g pl (cutF 0 F) t h u v1 Q1 D es n1 g1 n2 g2 n3 g3 n7 g7 _) h0 h1 hW hC hp h4 (m + 1) 0 0 tf [] 400 0 0 0 false false false (by decide) (by decide) (wb0 hm) ht (f400 hm) fun k a x y c z b => ?_
    refine r_end n scr N g pl (cutF 0 F) t h u v1 Q1 D es n1 g1 n2 g2 n3 g3 n7 g7 _ (by by_cases q : (run g (m + 1 + 1) 0 0 tf []).s = 4; (rw [if_pos q]; exact .inr rfl); (rw [if_neg q]; exact .inl rfl)) fun cyc exc ac => ?_
    rw [← hQ, nextK_next, hp_oo, stmtsI_app, s14, nextK_next, stmtsI_app, l15]
    show whileLoop _ _ (999 + 1) _ _ _
    rw [turn_while, lt15a]
    refine cond_t rfl ?_
    have fb := rF_b g 0 (tf 0)
    have db := rD_b g 0 (tf 0)
    have pln := put_len 0 (.int (rW g 0 (tf 0))) es
    refine it_a (x := tf 0) (hN := hN) (s0 := by decide) (s1 := by decide) (hv := by omega) (hk := by decide) (he := by omega) (hx := hr 0) (x0 := (ht 0).1) (x1 := (ht 0).2) (hQ := ?_) ..
    rw [loopK_next, show setF (getI []) 0 0 = getI ([] ++ [0]) from getI_push [] 0, show (((m + 1 + 1 : Nat) : Int) - 1) = ((m + 1 : Nat) : Int) by omega]
    rw [show (0 + 1 : Nat) = (([] : List Int) ++ [0]).length from rfl]
    have er : run g (m + 1 + 1) 0 0 tf [] = run g (m + 1) (rF g 0 (tf 0)) (0 + rD g 0 (tf 0)) (setT tf 0 (rW g 0 (tf 0))) ([] ++ [0]) := run_s (by decide)
    refine plain_run n scr N g pl _ _ t h u v1 _ D _ n1 g1 n2 g2 n3 g3 n7 g7 hN m 999 (rF g 0 (tf 0)) (0 + rD g 0 (tf 0)) (setT tf 0 (rW g 0 (tf 0))) ([] ++ [0]) (putK 0 (.int (rW g 0 (tf 0))) es) _ _ _ fb.1 (Int.le_of_lt_add_one fb.2) (wb0' hm db) (put_next pln (l20 hl hm)) (setT_b ht g 0 0 _) (fun j => ?_) (fun j hj => ?_) (m999 hm) (fun es' v2 v3 v4 a1 a2 a3 a4 a5 a6 => ?_)
    · rw [look_put]
      unfold setT
      by_cases hj : j = 0
      · rw [if_pos hj, if_pos hj]; rfl
      · rw [if_neg hj, if_neg hj]; exact hr j
    · rcases put_keys _ _ _ _ hj with e | e
      · subst e; exact ⟨by decide, by decide⟩
      · exact hb j e
    rw [← er] at a1 a4 a5 a6 ⊢
    generalize hFS : run g (m + 1 + 1) 0 0 tf [] = FS at a1 a4 a5 a6 ⊢
    rw [nextK_next, stmtsI_app, l16]
    intro ep
    refine keys_run n scr N g pl _ t h u v1 _ D _ n1 g1 n2 g2 n3 g3 n7 g7 _ _ _ _ _ _ ep _ _ FS.tf es' h0 h1 a1 a2 es'.length 0 _ (by omega) ?_
    rw [List.drop_zero, nextK_next]
    refine end_ok n scr N g pl _ _ t h u v1 D n1 g1 n2 g2 n3 g3 n7 g7 _ _ _ _ _ _ _ _ _ _ _ _ _ _ _ _ _ b1 hb1 a4 rfl fun i hi => ?_
    refine fin_eq h0 a2 (fun j hj => ?_) (fun j j0 j1 => a3 j (put_sub _ _ _ _ (hs j j0 j1))) hz i
    have hq := a1 j
    cases hk : lookK j es' with
    | some v => exact absurd (look_some j hk) hj
    | none => rw [hk] at hq; exact (AV.int.inj hq).symm
  have hF := mm_init (tf := tf) e0 e1 e2 e3 hw h0
  have k2 : Rr n scr N g pl (cutF 0 F) t h u v1 Q1 D es n1 g1 n2 g2 n3 g3 n7 g7 ((m + 1 + 1 : Nat) : Int) 400 F 0 0 0 255 (P false false false) (pl (0 : Int).toNat) := Eq.mpr (congrArg (fun z => Rr n scr N g pl (cutF 0 F) t h u v1 Q1 D es n1 g1 n2 g2 n3 g3 n7 g7 ((m + 1 + 1 : Nat) : Int) 400 z 0 0 0 255 (P false false false) (pl (0 : Int).toNat)) hF) key
  have k3 := k2 0 0 0 (.bool false) rfl
  rw [hp_oo, show pl (0 : Int).toNat = u from hu] at k3
  exact k3
end
end Mine
end
section
set_option Elab.async false
set_option maxRecDepth 100000
set_option linter.unusedVariables false
open PySem PySem.W PyProof.Rows PySem.Claim2Try PySem.Pin
namespace Mine
open PySem.Challenge
noncomputable abbrev Wt (t s : Int) : Int := (31 * t + 97 * s).fmod 256
theorem blk_len (g pl : Nat → Int) (s w : Int) : (blockL g pl s w).length ≤ 71 := by
  have l0 := rul_len g pl s w 0
  have l1 := rul_len g pl s w 1
  have l2 := rul_len g pl s w 2
  unfold blockL
  rw [List.length_append, List.length_append, List.length_append, pre_len]
  omega
theorem tape_keys (v : Nat → Int) : (tape v).map (·.1) = [-8, -7, -6, -5, -4, -3, -2, -1, 0, 1, 2, 3, 4, 5, 6, 7] := rfl
theorem tape_in (v : Nat → Int) (j : Int) (h : j ∈ (tape v).map (·.1)) : -8 ≤ j ∧ j < 8 := by
  rw [tape_keys] at h
  have : ∀ j ∈ ([-8, -7, -6, -5, -4, -3, -2, -1, 0, 1, 2, 3, 4, 5, 6, 7] : List Int), -8 ≤ j ∧ j < 8 := by decide
  exact this j h
theorem k8 {j : Int} (h : -8 ≤ j ∧ j < 8) : ∃ k : Nat, k < 16 ∧ (k : Int) - 8 = j ∧ (j + 8).toNat = k := ⟨(j + 8).toNat, by omega, by omega, rfl⟩
theorem tape_has (v : Nat → Int) (j : Int) (h0 : -8 ≤ j) (h1 : j < 8) : j ∈ (tape v).map (·.1) := by
  rw [tape_keys]
  obtain ⟨k, hk, e, _⟩ := k8 ⟨h0, h1⟩
  have : ∀ k : Fin 16, ((k.val : Int) - 8) ∈ ([-8, -7, -6, -5, -4, -3, -2, -1, 0, 1, 2, 3, 4, 5, 6, 7] : List Int) := by decide
  exact e ▸ this ⟨k, hk⟩
theorem tape_at (v : Nat → Int) (k : Nat) (hk : k < 16) : lookK ((k : Int) - 8) (tape v) = some (.int (v k)) := by
  match k, hk with
  | 0, _ => rfl
  | 1, _ => rfl
  | 2, _ => rfl
  | 3, _ => rfl
  | 4, _ => rfl
  | 5, _ => rfl
  | 6, _ => rfl
  | 7, _ => rfl
  | 8, _ => rfl
  | 9, _ => rfl
  | 10, _ => rfl
  | 11, _ => rfl
  | 12, _ => rfl
  | 13, _ => rfl
  | 14, _ => rfl
  | 15, _ => rfl
  | k + 16, hk => exact absurd hk (by omega)
noncomputable def tf0 (v : Nat → Int) (j : Int) : Int := if -8 ≤ j ∧ j < 8 then v (j + 8).toNat else 0
theorem tape_look (v : Nat → Int) (j : Int) : (lookK j (tape v)).getD (.int 0) = .int (tf0 v j) := by
  unfold tf0
  by_cases h : -8 ≤ j ∧ j < 8
  · rw [if_pos h]
    obtain ⟨k, hk, e, e2⟩ := k8 h
    rw [← e, tape_at v k hk, e, e2]; rfl
  · rw [if_neg h]
    cases hl : lookK j (tape v) with
    | none => rfl
    | some x => exact absurd (tape_in v j (look_some j hl)) h
theorem wrs_out {v : Nat → Int} {h : Int} {f : Nat → Int} {i : Nat} : ∀ k : Nat, (∀ j : Nat, j < k → i ≠ (h + (j : Int) - 8).toNat) → wrs v h k f i = f i
  | 0, _ => rfl
  | k + 1, hk => by
    show setF (wrs v h k f) (h + (k : Int) - 8).toNat (v k) i = f i
    unfold setF
    rw [beq_ne (hk k (Nat.lt_succ_self k))]
    exact wrs_out k fun j hj => hk j (Nat.lt_succ_of_lt hj)
theorem ne_at {h : Int} {j k : Nat} (h0 : 100 ≤ h) (e : ¬ j = k) : (h + (j : Int) - 8).toNat ≠ (h + (k : Int) - 8).toNat := by omega
theorem wrs_in {v : Nat → Int} {h : Int} {f : Nat → Int} (h0 : 100 ≤ h) {j : Nat} : ∀ k : Nat, j < k → wrs v h k f (h + (j : Int) - 8).toNat = v j
  | 0, hj => absurd hj (Nat.not_lt_zero _)
  | k + 1, hj => by
    show setF (wrs v h k f) (h + (k : Int) - 8).toNat (v k) (h + (j : Int) - 8).toNat = v j
    unfold setF
    by_cases e : j = k
    · subst e
      rw [show Nat.beq (h + (j : Int) - 8).toNat (h + (j : Int) - 8).toNat = true from Nat.beq_refl _]; rfl
    · rw [beq_ne (ne_at h0 e)]
      exact wrs_in h0 k (Nat.lt_of_le_of_ne (Nat.le_of_lt_succ hj) e)
theorem sgv_b (t : Int) (i : Nat) : 0 ≤ sgv t i ∧ sgv t i < 3 := by
  unfold sgv; rw [show ∀ x : Int, x.fmod 3 = _ from fun x => fmod_lit x 3]; omega
theorem gd_b {h : Int} {i k : Nat} (h0 : 100 ≤ h) (h1 : h < 60000) (hk : i + (k + 1) ≤ 100) : 0 ≤ h + (i : Int) - 8 ∧ h + (i : Int) - 8 < 65536 := by omega
theorem gds_i {h : Int} {P : Prop} (h0 : 100 ≤ h) (h1 : h < 60000) (hP : P) : ∀ (k i : Nat), i + k ≤ 100 → gds h 65536 k i P
  | 0, _, _ => hP
  | k + 1, i, hk => gd_i (gd_b h0 h1 hk).1 (gd_b h0 h1 hk).2 (gds_i h0 h1 hP k (i + 1) (Nat.le_trans (Nat.le_of_eq (Nat.add_right_comm i 1 k)) hk))
theorem pl_fit {p : Int} {n : Nat} (h : p < 65000) (hn : n ≤ 71) : p + n ≤ 65536 := by omega
theorem put_lo {p M : Nat} {g f : Nat → Int} {i : Nat} (h : i < p) : putF p M g f i = f i := by unfold putF; rw [if_neg fun q => absurd q.1 (Nat.not_le_of_lt h)]
theorem put_hi {p M : Nat} {g f : Nat → Int} {i : Nat} (h : p + M ≤ i) : putF p M g f i = f i := by unfold putF; rw [if_neg fun q => absurd q.2 (Nat.not_lt_of_le h)]
theorem put_at {p M : Nat} {g f : Nat → Int} {i k : Nat} (hk : k < M) (hi : i = p + k) : putF p M g f i = g k := by subst hi; unfold putF; rw [if_pos ⟨Nat.le_add_right p k, Nat.add_lt_add_left hk p⟩]; exact congrArg g (Nat.add_sub_cancel_left p k)
theorem pq0 {u : Int} : plc u (Int.toNat 0) = u + 0 := (Int.add_zero u).symm
theorem pq1 {u : Int} : plc u (Int.toNat 1) = u + 249 := rfl
theorem pq2 {u : Int} : plc u (Int.toNat 2) = u + 90 := rfl
theorem pq3 {u : Int} : plc u (Int.toNat 3) = u + 171 := rfl
theorem eq_of {u a : Int} {i : Nat} (u0 : 20000 ≤ u) (a0 : 0 ≤ a) : (u + a + (i : Int)).toNat = (u + a).toNat + i := Int.toNat_add_nat (Int.add_nonneg (Int.le_trans (by decide) u0) a0) i
theorem lo_of {u a b : Int} {i n : Nat} (u0 : 20000 ≤ u) (a0 : 0 ≤ a) (hi : i < n) (hn : n ≤ 71) (h : a + 71 ≤ b) : (u + a + (i : Int)).toNat < (u + b).toNat := by
  rw [eq_of u0 a0, ← Int.ofNat_lt, Int.natCast_add, Int.toNat_of_nonneg (Int.add_nonneg (Int.le_trans (by decide) u0) a0), Int.toNat_of_nonneg (Int.add_nonneg (Int.le_trans (by decide) u0) (Int.le_trans a0 (Int.le_trans (Int.le_add_of_nonneg_right (by decide)) h)))]
  clear u0 a0
  omega
theorem hi_of {u a b : Int} {i n : Nat} (u0 : 20000 ≤ u) (b0 : 0 ≤ b) (hn : n ≤ 71) (h : b + 71 ≤ a) : (u + b).toNat + n ≤ (u + a + (i : Int)).toNat := by
  have a0 := Int.le_trans b0 (Int.le_trans (Int.le_add_of_nonneg_right (by decide)) h)
  rw [eq_of u0 a0, ← Int.ofNat_le, Int.natCast_add, Int.natCast_add, Int.toNat_of_nonneg (Int.add_nonneg (Int.le_trans (by decide) u0) a0), Int.toNat_of_nonneg (Int.add_nonneg (Int.le_trans (by decide) u0) b0)]
  clear u0 b0 a0
  omega
theorem lt_of {u b : Int} {i : Nat} (hi : i < 20000) (u0 : 20000 ≤ u) (b0 : 0 ≤ b) : i < (u + b).toNat := by omega
theorem code_in {F : Nat → Int} {u a : Int} {l : List Int} (u0 : 20000 ≤ u) (u1 : u < 60000) (a0 : 0 ≤ a) (a1 : a ≤ 249) (hl : l.length ≤ 71) (h : ∀ i : Nat, i < l.length → F (u + a + (i : Int)).toNat = getI l i) : CodeAt F (u + a) l := ⟨by clear h hl; omega, by clear h; omega, h⟩
theorem four {s : Int} (s0 : 0 ≤ s) (s1 : s < 4) : s = 0 ∨ s = 1 ∨ s = 2 ∨ s = 3 := by omega
/-- the four blocks laid into a memory -/
noncomputable def lay (g pl : Nat → Int) (t : Int) (s : Int) (f : Nat → Int) : Nat → Int := putF (pl s.toNat).toNat (blockL g pl s (Wt t s)).length (getI (blockL g pl s (Wt t s))) f
noncomputable def lay4 (g pl : Nat → Int) (t : Int) (f : Nat → Int) : Nat → Int := lay g pl t 3 (lay g pl t 2 (lay g pl t 1 (lay g pl t 0 f)))
section
variable (g : Nat → Int) (t u : Int) (f : Nat → Int) (u0 : 20000 ≤ u) (u1 : u < 60000)
include u0
theorem lay4_lo (i : Nat) (hi : i < 20000) : lay4 g (plc u) t f i = f i := by
  unfold lay4 lay
  rw [pq0, pq1, pq2, pq3, put_lo (lt_of hi u0 (by decide)), put_lo (lt_of hi u0 (by decide)), put_lo (lt_of hi u0 (by decide)), put_lo (lt_of hi u0 (by decide))]
include u1
theorem four_code {b0 b1 b2 b3 : List Int} (l0 : b0.length ≤ 71) (l1 : b1.length ≤ 71) (l2 : b2.length ≤ 71) (l3 : b3.length ≤ 71) (F : Nat → Int) (hF : F = putF (u + 171).toNat b3.length (getI b3) (putF (u + 90).toNat b2.length (getI b2) (putF (u + 249).toNat b1.length (getI b1) (putF (u + 0).toNat b0.length (getI b0) f)))) :
    CodeAt F (u + 0) b0 ∧ CodeAt F (u + 249) b1 ∧ CodeAt F (u + 90) b2 ∧ CodeAt F (u + 171) b3 := by
  subst hF
  refine ⟨code_in u0 u1 (by decide) (by decide) l0 fun i hi => ?_, code_in u0 u1 (by decide) (by decide) l1 fun i hi => ?_, code_in u0 u1 (by decide) (by decide) l2 fun i hi => ?_, code_in u0 u1 (by decide) (by decide) l3 fun i hi => ?_⟩
  · rw [put_lo (lo_of u0 (by decide) hi l0 (by decide)), put_lo (lo_of u0 (by decide) hi l0 (by decide)), put_lo (lo_of u0 (by decide) hi l0 (by decide))]
    exact put_at hi (eq_of u0 (by decide))
  · rw [put_hi (hi_of u0 (by decide) l3 (by decide)), put_hi (hi_of u0 (by decide) l2 (by decide))]
    exact put_at hi (eq_of u0 (by decide))
  · rw [put_lo (lo_of u0 (by decide) hi l2 (by decide))]
    exact put_at hi (eq_of u0 (by decide))
  · exact put_at hi (eq_of u0 (by decide))
theorem lay4_code (s : Int) (s0 : 0 ≤ s) (s1 : s < 4) : CodeAt (lay4 g (plc u) t f) (plc u s.toNat) (blockL g (plc u) s (Wt t s)) := by
  obtain ⟨c0, c1, c2, c3⟩ := four_code u f u0 u1 (blk_len g (plc u) 0 (Wt t 0)) (blk_len g (plc u) 1 (Wt t 1)) (blk_len g (plc u) 2 (Wt t 2)) (blk_len g (plc u) 3 (Wt t 3)) (lay4 g (plc u) t f) (by unfold lay4 lay; rw [pq0, pq1, pq2, pq3])
  rcases four s0 s1 with rfl | rfl | rfl | rfl
  · rw [pq0]; exact c0
  · rw [pq1]; exact c1
  · rw [pq2]; exact c2
  · rw [pq3]; exact c3
end
section
variable (n : Nat) (scr : Nat → Int) (N : Nat) (g pl f : Nat → Int) (t h u v v1 : Int) (Q : KF) (σ : Hp)
variable (n1 : Nat) (g1 : Nat → Int) (n2 : Nat) (g2 : Nat → Int) (n3 : Nat) (g3 : Nat → Int) (n7 : Nat) (g7 : Nat → Int)
theorem st_body_a (s : Int) (tp : Nat → Int) (hN : 12 ≤ N) (s0 : 0 ≤ s) (s1 : s < 4) (t0 : 0 ≤ t) (t1 : t < 1000003) (p0 : 0 ≤ pl s.toNat) (p1 : pl s.toNat < 65000)
    (hQ : Q .next [("script", .given), ("total", .int t), ("numbers", .loc 4), ("first", .int u), ("places", .loc 5), ("left", .int v), ("head", .int h), ("tape", .loc 6), ("memory", .loc 8), ("sign", .int v1), ("state", .int s), ("code", .fnum (blockL g pl s (Wt t s)).length (getI (blockL g pl s (Wt t s))))] [.tab lp09, .nums n1 g1, .nums n2 g2, .nums n3 g3, .nums N g, .nums 5 pl, .idict none (tape tp), .nums n7 g7, .nums 65536 (lay g pl t s f)]) : stmtsI ((inN (g09 n scr) 98).ex lawSc) (forBo (st 10)) [("script", .given), ("total", .int t), ("numbers", .loc 4), ("first", .int u), ("places", .loc 5), ("left", .int v), ("head", .int h), ("tape", .loc 6), ("memory", .loc 8), ("sign", .int v1), ("state", .int s)] [.tab lp09, .nums n1 g1, .nums n2 g2, .nums n3 g3, .nums N g, .nums 5 pl, .idict none (tape tp), .nums n7 g7, .nums 65536 f] Q := by
  generalize hbo : forBo (st 10) = bo
  have e := lb10a
  rw [hbo] at e
  rw [e, ← hbo, stmtsI_app]
  have hn : caNm (asEx (hdT (forBo (st 10)) 0)) = nBlock := by kernel_rfl
  have hh := assign_fn (G := g09 n scr) (n := 96) (sc := lawSc) (t := asTg (hdT (forBo (st 10)) 0)) (f := caNm (asEx (hdT (forBo (st 10)) 0))) (fp := caNp (asEx (hdT (forBo (st 10)) 0))) (pos := caPs (asEx (hdT (forBo (st 10)) 0))) (ps := asPs (hdT (forBo (st 10)) 0)) (args := caAr (asEx (hdT (forBo (st 10)) 0)))
    (L := [("script", .given), ("total", .int t), ("numbers", .loc 4), ("first", .int u), ("places", .loc 5), ("left", .int v), ("head", .int h), ("tape", .loc 6), ("memory", .loc 8), ("sign", .int v1), ("state", .int s)]) (σ := [.tab lp09, .nums n1 g1, .nums n2 g2, .nums n3 g3, .nums N g, .nums 5 pl, .idict none (tape tp), .nums n7 g7, .nums 65536 f]) (Q := nextK (stmtsI ((inN (g09 n scr) 98).ex lawSc) ((forBo (st 10)).drop 1)) Q) (vs := [.loc 4, .int s, .loc 5, .int (Wt t s)]) (gg := fun Z => cond (small 31 && small t) (cond (small 97 && small s) Z False) False)
    (by kernel_rfl) (by kernel_rfl) (by kernel_rfl) (by kernel_rfl) (by kernel_rfl) (fun K => by kernel_rfl)
    (fun K => lc10a (K2 := K) ..)
  refine Eq.mpr hh ?_
  rw [hn]
  refine cond_t (by rw [small_i t0 (Int.lt_trans t1 (by decide))]; rfl) (cond_t (by rw [small_i s0 (Int.lt_trans s1 (by decide))]; rfl) ?_)
  refine block (hN := hN) (s0 := s0) (s1 := s1) (h := ?_) ..
  rw [ld10a, nextK_next, lg10a]
  have bl := blk_len g pl s (Wt t s)
  refine gd_n s0 (Int.lt_trans s1 (by decide)) (gd_n s0 (Int.lt_trans s1 (by decide)) ?_)
  exact setSlice_i (m := 8) (M := (blockL g pl s (Wt t s)).length) (f := f) (g := getI (blockL g pl s (Wt t s))) rfl (fun K => rfl) rfl p0 (pl_fit p1 bl) hQ
theorem st_body_b (s : Int) (V : AV) (tp : Nat → Int) (hN : 12 ≤ N) (s0 : 0 ≤ s) (s1 : s < 4) (t0 : 0 ≤ t) (t1 : t < 1000003) (p0 : 0 ≤ pl s.toNat) (p1 : pl s.toNat < 65000)
    (hQ : Q .next [("script", .given), ("total", .int t), ("numbers", .loc 4), ("first", .int u), ("places", .loc 5), ("left", .int v), ("head", .int h), ("tape", .loc 6), ("memory", .loc 8), ("sign", .int v1), ("code", .fnum (blockL g pl s (Wt t s)).length (getI (blockL g pl s (Wt t s)))), ("state", .int s)] [.tab lp09, .nums n1 g1, .nums n2 g2, .nums n3 g3, .nums N g, .nums 5 pl, .idict none (tape tp), .nums n7 g7, .nums 65536 (lay g pl t s f)]) : stmtsI ((inN (g09 n scr) 98).ex lawSc) (forBo (st 10)) [("script", .given), ("total", .int t), ("numbers", .loc 4), ("first", .int u), ("places", .loc 5), ("left", .int v), ("head", .int h), ("tape", .loc 6), ("memory", .loc 8), ("sign", .int v1), ("code", V), ("state", .int s)] [.tab lp09, .nums n1 g1, .nums n2 g2, .nums n3 g3, .nums N g, .nums 5 pl, .idict none (tape tp), .nums n7 g7, .nums 65536 f] Q := by
  generalize hbo : forBo (st 10) = bo
  have e := lb10a
  rw [hbo] at e
  rw [e, ← hbo, stmtsI_app]
  have hn : caNm (asEx (hdT (forBo (st 10)) 0)) = nBlock := by kernel_rfl
  have hh := assign_fn (G := g09 n scr) (n := 96) (sc := lawSc) (t := asTg (hdT (forBo (st 10)) 0)) (f := caNm (asEx (hdT (forBo (st 10)) 0))) (fp := caNp (asEx (hdT (forBo (st 10)) 0))) (pos := caPs (asEx (hdT (forBo (st 10)) 0))) (ps := asPs (hdT (forBo (st 10)) 0)) (args := caAr (asEx (hdT (forBo (st 10)) 0)))
    (L := [("script", .given), ("total", .int t), ("numbers", .loc 4), ("first", .int u), ("places", .loc 5), ("left", .int v), ("head", .int h), ("tape", .loc 6), ("memory", .loc 8), ("sign", .int v1), ("code", V), ("state", .int s)]) (σ := [.tab lp09, .nums n1 g1, .nums n2 g2, .nums n3 g3, .nums N g, .nums 5 pl, .idict none (tape tp), .nums n7 g7, .nums 65536 f]) (Q := nextK (stmtsI ((inN (g09 n scr) 98).ex lawSc) ((forBo (st 10)).drop 1)) Q) (vs := [.loc 4, .int s, .loc 5, .int (Wt t s)]) (gg := fun Z => cond (small 31 && small t) (cond (small 97 && small s) Z False) False)
    (by kernel_rfl) (by kernel_rfl) (by kernel_rfl) (by kernel_rfl) (by kernel_rfl) (fun K => by kernel_rfl)
    (fun K => lc10b (K2 := K) ..)
  refine Eq.mpr hh ?_
  rw [hn]
  refine cond_t (by rw [small_i t0 (Int.lt_trans t1 (by decide))]; rfl) (cond_t (by rw [small_i s0 (Int.lt_trans s1 (by decide))]; rfl) ?_)
  refine block (hN := hN) (s0 := s0) (s1 := s1) (h := ?_) ..
  rw [ld10b, nextK_next, lg10b]
  have bl := blk_len g pl s (Wt t s)
  refine gd_n s0 (Int.lt_trans s1 (by decide)) (gd_n s0 (Int.lt_trans s1 (by decide)) ?_)
  exact setSlice_i (m := 8) (M := (blockL g pl s (Wt t s)).length) (f := f) (g := getI (blockL g pl s (Wt t s))) rfl (fun K => rfl) rfl p0 (pl_fit p1 bl) hQ
theorem st_loop (tp : Nat → Int) (hN : 12 ≤ N) (t0 : 0 ≤ t) (t1 : t < 1000003) (hp : ∀ i, i < 4 → 0 ≤ pl i ∧ pl i < 65000)
    (hQ : ∀ D, Q .next [("script", .given), ("total", .int t), ("numbers", .loc 4), ("first", .int u), ("places", .loc 5), ("left", .int v), ("head", .int h), ("tape", .loc 6), ("memory", .loc 8), ("sign", .int v1), ("code", D)] [.tab lp09, .nums n1 g1, .nums n2 g2, .nums n3 g3, .nums N g, .nums 5 pl, .idict none (tape tp), .nums n7 g7, .nums 65536 (lay4 g pl t f)]) : stmtsI ((inN (g09 n scr) 99).ex lawSc) [forSt (st 10)] [("script", .given), ("total", .int t), ("numbers", .loc 4), ("first", .int u), ("places", .loc 5), ("left", .int v), ("head", .int h), ("tape", .loc 6), ("memory", .loc 8), ("sign", .int v1)] [.tab lp09, .nums n1 g1, .nums n2 g2, .nums n3 g3, .nums N g, .nums 5 pl, .idict none (tape tp), .nums n7 g7, .nums 65536 f] Q := by
  have hl : stmtsI ((inN (g09 n scr) 99).ex lawSc) [forSt (st 10)] [("script", .given), ("total", .int t), ("numbers", .loc 4), ("first", .int u), ("places", .loc 5), ("left", .int v), ("head", .int h), ("tape", .loc 6), ("memory", .loc 8), ("sign", .int v1)] [.tab lp09, .nums n1 g1, .nums n2 g2, .nums n3 g3, .nums N g, .nums 5 pl, .idict none (tape tp), .nums n7 g7, .nums 65536 f] Q = genLoop (rangeSrc 4 0) (bodyD (nmOf (forTg (st 10))) (stmtsI ((inN (g09 n scr) 98).ex lawSc) (forBo (st 10)))) (asgI (inN (g09 n scr) 98) lawSc (forTg (st 10))) 4 0 [("script", .given), ("total", .int t), ("numbers", .loc 4), ("first", .int u), ("places", .loc 5), ("left", .int v), ("head", .int h), ("tape", .loc 6), ("memory", .loc 8), ("sign", .int v1)] [.tab lp09, .nums n1 g1, .nums n2 g2, .nums n3 g3, .nums N g, .nums 5 pl, .idict none (tape tp), .nums n7 g7, .nums 65536 f] Q :=
    for_range (by kernel_rfl) (fun K => le10 (K := K) ..) (by decide)
  rw [hl, turn_range (by decide), la10a, bodyD_eq]
  refine st_body_a (hN := hN) (s0 := by decide) (s1 := by decide) (t0 := t0) (t1 := t1) (p0 := (hp 0 (by decide)).1) (p1 := (hp 0 (by decide)).2) (hQ := ?_) ..
  rw [loopK_next, lx10a, turn_range (by decide), la10b, bodyD_eq]
  refine st_body_b (hN := hN) (s0 := by decide) (s1 := by decide) (t0 := t0) (t1 := t1) (p0 := (hp 1 (by decide)).1) (p1 := (hp 1 (by decide)).2) (hQ := ?_) ..
  rw [loopK_next, lx10b, turn_range (by decide), la10b, bodyD_eq]
  refine st_body_b (hN := hN) (s0 := by decide) (s1 := by decide) (t0 := t0) (t1 := t1) (p0 := (hp 2 (by decide)).1) (p1 := (hp 2 (by decide)).2) (hQ := ?_) ..
  rw [loopK_next, lx10b, turn_range (by decide), la10b, bodyD_eq]
  refine st_body_b (hN := hN) (s0 := by decide) (s1 := by decide) (t0 := t0) (t1 := t1) (p0 := (hp 3 (by decide)).1) (p1 := (hp 3 (by decide)).2) (hQ := ?_) ..
  rw [loopK_next, lx10b, end_range (by decide)]
  exact hQ _
end
end Mine
end
section
set_option Elab.async false
set_option maxRecDepth 100000
set_option linter.unusedVariables false
open PySem PySem.W PyProof.Rows PySem.Claim2Try PySem.Pin
namespace Mine
open PySem.Challenge
noncomputable def tailB : List Stmt := sg 11 12 ++ (sg 12 13 ++ ([forSt (st 13)] ++ (sg 14 15 ++ ([whSt (st 15)] ++ ([forSt (st 16)] ++ (sg 17 18 ++ (sg 18 19 ++ sg 19 20)))))))
noncomputable def midB : List Stmt := sg 2 3 ++ (sg 3 5 ++ (sg 5 6 ++ (sg 6 8 ++ (sg 8 9 ++ (sg 9 10 ++ ([forSt (st 10)] ++ tailB))))))
theorem lawBo_eq : lawBo = sg 0 1 ++ ([forSt (st 1)] ++ midB) := by kernel_rfl
theorem u_b (t : Int) : 20000 ≤ 20000 + t.fmod 40000 ∧ 20000 + t.fmod 40000 < 60000 := by
  rw [show t.fmod 40000 = _ from fmod_lit t 40000]; omega
theorem q_b (t : Int) : 0 ≤ (t.fdiv 3).fmod 40 ∧ (t.fdiv 3).fmod 40 < 1000000000 := by
  rw [show ∀ x : Int, x.fmod 40 = _ from fun x => fmod_lit x 40]; omega
theorem h_b (t : Int) : 4000 ≤ 4096 + 256 * (t.fdiv 3).fmod 40 + 255 - t.fmod 3 ∧ 4096 + 256 * (t.fdiv 3).fmod 40 + 255 - t.fmod 3 < 16000 := by
  rw [show ∀ x : Int, x.fmod 40 = _ from fun x => fmod_lit x 40, show t.fmod 3 = _ from fmod_lit t 3]; omega
theorem v_b (t : Int) : ∃ m : Nat, (6 + (t.fdiv 7).fmod 8) = ((m + 1 + 1 : Nat) : Int) ∧ m + 1 + 1 ≤ 13 := by
  rw [show ∀ x : Int, x.fmod 8 = _ from fun x => fmod_lit x 8]
  generalize t.fdiv 7 = x
  exact ⟨(4 + x % ((8 : Nat) : Int)).toNat, by omega, by omega⟩
theorem w_b (x : Int) : 0 ≤ x.fmod 256 ∧ x.fmod 256 < 256 := by rw [show x.fmod 256 = _ from fmod_lit x 256]; omega
theorem t_b (x : Int) : 0 ≤ x.fmod 1000003 ∧ x.fmod 1000003 < 1000003 := by rw [show x.fmod 1000003 = _ from fmod_lit x 1000003]; omega
theorem plc_b {u : Int} (u0 : 20000 ≤ u) (u1 : u < 60000) : ∀ i, i < 4 → 0 ≤ plc u i ∧ plc u i < 65000 := fun i hi => by
  have a : ∀ d : Int, 0 ≤ d → d ≤ 249 → 0 ≤ u + d ∧ u + d < 65000 := fun d d0 d1 => by clear hi; omega
  match i, hi with
  | 0, _ => have := a 0 (by decide) (by decide); rwa [Int.add_zero] at this
  | 1, _ => exact a 249 (by decide) (by decide)
  | 2, _ => exact a 90 (by decide) (by decide)
  | 3, _ => exact a 171 (by decide) (by decide)
  | k + 4, hk => exact absurd hk (Nat.not_lt_of_le (Nat.le_add_left 4 k))
theorem plc_b5 {u : Int} (u0 : 20000 ≤ u) (u1 : u < 60000) (i : Nat) (hi : i < 5) : 0 ≤ plc u i ∧ plc u i < 65536 := by
  rcases Nat.lt_or_eq_of_le (Nat.le_of_lt_succ hi) with q | q
  · have := plc_b u0 u1 i q
    exact ⟨this.1, Int.lt_trans this.2 (by decide)⟩
  · subst q
    exact ⟨by show (0 : Int) ≤ 604; decide, by show (604 : Int) < 65536; decide⟩
theorem i_lo {h j : Int} (h0 : 4000 ≤ h) (h1 : h < 16000) (j0 : -32 ≤ j) (j1 : j < 32) : (h + j).toNat < 20000 ∧ 16 ≠ (h + j).toNat ∧ (h + j).toNat ≠ 16 ∧ (h + j).toNat ≠ 18 ∧ (h + j).toNat ≠ 19 := by
  have e : (((h + j).toNat : Nat) : Int) = h + j := Int.toNat_of_nonneg (by omega)
  generalize (h + j).toNat = n at e ⊢
  omega
theorem ne_sp {h j : Int} (h0 : 4000 ≤ h) (hj : ¬ (-8 ≤ j ∧ j < 8)) (j0 : -32 ≤ j) (k : Nat) (hk : k < 16) : (h + j).toNat ≠ (h + (k : Int) - 8).toNat := fun q => by
  have e := congrArg (Nat.cast : Nat → Int) q
  rw [Int.toNat_of_nonneg (by clear e q hj; omega), Int.toNat_of_nonneg (by clear e q hj j0; omega)] at e
  clear q
  omega
theorem sp_at {h j : Int} {k : Nat} (e : (k : Int) - 8 = j) : (h + j).toNat = (h + (k : Int) - 8).toNat := by rw [Int.add_sub_assoc, e]
theorem lo_sp {h : Int} (h0 : 4000 ≤ h) (i : Nat) (hi : i < 20) (k : Nat) (hk : k < 16) : i ≠ (h + (k : Int) - 8).toNat := by omega
theorem win_i {h : Int} {i : Nat} (a : h - 32 ≤ (i : Int)) (b : (i : Int) < h + 32) : -32 ≤ (i : Int) - h ∧ (i : Int) - h < 32 ∧ (h + ((i : Int) - h)).toNat = i := by omega
/-- the memory at the start -/
structure Mem (F : Nat → Int) (h : Int) (v : Int) (tv : Nat → Int) : Prop where
  e0 : F 16 = v
  e1 : F 17 = 0
  e2 : F 18 = hl8 h 0
  e3 : F 19 = hh8 h 0
  win : ∀ j : Int, -32 ≤ j → j < 32 → F (h + j).toNat = tf0 tv j
theorem mem_at {F tv : Nat → Int} {h v : Int} (h0 : 4000 ≤ h) (h1 : h < 16000) (lo : ∀ i : Nat, i < 20000 → F i = wrs tv h 16 (setF (setF (setF (repF 1 (getI [0])) 16 v) 18 (h.fmod 256)) 19 (h.fdiv 256)) i) : Mem F h v tv := by
  have out : ∀ i : Nat, i < 20000 → (∀ j : Nat, j < 16 → i ≠ (h + (j : Int) - 8).toNat) → F i = setF (setF (setF (repF 1 (getI [0])) 16 v) 18 (h.fmod 256)) 19 (h.fdiv 256) i := fun i hi hj => (lo i hi).trans (wrs_out 16 hj)
  have zero : ∀ i : Nat, i ≠ 16 → i ≠ 18 → i ≠ 19 → setF (setF (setF (repF 1 (getI [0])) 16 v) 18 (h.fmod 256)) 19 (h.fdiv 256) i = 0 := fun i a b c => by
    unfold setF
    rw [beq_ne a, beq_ne b, beq_ne c]
    show getI [0] (i % 1) = 0
    rw [Nat.mod_one]; rfl
  have e18 : h.fmod 256 = hl8 h 0 := by rw [show h.fmod 256 = _ from fmod_lit h 256]; unfold hl8; rw [Int.add_zero]; rfl
  have e19 : h.fdiv 256 = hh8 h 0 := by rw [show h.fdiv 256 = _ from fdiv_lit h 256]; unfold hh8; rw [Int.add_zero]; rfl
  refine ⟨(out 16 (by decide) (lo_sp h0 16 (by decide))).trans rfl, (out 17 (by decide) (lo_sp h0 17 (by decide))).trans (zero 17 (by decide) (by decide) (by decide)), (out 18 (by decide) (lo_sp h0 18 (by decide))).trans e18, (out 19 (by decide) (lo_sp h0 19 (by decide))).trans e19, fun j j0 j1 => ?_⟩
  obtain ⟨a, _, b, c, d⟩ := i_lo h0 h1 j0 j1
  unfold tf0
  by_cases hj : -8 ≤ j ∧ j < 8
  · rw [if_pos hj, lo _ a]
    obtain ⟨k, hk, e, e2⟩ := k8 hj
    rw [sp_at e, wrs_in (Int.le_trans (by decide) h0) 16 hk, e2]
  · rw [if_neg hj, out _ a (ne_sp h0 hj j0)]
    exact zero _ b c d
noncomputable abbrev KT : KV := fun v σ => v = .bool true ∧ ∃ q, nth σ 0 = some (.tab q)
section
variable (n : Nat) (scr : Nat → Int) (t : Int) (Q : KF)
theorem tot_loop {M : Nat} {f : Nat → Int} (hQ : ∀ t, 0 ≤ t → t < 1000003 → Q .next [("script", .given), ("total", .int t)] [.tab lp09, .nums M f]) : ∀ (k i : Nat) (t : Int), i + k = M → 0 ≤ t → t < 1000003 →
    genLoop (fun σ i => itemAt σ 1 i) (bodyD (nmOf (forTg (st 1))) (stmtsI ((inN (g09 n scr) 98).ex lawSc) (forBo (st 1)))) (asgI (inN (g09 n scr) 98) lawSc (forTg (st 1))) k i [("script", .given), ("total", .int t)] [.tab lp09, .nums M f] Q
  | 0, i, t, hi, t0, t1 => by
    have hs : itemAt [.tab lp09, .nums M f] 1 i = some none := by
      show some (cond (Nat.blt i M) (some (AV.int (f i))) none) = some none
      rw [show Nat.blt i M = false from by rw [Bool.eq_false_iff]; exact fun z => Nat.lt_irrefl _ (Nat.lt_of_lt_of_eq (Nat.blt_eq.mp z) hi.symm)]; rfl
    rw [end_src hs]
    exact hQ t t0 t1
  | k + 1, i, t, hi, t0, t1 => by
    have hs : itemAt [.tab lp09, .nums M f] 1 i = some (some (.int (f i))) := by
      show some (cond (Nat.blt i M) (some (AV.int (f i))) none) = _
      rw [Nat.blt_eq.mpr (Nat.lt_of_lt_of_eq (Nat.lt_add_of_pos_right (Nat.succ_pos k)) hi)]; rfl
    rw [turn_src hs, la1, bodyD_eq, lb1]
    refine cond_t (by rw [small_i t0 (Int.lt_trans t1 (by decide))]; rfl) ?_
    rw [loopK_next, lx1]
    have q := t_b (31 * t + f i)
    exact tot_loop hQ k (i + 1) _ ((Nat.add_right_comm i 1 k).trans hi) q.1 q.2
theorem mid_ok (b0 : List Stmt) (hb0 : midB = b0) (n1 : Nat) (g1 : Nat → Int) (t0 : 0 ≤ t) (t1 : t < 1000003) : stmtsI ((inN (g09 n scr) 99).ex lawSc) b0 [("script", .given), ("total", .int t)] [.tab lp09, .nums n1 g1] (retK (gcK 1 KT)) := by
  subst hb0
  unfold midB
  generalize hb1 : tailB = b1
  rw [stmtsI_app, s2]
  have hN : min (12 : Int).toNat n - 0 + 12 ≤ 1000000 := Nat.le_trans (Nat.add_le_add_right (Nat.min_le_left _ _) 12) (by decide)
  refine cond_t (decide_eq_true hN) ?_
  clear hN
  rw [nextK_next]
  generalize min (12 : Int).toNat n - 0 = M
  generalize appF M (cutF 0 scr) (c12 t) = g
  rw [stmtsI_app, s3, nextK_next]
  obtain ⟨u0, u1⟩ := u_b t
  generalize 20000 + t.fmod 40000 = u at u0 u1 ⊢
  rw [stmtsI_app, s5]
  refine cond_t (by rw [small_i (q_b t).1 (q_b t).2]; rfl) ?_
  rw [nextK_next]
  obtain ⟨h0, h1⟩ := h_b t
  generalize 4096 + 256 * (t.fdiv 3).fmod 40 + 255 - t.fmod 3 = h at h0 h1 ⊢
  obtain ⟨m, hm, hm2⟩ := v_b t
  rw [hm]
  clear hm
  rw [stmtsI_app, s6, nextK_next, stmtsI_app, s8, nextK_next, stmtsI_app, s9]
  refine gds_i (Int.le_trans (by decide) h0) (Int.lt_trans h1 (by decide)) ?_ 16 0 (by decide)
  rw [nextK_next, stmtsI_app]
  refine st_loop (hN := Nat.le_add_left 12 M) (t0 := t0) (t1 := t1) (hp := plc_b u0 u1) (hQ := fun D => ?_) ..
  rw [nextK_next]
  have mem := mem_at (F := lay4 g (plc u) t (wrs (sgv t) h 16 (setF (setF (setF (repF 1 (getI [0])) 16 ((m + 1 + 1 : Nat) : Int)) 18 (h.fmod 256)) 19 (h.fdiv 256)))) h0 h1 fun i hi => lay4_lo g t u _ u0 i hi
  have code := lay4_code g t u (wrs (sgv t) h 16 (setF (setF (setF (repF 1 (getI [0])) 16 ((m + 1 + 1 : Nat) : Int)) 18 (h.fmod 256)) 19 (h.fdiv 256))) u0 u1
  generalize lay4 g (plc u) t (wrs (sgv t) h 16 (setF (setF (setF (repF 1 (getI [0])) 16 ((m + 1 + 1 : Nat) : Int)) 18 (h.fmod 256)) 19 (h.fdiv 256))) = F at mem code ⊢
  refine tail_ok (m := m) (tf := tf0 (sgv t)) (es := tape (sgv t)) (Wf := Wt t) (b0 := b1) (hb0 := hb1) (hN := Nat.le_add_left 12 M) (hm := hm2) (h0 := h0) (h1 := h1) (hW := fun s => w_b _) (hC := code)
    (hp := plc_b5 u0 u1) (h4 := rfl) (hu := rfl) (e0 := mem.e0) (e1 := mem.e1) (e2 := mem.e2) (e3 := mem.e3) (hw := fun i a b => ?_) (ht := fun j => ?_) (hr := tape_look _) (hb := fun j hj => ?_) (hs := tape_has _) (hl := by show 16 ≤ 20; decide) (hz := fun j a b c => ?_) ..
  · obtain ⟨w0, w1, w2⟩ := win_i a b
    have := mem.win _ w0 w1
    rwa [w2] at this
  · unfold tf0
    by_cases hj : -8 ≤ j ∧ j < 8
    · rw [if_pos hj]; exact sgv_b t _
    · rw [if_neg hj]; decide
  · have := tape_in _ j hj
    exact ⟨Int.lt_of_lt_of_le (by decide) this.1, Int.lt_trans this.2 (by decide)⟩
  · rw [mem.win j a b]; unfold tf0; rw [if_neg c]
theorem law_b (bo : List Stmt) (hbo : lawBo = bo) : stmtsI ((inN (g09 n scr) 99).ex lawSc) bo [("script", .given)] [.tab lp09] (retK (gcK 1 KT)) := by
  subst hbo
  generalize hb1 : midB = b1
  have e := lawBo_eq
  rw [hb1] at e
  rw [e, stmtsI_app, s0, nextK_next, stmtsI_app]
  have hl : ∀ Q, stmtsI ((inN (g09 n scr) 99).ex lawSc) [forSt (st 1)] [("script", .given), ("total", .int 0)] [.tab lp09] Q = genLoop (fun σ i => itemAt σ 1 i) (bodyD (nmOf (forTg (st 1))) (stmtsI ((inN (g09 n scr) 98).ex lawSc) (forBo (st 1)))) (asgI (inN (g09 n scr) 98) lawSc (forTg (st 1))) (min (24 : Int).toNat n - 0) 0 [("script", .given), ("total", .int 0)] [.tab lp09, .nums (min (24 : Int).toNat n - 0) (cutF 0 scr)] Q := fun Q =>
    for_list (by kernel_rfl) (fun K => le1 (K := K) ..) rfl rfl
  rw [hl]
  refine tot_loop n scr _ (fun t t0 t1 => ?_) _ 0 0 (Nat.zero_add _) (by decide) (by decide)
  rw [nextK_next]
  exact mid_ok n scr t b1 hb1 _ _ t0 t1
theorem ca100 (G : Pg) : (inN G 100).ca = caB G (inN G 99) := by kernel_rfl
theorem run09 : (inN (g09 n scr) 100).ca (.fn nLaw) [.given] [] [.tab lp09] KT := by
  rw [ca100, law_a]
  generalize hbo : lawBo = bo
  exact law_b n scr bo hbo
end
end Mine
end
set_option Elab.async false
open PySem PySem.W PyProof.Rows
theorem PySem.Challenge.cw_lq0009_09_holds : PySem.Challenge.rw_lq0009_09.Holds :=
  holds_law Mine.said09 fun said => Mine.all09 said fun ns _ => Mine.run09 ns.length (Mine.getI ns)
