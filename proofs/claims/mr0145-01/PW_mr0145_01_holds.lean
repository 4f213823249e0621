import PyProof.Rows.All
import Wide.All
import OpenK.AllK
import Wide.FinOn
import PySem.Challenge.RW_mr0145_01
set_option Elab.async false
set_option rowWalk.seconds 0
/- HeadC -/
section
open PySem PySem.W PyProof.Rows
namespace Mine
set_option maxRecDepth 100000
set_option maxHeartbeats 4000000
abbrev therow : OpenRow := PySem.Challenge.rw_mr0145_01.row

/-- the stack holds the claim's caller and nothing else -/
def onlyCaller : List (Code × Pos) → Bool
  | [(.builtin id ⟨[], []⟩, _)] => decide (id = "claim.caller")
  | _ => false
theorem onlyCaller_iff {c : Code} {p : Pos} {l : List (Code × Pos)} (h : onlyCaller ((c, p) :: l) = true) : c = .builtin "claim.caller" {} ∧ l = [] := by
  unfold onlyCaller at h
  split at h
  · rename_i id q heq
    have h' := of_decide_eq_true h
    simp only [List.cons.injEq, Prod.mk.injEq] at heq
    obtain ⟨⟨rfl, _⟩, rfl⟩ := heq
    subst h'
    exact ⟨rfl, rfl⟩
  · cases h

def guarded {α : Type} (t : Sem α) (d : α) : Sem α := .stack fun st => cond (onlyCaller st) t (.pure d)

/-- one step of the machine: the look at the stack -/
theorem shift_sched {den : Code → Sem PySem.Fin} {p : Program} {w : World} {s : Shared} {t : Sem PySem.Fin} {d : PySem.Fin} {n : Nat} {o : Outcome} {s' : Shared} (hz : s.asleep)
    (h : schedN den p w n (.single s ⟨guarded t d, .builtin "claim.caller" {}, default, []⟩) = .halted o s') :
    ∃ m, schedN den p w m (.single s ⟨t, .builtin "claim.caller" {}, default, []⟩) = .halted o s' := by
  cases n with
  | zero => simp [schedN] at h
  | succ n =>
    have hs : step den p w s ⟨guarded t d, .builtin "claim.caller" {}, default, []⟩ = .go s ⟨t, .builtin "claim.caller" {}, default, []⟩ := by
      obtain ⟨heap, gens, drawn, toks, os⟩ := s
      rfl
    have e : sstep den p w (.single s ⟨guarded t d, .builtin "claim.caller" {}, default, []⟩) = .go (.single s ⟨t, .builtin "claim.caller" {}, default, []⟩) := by
      rcases sstep_single den p w s ⟨guarded t d, .builtin "claim.caller" {}, default, []⟩ rfl hz with e | e
      · rw [e, hs]; rfl
      · rw [hs] at e; cases e
    simp only [schedN, e] at h
    exact ⟨n, h⟩

theorem shift_holds {c : ClaimW} {tree : List Value → Sem PySem.Fin} {d : PySem.Fin} {defs kps : List Str} {writes : Bool}
    (H : c.HoldsOpenBy (fun vs => ⟨guarded (tree vs) d, .builtin "claim.caller" {}, default, []⟩) defs kps writes) :
    c.HoldsOpenBy (fun vs => ⟨tree vs, .builtin "claim.caller" {}, default, []⟩) defs kps writes := by
  obtain ⟨h1, h2, h3⟩ := H
  refine ⟨h1, h2, fun w => ⟨(h3 w).1, fun s hs => ?_⟩⟩
  obtain ⟨s₀, hf, hg, s₁, hT, hd, r1, r2, hC⟩ := (h3 w).2 s hs
  refine ⟨s₀, hf, hg, s₁, hT, hd, r1, r2, fun args hpre hlay ord hord => ?_⟩
  obtain ⟨vs, s₂, hl, n, o, s', hn, rest⟩ := hC args hpre hlay ord hord
  have hal := layAllW_rest _ _ _ hl
  have hz : s₂.asleep := Shared.asleep_of_life (hal.2.2.2.trans (hT.2.1.trans (fence_lifeW hf))) (AfterImport.life hs)
  obtain ⟨m, hm⟩ := shift_sched hz hn
  exact ⟨vs, s₂, hl, m, o, s', hm, rest⟩

def ctx₀ (own past : Option Value) : Ctx := ⟨.builtin "claim.caller" {}, none, own, [], past⟩

/-- what is to be walked: the call from the claim's own context -/
abbrev WalkC (q : Program) (loose : List Str) (XP : (Str → Option Value) → Heap → Prop) (YP : World → Heap → Prop) (d : DefRec) (kwd : List (Str × PySem.Expr)) : Prop :=
  ∀ (w : World) (s₀ s₁ : Shared) (mg mb : Str → Option Value), Ground q loose therow.toRowW.records XP w s₀ mg mb s₁.heap → YP w s₁.heap → ∀ (a : Addr) (o : Obj) (pm cd doc dV kV : Value), s₁.heap.get? a = some o →
    o.data = .func { Calls.docDef d.name d.params d.body d.scope pm cd doc with defaults := dV, kwdefaults := kV } → s₁.heap.CodeRec cd d.name → Dflts mg s₁.heap d.params kwd dV kV → mg d.name = some (.ref a) → s₁.gens = #[] →
    ∀ (args : List WData) (vals : List Value) (as : List Addr), therow.toRowW.claim.pre args = true → WData.layableAll args = true → ReadsAllW therow.toRowW.records (classAt s₀.heap) s₁.heap vals args as → WellAll w.params s₁.heap vals args → (∀ a ∈ as, (a == sysModules) = false) →
      ∀ own past p, Sem.wp (model therow.toRowW.prog w) (ctx₀ own past) (PySem.call (.ref a) vals) (fun v _ s' => GoodWG therow.toRowW.claim (classAt s₀.heap) (ExcName.means s₀.heap) args s₁ (.ok (.ret v)) s')
        (fun e _ s' => GoodWG therow.toRowW.claim (classAt s₀.heap) (ExcName.means s₀.heap) args s₁ (.error e) s') p s₁

theorem good_true {w : World} {s₀ s₁ : Shared} {args : List WData} (hg : s₁.gens = #[]) (_hw : w = w) : GoodWG therow.toRowW.claim (classAt s₀.heap) (ExcName.means s₀.heap) args s₁ (.ok (.ret (.bool true))) s₁ :=
  ⟨.inl ⟨.bool true, .bool true, [], rfl, fun _ => rfl, ReadsW.bool true, (by first | rfl | decide | wrow_post), fun _ => ⟨List.nodup_nil, fun _ hm => (nomatch hm)⟩⟩, OldK.refl _, rfl, AllBare.of_eq hg⟩

theorem PySem.W.holds_open {q : Program} {loose : List Str} {Xt : Shared → Bool} {XP : (Str → Option Value) → Heap → Prop} {α : Type} {Yf : Shared → α} {Ya : World → α} {YP : World → Heap → Prop} {d : DefRec} {kwd : List (Str × PySem.Expr)} {N : Nat}
    (left : LeftO therow.prog q loose Xt Yf Ya N) (hY : ∀ w s, Yf s = Ya w → YP w s.heap) (hYk : ∀ w h h', YP w h → (∀ b o, h.get? b = some o → h'.get? b = some o) → YP w h')
    (hX : ∀ s, Xt s = true → XP (s.heap.nsMap mainGlobals) s.heap) (hXk : ∀ mg h h', XP mg h → (∀ b o, h.get? b = some o → h'.get? b = some o) → XP mg h')
    (hdef : defOf q therow.name = some (d, kwd)) (hp : therow.prog.theDef therow.name = some (d.params, d.body, d.scope)) (hk : kwWritten? d.params.kwonlyargs d.params.kw_defaults = some kwd) (hRf : ∀ s, Xt s = true → RecFacts therow.records s.heap) (hwr : (!therow.writes || therow.records.isEmpty) = true)
    (k1 : therow.wellSaid = true) (ok : (chainsOk q && opensWell therow.prog && (frees therow.toRowW && therow.within.isEmpty)) = true) (hb : therow.prog.bare) (hw : therow.toRowW.promised)
    (call : WalkC q loose XP YP d kwd) : therow.Holds := by
  refine ⟨k1, hw, ?_⟩
  refine shift_holds (d := .done (.ret (.bool true))) (tree := fun vs => do match ← nsGet mainNs therow.name with
      | some f => do ret (← PySem.call f vs)
      | none => unsupported "claim.caller:no-such-global") ?_
  refine open_anyG (r := therow.toRowW) (run := fun f vs => guarded (PySem.call f vs) (.bool true)) (tree := fun vs => guarded (do match ← nsGet mainNs therow.name with
      | some f => do ret (← PySem.call f vs)
      | none => unsupported "claim.caller:no-such-global") (.done (.ret (.bool true)))) left hY hYk hX hXk hRf hwr ok hb hw ?_ ?_ ?_
  · intro vs w s mg f Q E hg hf h Γ p hΓ
    show Sem.wp _ Γ (cond (onlyCaller ((Γ.code, p) :: Γ.below)) _ _) _ _ p s
    cases hc : onlyCaller ((Γ.code, p) :: Γ.below) with
    | false =>
      have := h Γ p hΓ
      change Sem.wp _ Γ (cond (onlyCaller ((Γ.code, p) :: Γ.below)) _ _) _ _ p s at this
      rw [hc] at this
      exact this
    | true =>
      have hc' : ∀ p', onlyCaller ((Γ.code, p') :: Γ.below) = true := fun p' => by
        obtain ⟨e1, e2⟩ := onlyCaller_iff hc
        rw [e1, e2]; rfl
      have h2 : ∀ p', Sem.wp (model therow.toRowW.prog w) Γ (PySem.call f vs) (fun v _ s' => Q (.done (.ret v)) s') (fun e _ s' => E e s') p' s := fun p' => by
        have := h Γ p' hΓ
        change Sem.wp _ Γ (cond (onlyCaller ((Γ.code, p') :: Γ.below)) _ _) _ _ p' s at this
        rw [hc' p'] at this
        exact this
      have h3 : wpAny (model therow.toRowW.prog w) callerA (nsGet mainNs therow.name) (fun r s' => r = some f ∧ s' = s) E s := wpAny_nsGet hg ⟨hf, rfl⟩
      show Sem.wp _ Γ (Sem.bind (nsGet mainNs therow.name) _) _ _ p s
      rw [show ∀ (m : Sem (Option Value)) (g : Option Value → Sem PySem.Fin), Sem.bind m g = m >>= g from fun _ _ => rfl, Sem.wp_bind']
      refine Sem.wp_mono _ Γ _ (fun r p' s' e => ?_) (fun _ _ _ e => e) p s (h3 Γ p hΓ)
      obtain ⟨rfl, rfl⟩ := e
      show Sem.wp _ Γ (PySem.call f vs >>= fun v => ret v) _ _ p' _
      rw [Sem.wp_bind']
      exact Sem.wp_mono _ Γ _ (fun _ _ _ e => e) (fun _ _ _ e => e) p' _ (h2 p')
  · intro w s hg G n hn
    obtain rfl : n = therow.name := by split at hn <;> simp_all
    exact pinned_of_view hg G hdef hp hk
  · intro w s₀ s₁ mg mb G Y args vs as hpre hlay L low
    obtain ⟨a, o, pm, cd, doc, dV, kV, h1, h2, h3, h4, h5⟩ := G.fn hdef
    refine ⟨.ref a, h1, fun Γ p hΓ => ?_⟩
    show Sem.wp _ Γ (cond (onlyCaller ((Γ.code, p) :: Γ.below)) _ _) _ _ p s₁
    cases hc : onlyCaller ((Γ.code, p) :: Γ.below) with
    | false => exact good_true (w := w) L.gens rfl
    | true =>
      obtain ⟨e1, e2⟩ := onlyCaller_iff hc
      obtain ⟨c, hd, ow, bl, ps⟩ := Γ
      have e3 : hd = none := hΓ.1
      dsimp only at e1 e2
      subst e1 e2 e3
      exact call w s₀ s₁ mg mb G Y a o pm cd doc dV kV h2 h3 h4 h5 (defOf_name hdef ▸ h1) L.gens args vs as hpre hlay L.reads L.well (L.low low) ow ps p

local macro_rules | `(tactic| k_head) => `(tactic| x_head)
open_top hd for PySem.Challenge.rw_mr0145_01
end Mine
end
/- Det -/
section
open PySem PySem.W PyProof.Rows
namespace Mine
set_option maxRecDepth 100000
set_option maxHeartbeats 4000000
/-- what a run of a tree without frames comes from -/
def RInv0 (M : Model) (Γ : Ctx) (p : Pos) (s : Shared) (e : End) (s' : Shared) : Sem PySem.Fin → Prop
  | .pure (.done f) => e = .ret (.ok f) ∧ s' = s
  | .pure (.again c) => Runs M (Γ.goto c) p (M.den c) [] s e s'
  | .raise x => e = .ret (.error x) ∧ s' = s
  | .rule _ k => Runs M Γ p (k ()) [] s e s'
  | .at q k => Runs M Γ q (k ()) [] s e s'
  | .load a _ k => ∃ o, s.heap.get? a = some o ∧ Runs M Γ p (k o) [] s e s'
  | .update a _ f k => Runs M Γ p (k ()) [] { s with heap := s.heap.update a f } e s'
  | .loadIfAlive a k => Runs M Γ p (k (s.heap.get? a)) [] s e s'
  | .point _ k => Runs M Γ p (k ()) [] s e s'
  | .alloc o k => Runs M Γ p (k s.heap.objs.size) [] { s with heap := s.heap.push o } e s'
  | .fresh k => Runs M Γ p (k s.toks) [] { s with toks := s.toks + 1 } e s'
  | .ask k => Runs M Γ p (k ⟨M.prog, M.w.params⟩) [] s e s'
  | .choose src n k => Runs M Γ p (k (M.w.draws src (s.drawn.get src) % n)) [] { s with drawn := s.drawn.bump src } e s'
  | .os q _ k => Runs M Γ p (k (Os.step s.os q).2) [] { s with os := (Os.step s.os q).1 } e s'
  | .handled own k => Runs M Γ p (k (if own then Γ.own else Γ.handled)) [] s e s'
  | .genState g k => ∃ st, s.gens[g]? = some st ∧ Runs M Γ p (k st.seen) [] s e s'
  | .stack k => Runs M Γ p (k ((Γ.code, p) :: Γ.below)) [] s e s'
  | .thread k => Runs M Γ p (k 0) [] s e s'
  | .newGen c k => Runs M Γ p (k s.gens.size) [] { s with gens := s.gens.push (.fresh c) } e s'
  | .call c h g l k => (∃ r s₁, Runs M (Γ.enter c h p) p (M.den c) [] s (.ret r) s₁ ∧ Runs M Γ p (k r) [] s₁ e s') ∨
      ∃ v g₀ l₀ k₀ c₀ p₀ fs, Runs M (Γ.enter c h p) p (M.den c) [] s (.susp v g₀ l₀ k₀ c₀ p₀ fs) s' ∧ e = .susp v g₀ l₀ k₀ c₀ p₀ (fs ++ [.ret k h g l Γ.code p []])
  | .yield v g l k => e = .susp v g l k Γ.code p [] ∧ s' = s
  | .resume g r _ k => ∃ res s₁, Wakes M Γ p g r s res s₁ ∧ Runs M Γ p (k res) [] s₁ e s'
  | _ => True
/-- what a run with frames comes from -/
def RInvF (M : Model) (Γ : Ctx) (p : Pos) (t : Sem PySem.Fin) (F : Frame) (fs : List Frame) (s : Shared) (e : End) (s' : Shared) : Prop :=
  ∃ e₀ s₁, Runs M (Γ.over (F :: fs)) p t [] s e₀ s₁ ∧ match e₀ with
    | .ret r => (match F with
      | .ret k _ _ _ c₁ p₁ _ => Runs M (Γ.goto c₁) p₁ (k r) fs s₁ e s'
      | .gen g k _ c₁ p₁ => Runs M (Γ.goto c₁) p₁ (k (End.ret r).result) fs (s₁.setGen g .finished) e s')
    | .susp v g₀ l₀ k₀ c₀ p₀ fs₀ => (match splitAtGen (F :: fs) with
      | none => e = .susp v g₀ l₀ k₀ c₀ p₀ (fs₀ ++ F :: fs) ∧ s' = s₁
      | some (pre, (g, k, c₁, p₁), rest) => Runs M (Γ.goto c₁) p₁ (k (.yielded v)) rest (s₁.setGen g (End.susp v g₀ l₀ k₀ c₀ p₀ (fs₀ ++ pre)).genState) e s')
def RInv (M : Model) (Γ : Ctx) (p : Pos) (t : Sem PySem.Fin) (fs : List Frame) (s : Shared) (e : End) (s' : Shared) : Prop := match fs with
  | [] => RInv0 M Γ p s e s' t
  | F :: fs => RInvF M Γ p t F fs s e s'
theorem runs_inv {M : Model} {Γ : Ctx} {p : Pos} {t : Sem PySem.Fin} {fs : List Frame} {s : Shared} {e : End} {s' : Shared} (h : Runs M Γ p t fs s e s') : RInv M Γ p t fs s e s' := by
  cases h with
  | done => exact ⟨rfl, rfl⟩
  | raise => exact ⟨rfl, rfl⟩
  | again _ h => exact h
  | rule h => exact h
  | «at» h => exact h
  | load ho h => exact ⟨_, ho, h⟩
  | update _ h => exact h
  | loadIfAlive h => exact h
  | point h => exact h
  | alloc h => exact h
  | fresh h => exact h
  | ask h => exact h
  | choose _ h => exact h
  | os h => exact h
  | handled h => exact h
  | genState ho h => exact ⟨_, ho, h⟩
  | stack h => exact h
  | thread h => exact h
  | newGen h => exact h
  | call h h' => exact .inl ⟨_, _, h, h'⟩
  | callSusp h => exact .inr ⟨_, _, _, _, _, _, _, h, rfl⟩
  | yield => exact ⟨rfl, rfl⟩
  | resumeFresh hg h q h' => exact ⟨_, _, (by unfold Wakes; rw [hg]; exact ⟨_, _, h, q, rfl, rfl⟩), h'⟩
  | resumeSuspended hg h q h' => exact ⟨_, _, (by unfold Wakes; rw [hg]; exact ⟨_, _, h, q, rfl, rfl⟩), h'⟩
  | resumeJustStarted hg hv h => exact ⟨_, _, (by
      unfold Wakes; rw [hg]
      dsimp only
      split
      · rename_i q; cases q; exact absurd rfl hv
      · exact ⟨rfl, rfl⟩
      · rename_i h; cases h), h⟩
  | resumeThrowFresh hg h => exact ⟨_, _, (by unfold Wakes; rw [hg]; exact ⟨rfl, rfl⟩), h⟩
  | resumeRunning hg h => exact ⟨_, _, (by unfold Wakes; rw [hg]; exact ⟨rfl, rfl⟩), h⟩
  | resumeFinished hg h => exact ⟨_, _, (by unfold Wakes; rw [hg]; exact ⟨rfl, rfl⟩), h⟩
  | segRet h h' => exact ⟨_, _, h, h'⟩
  | segGen h h' => exact ⟨_, _, h, h'⟩
  | segSuspOut hsp h => exact ⟨_, _, h, by dsimp only; rw [hsp]; exact ⟨rfl, rfl⟩⟩
  | segSuspGen hsp h _ h' => exact ⟨_, _, h, by dsimp only; rw [hsp]; exact h'⟩
theorem runs_det {M : Model} {Γ : Ctx} {p : Pos} {t : Sem PySem.Fin} {fs : List Frame} {s : Shared} {e : End} {s' : Shared} (h : Runs M Γ p t fs s e s') : ∀ {e2 s2}, Runs M Γ p t fs s e2 s2 → e2 = e ∧ s2 = s' := by
  induction h with
  | done => intro e2 s2 h2; exact runs_inv h2
  | raise => intro e2 s2 h2; exact runs_inv h2
  | again _ _ ih => intro e2 s2 h2; exact ih (runs_inv h2)
  | rule _ ih => intro e2 s2 h2; exact ih (runs_inv h2)
  | «at» _ ih => intro e2 s2 h2; exact ih (runs_inv h2)
  | load ho _ ih => intro e2 s2 h2; obtain ⟨o, ho', h⟩ := runs_inv h2; rw [ho] at ho'; cases ho'; exact ih h
  | update _ _ ih => intro e2 s2 h2; exact ih (runs_inv h2)
  | loadIfAlive _ ih => intro e2 s2 h2; exact ih (runs_inv h2)
  | point _ ih => intro e2 s2 h2; exact ih (runs_inv h2)
  | alloc _ ih => intro e2 s2 h2; exact ih (runs_inv h2)
  | fresh _ ih => intro e2 s2 h2; exact ih (runs_inv h2)
  | ask _ ih => intro e2 s2 h2; exact ih (runs_inv h2)
  | choose _ _ ih => intro e2 s2 h2; exact ih (runs_inv h2)
  | os _ ih => intro e2 s2 h2; exact ih (runs_inv h2)
  | handled _ ih => intro e2 s2 h2; exact ih (runs_inv h2)
  | genState ho _ ih => intro e2 s2 h2; obtain ⟨o, ho', h⟩ := runs_inv h2; rw [ho] at ho'; cases ho'; exact ih h
  | stack _ ih => intro e2 s2 h2; exact ih (runs_inv h2)
  | thread _ ih => intro e2 s2 h2; exact ih (runs_inv h2)
  | newGen _ ih => intro e2 s2 h2; exact ih (runs_inv h2)
  | call _ _ ih1 ih2 =>
    intro e2 s2 h2
    rcases runs_inv h2 with ⟨r, s₁, h, h'⟩ | ⟨_, _, _, _, _, _, _, h, _⟩
    · obtain ⟨a, b⟩ := ih1 h; cases a; cases b; exact ih2 h'
    · obtain ⟨a, b⟩ := ih1 h; cases a
  | callSusp _ ih =>
    intro e2 s2 h2
    rcases runs_inv h2 with ⟨r, s₁, h, h'⟩ | ⟨_, _, _, _, _, _, _, h, q⟩
    · obtain ⟨a, b⟩ := ih h; cases a
    · obtain ⟨a, b⟩ := ih h; cases a; cases b; exact ⟨q, rfl⟩
  | yield => intro e2 s2 h2; exact runs_inv h2
  | resumeFresh hg _ _ _ ih1 ih2 =>
    intro e2 s2 h2
    obtain ⟨res, s₁, w, h'⟩ := runs_inv h2
    unfold Wakes at w; rw [hg] at w
    obtain ⟨e₁, s₁, h, _, rfl, rfl⟩ := w
    obtain ⟨a, b⟩ := ih1 h; cases a; cases b; exact ih2 h'
  | resumeSuspended hg _ _ _ ih1 ih2 =>
    intro e2 s2 h2
    obtain ⟨res, s₁, w, h'⟩ := runs_inv h2
    unfold Wakes at w; rw [hg] at w
    obtain ⟨e₁, s₁, h, _, rfl, rfl⟩ := w
    obtain ⟨a, b⟩ := ih1 h; cases a; cases b; exact ih2 h'
  | resumeJustStarted hg hv _ ih =>
    intro e2 s2 h2
    obtain ⟨res, s₁, w, h'⟩ := runs_inv h2
    unfold Wakes at w; rw [hg] at w
    dsimp only at w
    split at w
    · rename_i q; cases q; exact absurd rfl hv
    · obtain ⟨rfl, rfl⟩ := w; exact ih h'
    · rename_i q; cases q
  | resumeThrowFresh hg _ ih =>
    intro e2 s2 h2
    obtain ⟨res, s₁, w, h'⟩ := runs_inv h2
    unfold Wakes at w; rw [hg] at w
    obtain ⟨rfl, rfl⟩ := w; exact ih h'
  | resumeRunning hg _ ih =>
    intro e2 s2 h2
    obtain ⟨res, s₁, w, h'⟩ := runs_inv h2
    unfold Wakes at w; rw [hg] at w
    obtain ⟨rfl, rfl⟩ := w; exact ih h'
  | resumeFinished hg _ ih =>
    intro e2 s2 h2
    obtain ⟨res, s₁, w, h'⟩ := runs_inv h2
    unfold Wakes at w; rw [hg] at w
    obtain ⟨rfl, rfl⟩ := w; exact ih h'
  | segRet _ _ ih1 ih2 =>
    intro e2 s2 h2
    obtain ⟨e₀, s₁, h, h'⟩ := runs_inv h2
    obtain ⟨a, b⟩ := ih1 h; cases a; cases b; exact ih2 h'
  | segGen _ _ ih1 ih2 =>
    intro e2 s2 h2
    obtain ⟨e₀, s₁, h, h'⟩ := runs_inv h2
    obtain ⟨a, b⟩ := ih1 h; cases a; cases b; exact ih2 h'
  | segSuspOut hsp _ ih =>
    intro e2 s2 h2
    obtain ⟨e₀, s₁, h, h'⟩ := runs_inv h2
    obtain ⟨a, b⟩ := ih h; cases a; cases b
    dsimp only at h'
    rw [hsp] at h'; exact h'
  | segSuspGen hsp _ _ _ ih1 ih2 =>
    intro e2 s2 h2
    obtain ⟨e₀, s₁, h, h'⟩ := runs_inv h2
    obtain ⟨a, b⟩ := ih1 h; cases a; cases b
    dsimp only at h'
    rw [hsp] at h'; exact ih2 h'
end Mine
end
/- Det2 -/
section
open PySem PySem.W PyProof.Rows PySem.Calls
namespace Mine
set_option maxRecDepth 100000
set_option maxHeartbeats 4000000
theorem wakes_det {M : Model} {Γ : Ctx} {p : Pos} {g : Nat} {r : Resume} {s : Shared} {r1 r2 : GenResult} {s1 s2 : Shared} (h1 : Wakes M Γ p g r s r1 s1) (h2 : Wakes M Γ p g r s r2 s2) : r1 = r2 ∧ s1 = s2 := by
  unfold Wakes at h1 h2
  split at h1 <;> rename_i heq <;> simp only [heq] at h2
  all_goals (try split at h1)
  all_goals (try split at h2)
  all_goals first
    | exact h1.elim
    | exact ⟨h1.1.trans h2.1.symm, h1.2.trans h2.2.symm⟩
    | (obtain ⟨e1, s1', a1, b1, c1, d1⟩ := h1
       obtain ⟨e2, s2', a2, b2, c2, d2⟩ := h2
       obtain ⟨rfl, rfl⟩ := runs_det a1 a2
       exact ⟨c1.trans c2.symm, d1.trans d2.symm⟩)
    | (exfalso; simp_all; done)
    | simp_all
theorem wp_and {α : Type} {M : Model} {Γ : Ctx} {Q1 Q2 : α → Pos → Shared → Prop} {E1 E2 : Value → Pos → Shared → Prop} (t : Sem α) : ∀ (p : Pos) (s : Shared), Sem.wp M Γ t Q1 E1 p s → Sem.wp M Γ t Q2 E2 p s → ∃ p' s', (∃ a, Q1 a p' s' ∧ Q2 a p' s') ∨ ∃ e, E1 e p' s' ∧ E2 e p' s' := by
  induction t with
  | pure a => intro p s h1 h2; exact ⟨p, s, .inl ⟨a, h1, h2⟩⟩
  | raise e => intro p s h1 h2; exact ⟨p, s, .inr ⟨e, h1, h2⟩⟩
  | unsupported => intro p s h1 _; exact h1.elim
  | finish => intro p s h1 _; exact h1.elim
  | rule _ k ih => intro p s h1 h2; exact ih () p s h1 h2
  | «at» p' k ih => intro p s h1 h2; exact ih () p' s h1 h2
  | load a _ k ih => intro p s h1 h2; obtain ⟨o, ho, h1⟩ := h1; obtain ⟨o', ho', h2⟩ := h2; rw [ho] at ho'; cases ho'; exact ih o p s h1 h2
  | update a _ f k ih => intro p s h1 h2; exact ih () p _ h1.2 h2.2
  | loadIfAlive a k ih => intro p s h1 h2; exact ih _ p s h1 h2
  | point _ k ih => intro p s h1 h2; exact ih () p s h1 h2
  | register => intro p s h1 _; exact h1.elim
  | alloc o k ih => intro p s h1 h2; exact ih _ p _ h1 h2
  | fresh k ih => intro p s h1 h2; exact ih _ p _ h1 h2
  | ask k ih => intro p s h1 h2; exact ih _ p s h1 h2
  | choose src n k ih => intro p s h1 h2; exact ih _ p _ h1.2 h2.2
  | os q _ k ih => intro p s h1 h2; exact ih _ p _ h1 h2
  | call c h _ _ k ih =>
    intro p s h1 h2
    obtain ⟨r, s1, a1, h1⟩ := h1
    obtain ⟨r', s2, a2, h2⟩ := h2
    obtain ⟨e1, rfl⟩ := runs_det a1 a2
    cases e1
    exact ih r p _ h1 h2
  | handled own k ih => intro p s h1 h2; exact ih _ p s h1 h2
  | genState g k ih => intro p s h1 h2; obtain ⟨o, ho, h1⟩ := h1; obtain ⟨o', ho', h2⟩ := h2; rw [ho] at ho'; cases ho'; exact ih _ p s h1 h2
  | newGen c k ih => intro p s h1 h2; exact ih _ p _ h1 h2
  | resume g r _ k ih =>
    intro p s h1 h2
    obtain ⟨r1, s1, a1, h1⟩ := h1
    obtain ⟨r2, s2, a2, h2⟩ := h2
    obtain ⟨rfl, rfl⟩ := wakes_det a1 a2
    exact ih _ p _ h1 h2
  | yield => intro p s h1 _; exact h1.elim
  | stack k ih => intro p s h1 h2; exact ih _ p s h1 h2
  | fork => intro p s h1 _; exact h1.elim
  | thread k ih => intro p s h1 h2; exact ih _ p s h1 h2
  | await => intro p s h1 _; exact h1.elim
end Mine
end
/- Det3 -/
section
open PySem PySem.W PyProof.Rows PySem.Calls
namespace Mine
set_option maxRecDepth 100000
set_option maxHeartbeats 4000000
/-- a decision tree, run -/
def trun {α : Type} (lt : Nat → Nat → Bool) : KasT α → α
  | .ret a => a
  | .ask i j k => trun lt (k (lt i j))
/-- all questions are about numbers below n, all answers keep P -/
inductive TLt {α : Type} (n : Nat) (P : α → Prop) : KasT α → Prop
  | ret {a} : P a → TLt n P (.ret a)
  | ask {i j k} : i < n → j < n → (∀ b, TLt n P (k b)) → TLt n P (.ask i j k)
theorem TLt.bind {α β : Type} {n : Nat} {P : α → Prop} {P' : β → Prop} {f : α → KasT β} {t : KasT α} (h : TLt n P t) (hf : ∀ a, P a → TLt n P' (f a)) : TLt n P' (t.bind f) := by
  induction h with
  | ret p => exact hf _ p
  | ask h1 h2 _ ih => exact .ask h1 h2 ih
def Below' (n : Nat) (p : Array Nat) : Prop := ∀ x, p.getD x 0 < n
theorem below_perm {n : Nat} {p p' : Array Nat} (h0 : 0 < n) (h : Below' n p) (hp : p'.Perm p) : Below' n p' := fun x => by
  by_cases hx : x < p'.size
  · have e : p'.getD x 0 = p'[x] := by simp [Array.getD, hx]
    rw [e]
    have hm : p'[x] ∈ p := hp.mem_iff.mp (Array.getElem_mem hx)
    obtain ⟨i, hi, e2⟩ := Array.mem_iff_getElem.mp hm
    have := h i
    have e3 : p.getD i 0 = p[i] := by simp [Array.getD, hi]
    rw [e3, e2] at this
    exact this
  · have e : p'.getD x 0 = 0 := by simp [Array.getD, hx]
    rw [e]; exact h0
theorem below_rev {n i j : Nat} {p : Array Nat} (h0 : 0 < n) (h : Below' n p) : Below' n (kas_rev p i j) := below_perm h0 h (mirror_perm ..)
theorem tlt_asc {n : Nat} {p : Array Nat} (h : Below' n p) : ∀ f m, TLt n (fun _ => True) (kas_asc p f m)
  | 0, _ => .ret trivial
  | f + 1, m => .ask (h _) (h _) fun b => by
    cases b
    · rw [if_neg (by decide)]; exact tlt_asc h f _
    · rw [if_pos rfl]; exact .ret trivial
theorem tlt_desc {n : Nat} (h0 : 0 < n) : ∀ f p m q, Below' n p → TLt n (fun r => Below' n r.1) (kas_desc f p m q)
  | 0, p, _, _, h => .ret h
  | f + 1, p, m, q, h => .ask (h _) (h _) fun b => by
    cases b
    · rw [if_neg (by decide)]
      refine .ask (h _) (h _) fun d => ?_
      cases d
      · rw [if_neg (by decide)]; exact tlt_desc h0 f _ _ _ h
      · rw [if_pos rfl]; exact .ret h
    · rw [if_pos rfl]
      split
      · exact tlt_desc h0 f _ _ _ (below_rev h0 h)
      · exact tlt_desc h0 f _ _ _ h
theorem tlt_tail3 {n m r : Nat} {p : Array Nat} (h0 : 0 < n) (h : Below' n p) : TLt n (fun r => Below' n r.2) (kas_tail3 m r p) := (tlt_asc (below_rev h0 h) _ _).bind fun _ _ => .ret (below_rev h0 h)
theorem tlt_descPart {n m r : Nat} {p : Array Nat} (h0 : 0 < n) (h : Below' n p) : TLt n (fun r => Below' n r.2) (kas_descPart m r p) := (tlt_desc h0 _ _ _ _ h).bind fun a ha => by
  split
  · exact tlt_tail3 h0 (below_rev h0 ha)
  · exact tlt_tail3 h0 ha
theorem tlt_count {n r : Nat} {p : Array Nat} (h0 : 0 < n) (h : Below' n p) : TLt n (fun r => Below' n r.2) (kas_count r p) := (tlt_asc h _ _).bind fun a _ => by
  split
  · exact .ret h
  · split
    · refine .ask (h _) (h _) fun b => ?_
      cases b
      · rw [if_neg (by decide)]; exact tlt_descPart h0 (below_rev h0 h)
      · rw [if_pos rfl]; exact .ret h
    · exact tlt_descPart h0 h
theorem tlt_place {n k : Nat} {p : Array Nat} (h : Below' n p) : ∀ f l r, TLt n (fun _ => True) (kas_place p k f l r)
  | 0, _, _ => .ret trivial
  | f + 1, l, r => by
    unfold kas_place
    split
    · exact .ret trivial
    · refine .ask (h _) (h _) fun b => ?_
      cases b
      · rw [if_neg (by decide)]; exact tlt_place h f _ _
      · rw [if_pos rfl]; exact tlt_place h f _ _
theorem tlt_bin {n : Nat} (h0 : 0 < n) : ∀ f p k, Below' n p → TLt n (Below' n) (kas_bin f p k)
  | 0, _, _, h => .ret h
  | f + 1, p, k, h => (tlt_place h _ _ _).bind fun _ _ => tlt_bin h0 f _ _ (below_perm h0 h (bubble_perm ..))
theorem tlt_sort {n : Nat} (h0 : 0 < n) : TLt n (Below' n) (kas_sort n) := by
  refine (tlt_count h0 (fun x => ?_)).bind fun a ha => ?_
  · by_cases hx : x < n
    · simp [Array.getD, hx]
    · simp [Array.getD, hx]; exact h0
  · split
    · exact tlt_bin h0 _ _ _ ha
    · exact .ret ha
/-- a tree whose questions are answered by lt -/
theorem trun_wp {α : Type} {n : Nat} {P : α → Prop} {lt : Nat → Nat → Bool} {cmp : Nat → Nat → (Bool → Shared → Prop) → Shared → Prop} {I : Shared → Prop} (hc : ∀ i j (C : Bool → Shared → Prop) s, i < n → j < n → I s → (∀ s', I s' → C (lt i j) s') → cmp i j C s)
    {t : KasT α} (h : TLt n P t) : ∀ {s : Shared} {Q : α → Shared → Prop}, I s → (∀ s', I s' → P (trun lt t) → Q (trun lt t) s') → t.kasWp cmp Q s := by
  induction h with
  | ret p => intro s Q hs hq; exact hq s hs p
  | ask h1 h2 _ ih => intro s Q hs hq; exact hc _ _ _ s h1 h2 hs fun s' hs' => ih _ hs' fun s'' hs'' hp => hq s'' hs'' hp
end Mine
end
/- Det4 -/
section
open PySem PySem.W PyProof.Rows PySem.Calls
namespace Mine
set_option maxRecDepth 100000
set_option maxHeartbeats 4000000
def tokNum : Keyed → Nat
  | (.int _ t, _) => t
  | _ => 0
/-- the sort, as a run of its decision tree: its keys come out in order, nothing is lost (read off the library's sort of whole numbers) -/
theorem sort_pure (prog : Program) (w : World) (s : Shared) {n : Nat} (h2 : 2 ≤ n) (h64 : n < 64) (key : Nat → Int) :
    (trun (fun i j => decide (key i < key j)) (kas_sort n)).toList.Perm (List.range n) ∧ ∀ i j, i ≤ j → j < n → key ((trun (fun i j => decide (key i < key j)) (kas_sort n)).getD i 0) ≤ key ((trun (fun i j => decide (key i < key j)) (kas_sort n)).getD j 0) := by
  generalize hp : trun (fun i j => decide (key i < key j)) (kas_sort n) = pr
  let vs : List Value := (List.range n).map fun i => Value.int (key i) i
  have hlen : vs.length = n := by simp [vs]
  have hget : ∀ i, i < n → vs.getD i Value.none = .int (key i) i := fun i hi => by simp [vs, hi]
  have hsz : (pairsOf vs).size = n := by rw [pairsOf_size, hlen]
  have hI : IntKeys (pairsOf vs) := fun q hq => by
    rw [pairsOf_toList] at hq
    obtain ⟨_, hm⟩ := mem_zip_self hq
    obtain ⟨i, _, e⟩ := List.mem_map.mp hm
    exact ⟨_, _, e.symm⟩
  have hst : kas_st oneType' (pairsOf vs) (List.toArray (List.range n)) = SortSt.mk' oneType' (pairsOf vs) #[] 7 none := by
    unfold kas_st
    have := kas_range (pairsOf vs)
    rw [hsz] at this
    rw [this]
  have A1 : wpAny (model prog w) callerA (sortRuns'.run (kas_st oneType' (pairsOf vs) (List.toArray (List.range n)))) (fun r s' => s' = s ∧ ((arrOf r.2).Perm (pairsOf vs) ∧ SortedTo (arrOf r.2) n)) (fun _ _ => False) s := by
    rw [hst]
    refine wpS_sortRuns (a₀ := pairsOf vs) (Q := fun _ st' => (arrOf st').Perm (pairsOf vs) ∧ SortedTo (arrOf st') n) hI ⟨Array.Perm.refl _, rfl, rfl, rfl⟩ (by omega) (by omega) (fun st' h1 _ h3 => ⟨h1, by rw [hsz] at h3; exact h3⟩)
  have A2 : wpAny (model prog w) callerA (sortRuns'.run (kas_st oneType' (pairsOf vs) (List.toArray (List.range n)))) (fun r s' => arrOf r.2 = pr.map (kas_item (pairsOf vs)) ∧ pr.size = n) (fun _ _ => False) s := by
    refine kas_runs (Q := fun _ st' _ => arrOf st' = pr.map (kas_item (pairsOf vs)) ∧ pr.size = n) (G := fun p _ => p = pr) h2 h64 (fun p' st' s' h1 h3 _ h5 => ⟨h5 ▸ h3, h5 ▸ h1⟩) ?_
    refine trun_wp (I := fun _ => True) (lt := fun i j => decide (key i < key j)) (fun i j C s hi hj _ hC => ?_) (tlt_sort (show 0 < n by omega)) trivial (fun _ _ _ => hp)
    unfold kas_cmp
    rw [kas_item_eq, kas_item_eq, hget i hi, hget j hj, keyLt'_oneType]
    exact oneLt_int (hC s trivial)
  obtain ⟨p', s', hh⟩ := wp_and _ default s (A1 _ default caller_in) (A2 _ default caller_in)
  rcases hh with ⟨⟨_, st⟩, ⟨_, hperm, hs⟩, he, hps⟩ | ⟨_, hf, _⟩
  · rw [he] at hperm hs
    have hmem : ∀ x ∈ pr.toList, x < n := fun x hx => by
      have h1 : kas_item (pairsOf vs) x ∈ pr.map (kas_item (pairsOf vs)) := Array.mem_map.mpr ⟨x, by simpa using hx, rfl⟩
      have h3 := hperm.mem_iff.mp h1
      by_cases hx' : x < n
      · exact hx'
      · rw [kas_item_eq] at h3
        have e : vs.getD x Value.none = .none := by simp [vs, hx']
        rw [e] at h3
        obtain ⟨_, _, e'⟩ := hI _ (by simpa using h3)
        cases e'
    have htok : ∀ x, x < n → tokNum (kas_item (pairsOf vs) x) = x := fun x hx => by rw [kas_item_eq, hget x hx]; rfl
    refine ⟨?_, fun i j hij hj => ?_⟩
    · have h1 : (pr.map (kas_item (pairsOf vs))).toList.Perm (pairsOf vs).toList := by simpa [Array.perm_iff_toList_perm] using hperm
      have h3 := h1.map tokNum
      have e1 : (pr.map (kas_item (pairsOf vs))).toList.map tokNum = pr.toList := by
        rw [Array.toList_map, List.map_map]
        conv => rhs; rw [← List.map_id pr.toList]
        exact List.map_congr_left fun x hx => htok x (hmem x hx)
      have e2 : (pairsOf vs).toList.map tokNum = List.range n := by
        have := kas_range (pairsOf vs)
        rw [hsz] at this
        rw [← this, Array.toList_map, List.map_map]
        conv => rhs; rw [← List.map_id (List.range n)]
        exact List.map_congr_left fun x hx => htok x (List.mem_range.mp hx)
      rw [e1, e2] at h3
      exact h3
    · have hK : ∀ i, i < n → PyProof.Rows.K (pr.map (kas_item (pairsOf vs))) i = key (pr.getD i 0) := fun i hi => by
        have hi' : i < pr.size := by omega
        have e1 : pr.getD i 0 = pr[i] := by simp [Array.getD, hi']
        have hx : pr[i] < n := hmem _ (by simp)
        unfold PyProof.Rows.K
        have e2 : (pr.map (kas_item (pairsOf vs)))[i]? = some (kas_item (pairsOf vs) pr[i]) := by simp [hi']
        rw [e2, e1, kas_item_eq, hget _ hx]
        rfl
      have := hs i j hij hj
      rw [hK i (by omega), hK j hj] at this
      exact this
  · exact hf.elim
end Mine
end
/- Sim -/
section
open PySem PySem.W PySem.W.X PyProof.Rows
namespace Mine
set_option maxRecDepth 100000
set_option maxHeartbeats 4000000

/-- what the simulator is given -/
structure SV where
  den : Code → Sem PySem.Fin
  alt : Code → Option (List (Nat × Nat) × Sem PySem.Fin)
  prog : Program
  w : World
  know : List (Addr × Obj)
  N : Nat
  G : Nat
  t0 : Nat
/-- the simulator's state: new objects, their number, tokens, new generators, the code table, the certificate, the checks, what must be apart -/
structure SS where
  T : BT
  m : Nat
  i : Nat
  gl : List GenState
  tab : Array Value
  cert : List Nat
  checks : List (Nat × Nat)
  apart : List (Nat × Nat)

def SV.old (V : SV) (a : Nat) : Option Obj := match V.know.find? (fun p => Nat.beq p.1 a) with
  | some p => some p.2
  | none => none
def SV.enter (V : SV) (c : Code) (S : SS) : Sem PySem.Fin × SS := match V.alt c with
  | some (ps, t) => (t, { S with apart := ps ++ S.apart })
  | none => (V.den c, S)

/-- an object read: certificate 0 old, 1 the table, n + 2 the new object n -/
def look (V : SV) (S : SS) (a : Nat) : Option (Obj × SS) := match S.cert with
  | [] => none
  | 0 :: r => match V.old a with
    | some o => some (o, { S with cert := r })
    | none => none
  | 1 :: r => some (tableObj S.tab, { S with cert := r, checks := (a, 46) :: S.checks })
  | (n + 2) :: r => match S.T.get n with
    | some o => some (o, { S with cert := r, checks := (a, V.N + n) :: S.checks })
    | none => none
def change (V : SV) (S : SS) (a : Nat) (f : Obj → Obj) : Option SS := match S.cert with
  | [] => none
  | 0 :: _ => none
  | 1 :: r => match tabOf (f (tableObj S.tab)) with
    | some vs => some { S with tab := vs, cert := r, checks := (a, 46) :: S.checks }
    | none => none
  | (n + 2) :: r => match S.T.get n with
    | some o => match (f o).isFreed with
      | true => none
      | false => some { S with T := S.T.set n f, cert := r, checks := (a, V.N + n) :: S.checks }
    | none => none
def genAt (V : SV) (S : SS) (g : Nat) : Option (Nat × GenState × SS) := match S.cert with
  | [] => none
  | n :: r => match S.gl[n]? with
    | some x => some (n, x, { S with cert := r, checks := (g, V.G + n) :: S.checks })
    | none => none
def SS.setG (S : SS) (j : Nat) (x : GenState) : SS := { S with gl := S.gl.set j x }

def sim (V : SV) : Nat → Ctx → Pos → Sem PySem.Fin → List Frame → SS → Option (End × SS)
  | 0, _, _, _, _, _ => none
  | n + 1, Γ, p, t, F :: fs, S => match F with
    | .gen .. => none
    | .ret k h g l c₁ p₁ kp => match sim V n (Γ.over (.ret k h g l c₁ p₁ kp :: fs)) p t [] S with
      | none => none
      | some (e, S₁) => match e with
        | .ret r => sim V n (Γ.goto c₁) p₁ (k r) fs S₁
        | .susp v g₀ l₀ k₀ c₀ p₀ fs₀ => match splitAtGen (.ret k h g l c₁ p₁ kp :: fs) with
          | none => some (.susp v g₀ l₀ k₀ c₀ p₀ (fs₀ ++ .ret k h g l c₁ p₁ kp :: fs), S₁)
          | some _ => none
  | n + 1, Γ, p, t, [], S => match t with
    | .pure fin => match fin with
      | .done f => some (.ret (.ok f), S)
      | .again c => match c.quiet with
        | true => match V.enter c S with
          | (t', S') => sim V n (Γ.goto c) p t' [] S'
        | false => none
    | .raise x => some (.ret (.error x), S)
    | .rule _ k => sim V n Γ p (k ()) [] S
    | .at q k => sim V n Γ q (k ()) [] S
    | .point _ k => sim V n Γ p (k ()) [] S
    | .ask k => sim V n Γ p (k ⟨V.prog, V.w.params⟩) [] S
    | .load a _ k => match look V S a with
      | some (o, S₁) => sim V n Γ p (k o) [] S₁
      | none => none
    | .loadIfAlive a k => match look V S a with
      | some (o, S₁) => sim V n Γ p (k (some o)) [] S₁
      | none => none
    | .update a _ f k => match change V S a f with
      | some S₁ => sim V n Γ p (k ()) [] S₁
      | none => none
    | .alloc o k => match o.isFreed with
      | true => none
      | false => match (S.T.ins S.m o).get S.m with
        | some _ => sim V n Γ p (k (V.N + S.m)) [] { S with T := S.T.ins S.m o, m := S.m + 1 }
        | none => none
    | .fresh k => sim V n Γ p (k (V.t0 + S.i)) [] { S with i := S.i + 1 }
    | .handled own k => sim V n Γ p (k (if own then Γ.own else Γ.handled)) [] S
    | .stack k => sim V n Γ p (k ((Γ.code, p) :: Γ.below)) [] S
    | .thread k => sim V n Γ p (k 0) [] S
    | .newGen c k => sim V n Γ p (k (V.G + S.gl.length)) [] { S with gl := S.gl ++ [.fresh c] }
    | .genState g k => match genAt V S g with
      | some (_, x, S₁) => sim V n Γ p (k x.seen) [] S₁
      | none => none
    | .call c h g l k => match V.enter c S with
      | (t', S') => match sim V n (Γ.enter c h p) p t' [] S' with
        | none => none
        | some (e, S₁) => match e with
          | .ret r => sim V n Γ p (k r) [] S₁
          | .susp v g₀ l₀ k₀ c₀ p₀ fs => some (.susp v g₀ l₀ k₀ c₀ p₀ (fs ++ [.ret k h g l Γ.code p []]), S₁)
    | .yield v g l k => some (.susp v g l k Γ.code p [], S)
    | .resume g r _ k => match genAt V S g with
      | none => none
      | some (j, x, S₁) => match x with
        | .fresh c => match r with
          | .send .none => match V.enter c (S₁.setG j .running) with
            | (t', S') => match sim V n (Γ.wake c p) p t' [] S' with
              | none => none
              | some (e, S₂) => match e.quiet with
                | false => none
                | true => sim V n Γ p (k e.result) [] (S₂.setG j e.genState)
          | _ => none
        | .suspended k₀ _ c₀ p₀ fs _ => match sim V n (Γ.wake c₀ p) p₀ (k₀ r) fs (S₁.setG j .running) with
            | none => none
            | some (e, S₂) => match e.quiet with
              | false => none
              | true => sim V n Γ p (k e.result) [] (S₂.setG j e.genState)
        | .running => none
        | .finished => sim V n Γ p (k .finished) [] S₁
    | _ => none

/-- where the simulator stands for a state of the machine -/
structure SRep (V : SV) (h₀ : Heap) (g₀ : Array GenState) (d : Drawn) (os : OsState) (s : Shared) (S : SS) : Prop where
  size : s.heap.objs.size = V.N + S.m
  own : ∀ i o, S.T.get i = some o → i < S.m ∧ s.heap.get? (V.N + i) = some o
  keep : ∀ b o, b ≠ 46 → h₀.get? b = some o → s.heap.get? b = some o
  tab : s.heap.get? 46 = some (tableObj S.tab)
  gens : s.gens = g₀ ++ S.gl.toArray
  toks : s.toks = V.t0 + S.i
  drawn : s.drawn = d
  os : s.os = os

/-- what holds of what the simulator is given -/
structure SOk (V : SV) (M : Model) (h₀ : Heap) (g₀ : Array GenState) : Prop where
  den : ∀ c, V.alt c = none → V.den c = M.den c
  alt : ∀ c ps t, V.alt c = some (ps, t) → (∀ p ∈ ps, p.1 ≠ p.2) → t = M.den c
  prog : M.prog = V.prog
  w : M.w = V.w
  size : h₀.objs.size = V.N
  lt : 46 < V.N
  gs : g₀.size = V.G
  know : ∀ p ∈ V.know, p.1 ≠ 46 ∧ h₀.get? p.1 = some p.2

/-- the checks and what must be apart hold -/
def SS.good (S : SS) : Prop := (∀ c ∈ S.checks, c.1 = c.2) ∧ ∀ c ∈ S.apart, c.1 ≠ c.2
/-- S has grown into S' -/
def SS.sub (S S' : SS) : Prop := (∀ c ∈ S.checks, c ∈ S'.checks) ∧ ∀ c ∈ S.apart, c ∈ S'.apart
theorem SS.sub.refl (S : SS) : S.sub S := ⟨fun _ h => h, fun _ h => h⟩
theorem SS.sub.trans {S S' S'' : SS} (a : S.sub S') (b : S'.sub S'') : S.sub S'' := ⟨fun c h => b.1 c (a.1 c h), fun c h => b.2 c (a.2 c h)⟩
theorem SS.sub.good {S S' : SS} (a : S.sub S') (g : S'.good) : S.good := ⟨fun c h => g.1 c (a.1 c h), fun c h => g.2 c (a.2 c h)⟩

theorem look_sub {V : SV} {S S₁ : SS} {a : Nat} {o : Obj} (h : look V S a = some (o, S₁)) : S.sub S₁ := by
  unfold look at h
  split at h
  · cases h
  · split at h
    · cases h; exact ⟨fun _ x => x, fun _ x => x⟩
    · cases h
  · cases h; exact ⟨fun _ x => .tail _ x, fun _ x => x⟩
  · split at h
    · cases h; exact ⟨fun _ x => .tail _ x, fun _ x => x⟩
    · cases h
theorem change_sub {V : SV} {S S₁ : SS} {a : Nat} {f : Obj → Obj} (h : change V S a f = some S₁) : S.sub S₁ := by
  unfold change at h
  split at h
  · cases h
  · cases h
  · split at h
    · cases h; exact ⟨fun _ x => .tail _ x, fun _ x => x⟩
    · cases h
  · split at h
    · split at h
      · cases h
      · cases h; exact ⟨fun _ x => .tail _ x, fun _ x => x⟩
    · cases h
theorem genAt_sub {V : SV} {S S₁ : SS} {g j : Nat} {x : GenState} (h : genAt V S g = some (j, x, S₁)) : S.sub S₁ := by
  unfold genAt at h
  split at h
  · cases h
  · split at h
    · cases h; exact ⟨fun _ x => .tail _ x, fun _ x => x⟩
    · cases h
theorem enter_sub (V : SV) (c : Code) (S : SS) : S.sub (V.enter c S).2 := by
  unfold SV.enter
  split
  · exact ⟨fun _ x => x, fun _ x => List.mem_append_right _ x⟩
  · exact .refl _
theorem enter_den {V : SV} {M : Model} {h₀ : Heap} {g₀ : Array GenState} (O : SOk V M h₀ g₀) (c : Code) (S : SS) (g : (V.enter c S).2.good) : (V.enter c S).1 = M.den c := by
  unfold SV.enter at g ⊢
  split
  · rename_i ps t h
    rw [h] at g
    exact O.alt c ps t h fun p hp => g.2 p (List.mem_append_left _ hp)
  · rename_i h
    exact O.den c h

section
variable {V : SV} {M : Model} {h₀ : Heap} {g₀ : Array GenState} {d : Drawn} {os : OsState} {s : Shared} {S S₁ : SS}
theorem look_ok (O : SOk V M h₀ g₀) (D : SRep V h₀ g₀ d os s S) {a : Nat} {o : Obj} (h : look V S a = some (o, S₁)) (g : S₁.good) : s.heap.get? a = some o ∧ SRep V h₀ g₀ d os s S₁ := by
  unfold look at h
  split at h
  · cases h
  · split at h
    · rename_i ho
      cases h
      unfold SV.old at ho
      split at ho
      · rename_i p hp
        cases ho
        have h1 := List.find?_some hp
        have h2 := List.mem_of_find?_eq_some hp
        have h3 : p.1 = a := Nat.eq_of_beq_eq_true h1
        obtain ⟨k1, k2⟩ := O.know p h2
        subst h3
        exact ⟨D.keep _ _ k1 k2, ⟨D.size, D.own, D.keep, D.tab, D.gens, D.toks, D.drawn, D.os⟩⟩
      · cases ho
    · cases h
  · cases h
    have := g.1 _ (.head _)
    dsimp only at this
    subst this
    exact ⟨D.tab, ⟨D.size, D.own, D.keep, D.tab, D.gens, D.toks, D.drawn, D.os⟩⟩
  · split at h
    · rename_i ho
      cases h
      have := g.1 _ (.head _)
      dsimp only at this
      subst this
      exact ⟨(D.own _ _ ho).2, ⟨D.size, D.own, D.keep, D.tab, D.gens, D.toks, D.drawn, D.os⟩⟩
    · cases h
theorem change_ok (O : SOk V M h₀ g₀) (D : SRep V h₀ g₀ d os s S) {a : Nat} {f : Obj → Obj} (h : change V S a f = some S₁) (g : S₁.good) :
    (s.heap.get? a).isSome = true ∧ SRep V h₀ g₀ d os { s with heap := s.heap.update a f } S₁ := by
  unfold change at h
  split at h
  · cases h
  · cases h
  · split at h
    · rename_i vs ht
      cases h
      have := g.1 _ (.head _)
      dsimp only at this
      subst this
      have hs : Heap.SameBut 46 s.heap (s.heap.update 46 f) := Heap.SameBut.update ..
      have e := tabOf_eq ht
      have ge : (s.heap.update 46 f).get? 46 = some (tableObj vs) := by
        rw [← e]
        exact Heap.get?_update_self f D.tab (by rw [e]; rfl)
      refine ⟨by rw [D.tab]; rfl, ⟨hs.1.trans D.size, fun i o hi => ?_, fun b o hb e => (hs.2 b hb).trans (D.keep b o hb e), ge, D.gens, D.toks, D.drawn, D.os⟩⟩
      have z := D.own i o hi
      exact ⟨z.1, (hs.2 _ (Nat.ne_of_gt (Nat.lt_of_lt_of_le O.lt (Nat.le_add_right _ _)))).trans z.2⟩
    · cases h
  · rename_i n r hcert
    split at h
    · rename_i o ho
      split at h
      · cases h
      · rename_i hf
        cases h
        have := g.1 _ (.head _)
        dsimp only at this
        subst this
        have z := D.own _ _ ho
        have hs : Heap.SameBut (V.N + n) s.heap (s.heap.update (V.N + n) f) := Heap.SameBut.update ..
        have ge : (s.heap.update (V.N + n) f).get? (V.N + n) = some (f o) := Heap.get?_update_self f z.2 hf
        refine ⟨by rw [z.2]; rfl, ⟨hs.1.trans D.size, fun i o' hi => ?_, fun b o' hb e => (hs.2 b (fun q => ?_)).trans (D.keep b o' hb e), (hs.2 46 (Nat.ne_of_lt (Nat.lt_of_lt_of_le O.lt (Nat.le_add_right _ _)))).trans D.tab, D.gens, D.toks, D.drawn, D.os⟩⟩
        · rw [BT.get_set] at hi
          by_cases hin : i = n
          · subst hin
            rw [if_pos rfl, ho] at hi
            cases hi
            exact ⟨z.1, ge⟩
          · rw [if_neg hin] at hi
            have y := D.own i o' hi
            exact ⟨y.1, (hs.2 _ (fun q => hin (Nat.add_left_cancel q))).trans y.2⟩
        · have z2 := Heap.lt_size e
          rw [O.size] at z2
          subst q
          exact absurd z2 (Nat.not_lt.mpr (Nat.le_add_right _ _))
    · cases h
theorem genAt_ok (O : SOk V M h₀ g₀) (D : SRep V h₀ g₀ d os s S) {g' j : Nat} {x : GenState} (h : genAt V S g' = some (j, x, S₁)) (g : S₁.good) :
    s.gens[g']? = some x ∧ g' = V.G + j ∧ SRep V h₀ g₀ d os s S₁ := by
  unfold genAt at h
  split at h
  · cases h
  · split at h
    · rename_i n r _ y hy
      cases h
      have := g.1 _ (.head _)
      dsimp only at this
      subst this
      refine ⟨?_, rfl, ⟨D.size, D.own, D.keep, D.tab, D.gens, D.toks, D.drawn, D.os⟩⟩
      rw [D.gens, ← O.gs, Array.getElem?_append_right (by omega), Nat.add_sub_cancel_left]
      simpa using hy
    · cases h
theorem setG_ok (O : SOk V M h₀ g₀) (D : SRep V h₀ g₀ d os s S) (j : Nat) (x : GenState) : SRep V h₀ g₀ d os (s.setGen (V.G + j) x) (S.setG j x) := by
  refine ⟨D.size, D.own, D.keep, D.tab, ?_, D.toks, D.drawn, D.os⟩
  show s.gens.setIfInBounds (V.G + j) x = g₀ ++ (S.gl.set j x).toArray
  rw [D.gens, ← O.gs]
  apply Array.ext_getElem?
  intro k
  rw [Array.getElem?_setIfInBounds]
  by_cases hk : g₀.size + j = k
  · subst hk
    rw [if_pos rfl, Array.getElem?_append_right (by omega), Nat.add_sub_cancel_left]
    simp only [Array.size_append, List.size_toArray, List.getElem?_toArray, List.getElem?_set]
    by_cases hj : j < S.gl.length
    · rw [if_pos (by omega)]; simp [hj]
    · rw [if_neg (by omega)]; simp [hj]
  · rw [if_neg hk]
    by_cases hlt : k < g₀.size
    · rw [Array.getElem?_append_left hlt, Array.getElem?_append_left hlt]
    · rw [Array.getElem?_append_right (by omega), Array.getElem?_append_right (by omega)]
      simp only [List.getElem?_toArray, List.getElem?_set]
      rw [if_neg (by omega)]
theorem alloc_ok (O : SOk V M h₀ g₀) (D : SRep V h₀ g₀ d os s S) {o : Obj} (hf : o.isFreed = false) (hg : ((S.T.ins S.m o).get S.m).isSome = true) :
    SRep V h₀ g₀ d os { s with heap := s.heap.push o } { S with T := S.T.ins S.m o, m := S.m + 1 } := by
  refine ⟨?_, fun i o' hi => ?_, fun b o' hb e => Heap.get?_push_of_some _ (D.keep b o' hb e), Heap.get?_push_of_some _ D.tab, D.gens, D.toks, D.drawn, D.os⟩
  · show (s.heap.push o).objs.size = _
    rw [Heap.size_push, D.size]; rfl
  · rw [BT.get_ins o S.T S.m hg] at hi
    by_cases him : i = S.m
    · subst him
      rw [if_pos rfl] at hi
      cases hi
      refine ⟨Nat.lt_succ_self _, ?_⟩
      show (s.heap.push o).get? _ = _
      rw [← D.size]; exact Heap.get?_push_size _ hf
    · rw [if_neg him] at hi
      have z := D.own i o' hi
      exact ⟨Nat.lt_succ_of_lt z.1, Heap.get?_push_of_some _ z.2⟩
end

/-- what a run of the simulator means -/
def SMeans (V : SV) (M : Model) (h₀ : Heap) (g₀ : Array GenState) (d : Drawn) (os : OsState) (Γ : Ctx) (p : Pos) (t : Sem PySem.Fin) (fs : List Frame) (S : SS) (e : End) (S' : SS) : Prop :=
  S.sub S' ∧ (S'.good → ∀ s, SRep V h₀ g₀ d os s S → ∃ s', Runs M Γ p t fs s e s' ∧ SRep V h₀ g₀ d os s' S')

theorem sim_sound {V : SV} {M : Model} {h₀ : Heap} {g₀ : Array GenState} {d : Drawn} {os : OsState} (O : SOk V M h₀ g₀) :
    ∀ (n : Nat) (Γ : Ctx) (p : Pos) (t : Sem PySem.Fin) (fs : List Frame) (S : SS) (e : End) (S' : SS), sim V n Γ p t fs S = some (e, S') → SMeans V M h₀ g₀ d os Γ p t fs S e S' := by
  intro n
  induction n with
  | zero => intro Γ p t fs S e S' h; simp [sim] at h
  | succ n ih =>
    intro Γ p t fs S e S' h
    cases fs with
    | cons F fs =>
      cases F with
      | gen => simp [sim] at h
      | ret k hd g l c₁ p₁ kp =>
        simp only [sim] at h
        split at h
        · cases h
        · rename_i e₁ S₁ h₁
          obtain ⟨a1, b1⟩ := ih _ _ _ _ _ _ _ h₁
          split at h
          · rename_i r
            obtain ⟨a2, b2⟩ := ih _ _ _ _ _ _ _ h
            refine ⟨a1.trans a2, fun g s D => ?_⟩
            obtain ⟨s₁, r1, D1⟩ := b1 (a2.good g) s D
            obtain ⟨s₂, r2, D2⟩ := b2 g s₁ D1
            exact ⟨s₂, .segRet r1 r2, D2⟩
          · split at h
            · rename_i hsp
              cases h
              refine ⟨a1, fun g s D => ?_⟩
              obtain ⟨s₁, r1, D1⟩ := b1 g s D
              exact ⟨s₁, .segSuspOut hsp r1, D1⟩
            · cases h
    | nil =>
      cases t with
      | pure fin =>
        cases fin with
        | done f =>
          simp only [sim, Option.some.injEq, Prod.mk.injEq] at h
          obtain ⟨rfl, rfl⟩ := h
          exact ⟨.refl _, fun g s D => ⟨s, .done, D⟩⟩
        | again c =>
          simp only [sim] at h
          split at h
          · rename_i hq
            obtain ⟨a, b⟩ := ih _ _ _ _ _ _ _ h
            refine ⟨(enter_sub V c S).trans a, fun g s D => ?_⟩
            have hg := a.good g
            have he := enter_den O c S hg
            obtain ⟨s', r, D'⟩ := b g s (by
              unfold SV.enter
              split
              · exact ⟨D.size, D.own, D.keep, D.tab, D.gens, D.toks, D.drawn, D.os⟩
              · exact D)
            rw [he] at r
            exact ⟨s', .again hq r, D'⟩
          · cases h
      | raise x =>
        simp only [sim, Option.some.injEq, Prod.mk.injEq] at h
        obtain ⟨rfl, rfl⟩ := h
        exact ⟨.refl _, fun g s D => ⟨s, .raise, D⟩⟩
      | rule tag k =>
        obtain ⟨a, b⟩ := ih _ _ _ _ _ _ _ (by simpa only [sim] using h)
        exact ⟨a, fun g s D => let ⟨s', r, D'⟩ := b g s D; ⟨s', .rule r, D'⟩⟩
      | «at» q k =>
        obtain ⟨a, b⟩ := ih _ _ _ _ _ _ _ (by simpa only [sim] using h)
        exact ⟨a, fun g s D => let ⟨s', r, D'⟩ := b g s D; ⟨s', .at r, D'⟩⟩
      | point l k =>
        obtain ⟨a, b⟩ := ih _ _ _ _ _ _ _ (by simpa only [sim] using h)
        exact ⟨a, fun g s D => let ⟨s', r, D'⟩ := b g s D; ⟨s', .point r, D'⟩⟩
      | ask k =>
        obtain ⟨a, b⟩ := ih _ _ _ _ _ _ _ (by simpa only [sim] using h)
        refine ⟨a, fun g s D => let ⟨s', r, D'⟩ := b g s D; ⟨s', .ask ?_, D'⟩⟩
        rw [O.prog, O.w]; exact r
      | load ad part k =>
        simp only [sim] at h
        split at h
        · rename_i o S₁ hl
          obtain ⟨a, b⟩ := ih _ _ _ _ _ _ _ h
          refine ⟨(look_sub hl).trans a, fun g s D => ?_⟩
          obtain ⟨ho, D1⟩ := look_ok O D hl (a.good g)
          obtain ⟨s', r, D'⟩ := b g s D1
          exact ⟨s', .load ho r, D'⟩
        · cases h
      | loadIfAlive ad k =>
        simp only [sim] at h
        split at h
        · rename_i o S₁ hl
          obtain ⟨a, b⟩ := ih _ _ _ _ _ _ _ h
          refine ⟨(look_sub hl).trans a, fun g s D => ?_⟩
          obtain ⟨ho, D1⟩ := look_ok O D hl (a.good g)
          obtain ⟨s', r, D'⟩ := b g s D1
          exact ⟨s', .loadIfAlive (by rw [ho]; exact r), D'⟩
        · cases h
      | update ad part f k =>
        simp only [sim] at h
        split at h
        · rename_i S₁ hc
          obtain ⟨a, b⟩ := ih _ _ _ _ _ _ _ h
          refine ⟨(change_sub hc).trans a, fun g s D => ?_⟩
          obtain ⟨ho, D1⟩ := change_ok O D hc (a.good g)
          obtain ⟨s', r, D'⟩ := b g _ D1
          exact ⟨s', .update ho r, D'⟩
        · cases h
      | alloc o k =>
        simp only [sim] at h
        split at h
        · cases h
        · rename_i hf
          split at h
          · rename_i o' hi
            obtain ⟨a, b⟩ := ih _ _ _ _ _ _ _ h
            refine ⟨⟨a.1, a.2⟩, fun g s D => ?_⟩
            have D1 := alloc_ok O D hf (by rw [hi]; rfl)
            obtain ⟨s', r, D'⟩ := b g _ D1
            refine ⟨s', .alloc ?_, D'⟩
            rw [D.size]; exact r
          · cases h
      | fresh k =>
        obtain ⟨a, b⟩ := ih _ _ _ _ _ _ _ (by simpa only [sim] using h)
        refine ⟨⟨a.1, a.2⟩, fun g s D => ?_⟩
        obtain ⟨s', r, D'⟩ := b g { s with toks := s.toks + 1 } ⟨D.size, D.own, D.keep, D.tab, D.gens, by show s.toks + 1 = _; rw [D.toks]; rfl, D.drawn, D.os⟩
        refine ⟨s', .fresh ?_, D'⟩
        rw [D.toks]
        rw [D.toks] at r
        exact r
      | handled own k =>
        obtain ⟨a, b⟩ := ih _ _ _ _ _ _ _ (by simpa only [sim] using h)
        exact ⟨a, fun g s D => let ⟨s', r, D'⟩ := b g s D; ⟨s', .handled r, D'⟩⟩
      | stack k =>
        obtain ⟨a, b⟩ := ih _ _ _ _ _ _ _ (by simpa only [sim] using h)
        exact ⟨a, fun g s D => let ⟨s', r, D'⟩ := b g s D; ⟨s', .stack r, D'⟩⟩
      | thread k =>
        obtain ⟨a, b⟩ := ih _ _ _ _ _ _ _ (by simpa only [sim] using h)
        exact ⟨a, fun g s D => let ⟨s', r, D'⟩ := b g s D; ⟨s', .thread r, D'⟩⟩
      | newGen c k =>
        obtain ⟨a, b⟩ := ih _ _ _ _ _ _ _ (by simpa only [sim] using h)
        refine ⟨⟨a.1, a.2⟩, fun g s D => ?_⟩
        have hsz : s.gens.size = V.G + S.gl.length := by rw [D.gens, Array.size_append, O.gs]; simp
        obtain ⟨s', r, D'⟩ := b g { s with gens := s.gens.push (.fresh c) } ⟨D.size, D.own, D.keep, D.tab, by
          show s.gens.push _ = _
          rw [D.gens]
          apply Array.ext'
          simp, D.toks, D.drawn, D.os⟩
        refine ⟨s', .newGen ?_, D'⟩
        rw [hsz]; exact r
      | genState g' k =>
        simp only [sim] at h
        split at h
        · rename_i j x S₁ hl
          obtain ⟨a, b⟩ := ih _ _ _ _ _ _ _ h
          refine ⟨(genAt_sub hl).trans a, fun g s D => ?_⟩
          obtain ⟨ho, _, D1⟩ := genAt_ok O D hl (a.good g)
          obtain ⟨s', r, D'⟩ := b g s D1
          exact ⟨s', .genState ho r, D'⟩
        · cases h
      | call c hd g l k =>
        simp only [sim] at h
        split at h
        · cases h
        · rename_i e₁ S₁ h₁
          obtain ⟨a1, b1⟩ := ih _ _ _ _ _ _ _ h₁
          have up : ∀ s, SRep V h₀ g₀ d os s S → SRep V h₀ g₀ d os s (V.enter c S).2 := fun s D => by
            unfold SV.enter
            split
            · exact ⟨D.size, D.own, D.keep, D.tab, D.gens, D.toks, D.drawn, D.os⟩
            · exact D
          split at h
          · rename_i r
            obtain ⟨a2, b2⟩ := ih _ _ _ _ _ _ _ h
            refine ⟨(enter_sub V c S).trans (a1.trans a2), fun g s D => ?_⟩
            have he := enter_den O c S (a1.good (a2.good g))
            obtain ⟨s₁, r1, D1⟩ := b1 (a2.good g) s (up s D)
            rw [he] at r1
            obtain ⟨s₂, r2, D2⟩ := b2 g s₁ D1
            exact ⟨s₂, .call r1 r2, D2⟩
          · cases h
            refine ⟨(enter_sub V c S).trans a1, fun g s D => ?_⟩
            have he := enter_den O c S (a1.good g)
            obtain ⟨s₁, r1, D1⟩ := b1 g s (up s D)
            rw [he] at r1
            exact ⟨s₁, .callSusp r1, D1⟩
      | yield v g l k =>
        simp only [sim, Option.some.injEq, Prod.mk.injEq] at h
        obtain ⟨rfl, rfl⟩ := h
        exact ⟨.refl _, fun g s D => ⟨s, .yield, D⟩⟩
      | resume g' r l k =>
        simp only [sim] at h
        split at h
        · cases h
        · rename_i j x S₁ hl
          split at h
          · rename_i c
            split at h
            · split at h
              · cases h
              · rename_i e₁ S₂ h₂
                obtain ⟨a1, b1⟩ := ih _ _ _ _ _ _ _ h₂
                split at h
                · cases h
                · rename_i hq
                  obtain ⟨a2, b2⟩ := ih _ _ _ _ _ _ _ h
                  have a2' : S₂.sub S' := ⟨a2.1, a2.2⟩
                  have a1' : S₁.sub S₂ := SS.sub.trans ⟨(enter_sub V c (S₁.setG j .running)).1, (enter_sub V c (S₁.setG j .running)).2⟩ a1
                  refine ⟨(genAt_sub hl).trans (a1'.trans a2'), fun g s D => ?_⟩
                  obtain ⟨ho, e2, D1⟩ := genAt_ok O D hl (a1'.good (a2'.good g))
                  subst e2
                  have he := enter_den O c (S₁.setG j .running) (a1.good (a2'.good g))
                  have D2 := setG_ok O D1 j .running
                  obtain ⟨s₁, r1, D3⟩ := b1 (a2'.good g) _ (show SRep V h₀ g₀ d os (s.setGen (V.G + j) .running) (V.enter c (S₁.setG j .running)).2 by
                    unfold SV.enter
                    split
                    · exact ⟨D2.size, D2.own, D2.keep, D2.tab, D2.gens, D2.toks, D2.drawn, D2.os⟩
                    · exact D2)
                  rw [he] at r1
                  obtain ⟨s₂, r2, D4⟩ := b2 g _ (setG_ok O D3 j e₁.genState)
                  exact ⟨s₂, .resumeFresh ho r1 hq r2, D4⟩
            · cases h
          · rename_i k₀ l₀ c₀ p₀ fs₀ cl
            split at h
            · cases h
            · rename_i e₁ S₂ h₂
              obtain ⟨a1, b1⟩ := ih _ _ _ _ _ _ _ h₂
              split at h
              · cases h
              · rename_i hq
                obtain ⟨a2, b2⟩ := ih _ _ _ _ _ _ _ h
                have a2' : S₂.sub S' := ⟨a2.1, a2.2⟩
                have a1' : S₁.sub S₂ := ⟨a1.1, a1.2⟩
                refine ⟨(genAt_sub hl).trans (a1'.trans a2'), fun g s D => ?_⟩
                obtain ⟨ho, e2, D1⟩ := genAt_ok O D hl (a1'.good (a2'.good g))
                subst e2
                obtain ⟨s₁, r1, D3⟩ := b1 (a2'.good g) _ (setG_ok O D1 j .running)
                obtain ⟨s₂, r2, D4⟩ := b2 g _ (setG_ok O D3 j e₁.genState)
                exact ⟨s₂, .resumeSuspended ho r1 hq r2, D4⟩
          · cases h
          · obtain ⟨a, b⟩ := ih _ _ _ _ _ _ _ h
            refine ⟨(genAt_sub hl).trans a, fun g s D => ?_⟩
            obtain ⟨ho, _, D1⟩ := genAt_ok O D hl (a.good g)
            obtain ⟨s', r', D'⟩ := b g s D1
            exact ⟨s', .resumeFinished ho r', D'⟩
      | _ => simp [sim] at h
end Mine
end
/- Plat0 -/
section
open PySem PySem.W PySem.W.X PyProof.Rows
namespace Mine
set_option maxRecDepth 100000
set_option maxHeartbeats 4000000
noncomputable def fastDen : Code → Sem PySem.Fin := PySem.W.Fast.tw11892475500146522536 PySem.W.Fast.tw14364793385576792824
theorem fastDen_eq : denote table = fastDen := by
  rw [table_eq_tree, PySem.W.Fast.te11892475500146522536, PySem.W.Fast.te14364793385576792824]
  rfl
/-- list.extend and list.__iadd__ upon two objects that are apart: what is left of the model's own tree, in its fast twins -/
noncomputable def extMade (self it result : Value) : { T : Sem PySem.Fin // Builtin.List.listSameRef self it = false → Builtin.List.listExtendWith self it result = T } :=
  ⟨_, fun e => by
    unfold Builtin.List.listExtendWith
    rewrite [e, PySem.W.Fast.te14684505520029207082, PySem.W.Fast.te10557518346328741659, PySem.W.Fast.te2060155186595164805, PySem.W.Fast.te8711993805878244202, PySem.W.Fast.te17359229931016689406, PySem.W.Fast.te15112759502256325868, PySem.W.Fast.te922294955767894045]
    exact rfl⟩
noncomputable def extFast (self it result : Value) : Sem PySem.Fin := (extMade self it result).1
theorem extWith_eq {a b : Addr} (h : a ≠ b) (r : Value) : Builtin.List.listExtendWith (.ref a) (.ref b) r = extFast (.ref a) (.ref b) r :=
  (extMade (.ref a) (.ref b) r).2 (by
    show (a == b) = false
    exact beq_eq_false_iff_ne.mpr h)
theorem entry_extend : entryFor table "list.extend" = some Builtin.«list.extend» := entryFor_of_tree (by kernel_rfl)
theorem entry_iadd : entryFor table "list.__iadd__" = some Builtin.«list.__iadd__» := entryFor_of_tree (by kernel_rfl)
theorem entry_replace : entryFor table "str.replace" = some Builtin.«str.replace» := entryFor_of_tree (by kernel_rfl)
theorem den_builtin {id : String} {b : Builtin} {args : Args} (h : entryFor table id = some b) : denote table (.builtin id args) = b args := by
  simp only [denote, h]
theorem den_extend {a b : Addr} (h : a ≠ b) : extFast (.ref a) (.ref b) .none = denote table (.builtin "list.extend" ⟨[.ref a, .ref b], []⟩) := by
  rw [den_builtin entry_extend, ← extWith_eq h]
  rfl
theorem den_iadd {a b : Addr} (h : a ≠ b) : extFast (.ref a) (.ref b) (.ref a) = denote table (.builtin "list.__iadd__" ⟨[.ref a, .ref b], []⟩) := by
  rw [den_builtin entry_iadd, ← extWith_eq h]
  rfl
theorem isSame_strs {o n : Str} {u v : Tok} (hu : u ≠ 0) (hv : v ≠ 0) (huv : u ≠ v) (ho : o ≠ n) : isSame (.str o u) (.str n v) = pure false := by
  have e1 : (u == 0) = false := beq_eq_false_iff_ne.mpr hu
  have e2 : (v == 0) = false := beq_eq_false_iff_ne.mpr hv
  have e3 : (u == v) = false := beq_eq_false_iff_ne.mpr huv
  have e4 : (o == n) = false := beq_eq_false_iff_ne.mpr ho
  show isSame.created (o == n) u v = pure false
  unfold isSame.created
  rw [e1, e2, e3, e4]
  rfl
/-- str.replace of exact texts whose old and new part are two objects, of other contents: what is left of the model's own tree -/
noncomputable def replMade (x o n : Str) (t u v : Tok) : { T : Sem PySem.Fin // u ≠ 0 → v ≠ 0 → u ≠ v → o ≠ n → Builtin.«str.replace» ⟨[.str x t, .str o u, .str n v], []⟩ = T } :=
  ⟨_, fun hu hv huv ho => by
    unfold Builtin.«str.replace»
    show (if ((Builtin.Str.occurrences x o 0 x.length (x.length + 1)).isEmpty || (o.length == 0 && n.length == 0)) = true then _ else isSame (.str o u) (.str n v) >>= _) = _
    rewrite [isSame_strs hu hv huv ho]
    exact rfl⟩
noncomputable def replAlt (x : Str) (t : Tok) (o : Str) (u : Tok) (n : Str) (v : Tok) : Sem PySem.Fin := (replMade x o n t u v).1
theorem den_replace {x o n : Str} {t u v : Tok} (hu : u ≠ 0) (hv : v ≠ 0) (huv : u ≠ v) (ho : o ≠ n) :
    replAlt x t o u n v = denote table (.builtin "str.replace" ⟨[.str x t, .str o u, .str n v], []⟩) := by
  rw [den_builtin entry_replace]
  exact ((replMade x o n t u v).2 hu hv huv ho).symm
noncomputable def altOf (c : Code) : Option (List (Nat × Nat) × Sem PySem.Fin) := match c with
  | .builtin id ⟨[.ref a, .ref b], []⟩ => match decide (id = "list.extend") with
    | true => some ([(a, b)], extFast (.ref a) (.ref b) .none)
    | false => match decide (id = "list.__iadd__") with
      | true => some ([(a, b)], extFast (.ref a) (.ref b) (.ref a))
      | false => none
  | .builtin id ⟨[.str x t, .str o u, .str n v], []⟩ => match decide (id = "str.replace") with
    | true => match decide (o = n) with
      | true => none
      | false => some ([(u, 0), (v, 0), (u, v)], replAlt x t o u n v)
    | false => none
  | _ => none
theorem alt_ok {c : Code} {ps : List (Nat × Nat)} {t : Sem PySem.Fin} (h : altOf c = some (ps, t)) (hp : ∀ p ∈ ps, p.1 ≠ p.2) : t = denote table c := by
  unfold altOf at h
  split at h
  · split at h
    · rename_i hd
      have := of_decide_eq_true hd
      subst this
      cases h
      exact den_extend (hp _ (.head _))
    · split at h
      · rename_i hd
        have := of_decide_eq_true hd
        subst this
        cases h
        exact den_iadd (hp _ (.head _))
      · cases h
  · split at h
    · rename_i hd
      have := of_decide_eq_true hd
      subst this
      split at h
      · cases h
      · rename_i ho
        cases h
        exact den_replace (hp _ (.head _)) (hp _ (.tail _ (.head _))) (hp _ (.tail _ (.tail _ (.head _)))) (of_decide_eq_false ho)
    · cases h
  · cases h
end Mine
end
/- Plat1 -/
section
open PySem PySem.W PySem.W.X PyProof.Rows
namespace Mine
set_option maxRecDepth 100000
set_option maxHeartbeats 4000000
/-- the twelve ways in which a system is told, and the system's name -/
def toldText : Nat → String
  | 0 => "Linux/"
  | 1 => "Linux(::"
  | 2 => " Linux "
  | 3 => "unknownLinux"
  | 4 => "Mac OS"
  | 5 => "Mac_OS;"
  | 6 => " Mac OS\\"
  | 7 => "Mac OS\""
  | 8 => "A/B"
  | 9 => "A---B"
  | 10 => "A:-B"
  | _ => "A\\(B)"
def sysName : Nat → String
  | 0 => "Linux"
  | 1 => "Mac_OS"
  | _ => "A-B"
noncomputable def wF (w : World) (b1 b2 : Bool) : World := (w.withFollow "comprehension-iter-twice" b1).withFollow "special-get-raises" b2
noncomputable def knowP (P : Params) : List (Addr × Obj) := (hd.heap_39 P).filter (fun p => !(Nat.beq p.1 46))
noncomputable def vP (w : World) (N G t0 : Nat) : SV := ⟨fastDen, altOf, therow.prog, w, knowP w.params, N, G, t0⟩
def S0 (tab : Array Value) (c : List Nat) : SS := ⟨.nil, 0, 0, [], tab, c, [], []⟩
def codeP (x : String) (t : Tok) : Code := .call (.ref 51) ⟨[.str (Str.ofString x) t], []⟩
/-- where _platform is called: the loop of the fleet, in _law_fleets, in law, from the claim's caller -/
structure Where where
  tgt : PySem.Expr
  it : Value
  bd : List Stmt
  oe : List Stmt
  env : Env
  bF : List Stmt
  eF : Env
  bL : List Stmt
  eL : Env
  p1 : Pos
  p2 : Pos
  p3 : Pos
  own : Option Value
  past : Option Value
def Where.ctx (W : Where) : Ctx := ⟨.forLoop W.tgt W.it W.bd W.oe W.env, none, W.own, [(.func W.bF W.eF, W.p1), (.func W.bL W.eL, W.p2), (.builtin "claim.caller" {}, W.p3)], W.past⟩
noncomputable def runP (w : World) (N G t0 : Nat) (x : String) (t : Tok) (tab : Array Value) (c : List Nat) (W : Where) (p : Pos) : Option (End × SS) :=
  sim (vP w N G t0) 5000 (W.ctx.enter (codeP x t) none p) p (fastDen (codeP x t)) [] (S0 tab c)
/-- what is told of a run: the text, the generators, the table, the checks as read, what must be apart -/
def tells (r : Option (End × SS)) : Option (Option Str × List GenState × Array Value × List Nat × List (Nat × Nat)) := match r with
  | some (.ret (.ok (.ret (.str x _))), S) => some (some x, S.gl, S.tab, S.checks.map (·.1), S.apart)
  | _ => none
def wants (r : Option (End × SS)) (x : String) (tab : Array Value) (ap : List (Nat × Nat)) : Option (Option Str × List GenState × Array Value × List Nat × List (Nat × Nat)) := match r with
  | some (_, S) => some (some (Str.ofString x), [.finished], tab, S.checks.map (·.2), ap)
  | none => some (none, [], #[], [], [])
def tabB (C : Addr) : Array Value := #[.int 18 0, .int 24 0, .ref C]
def cert0 : List Nat := [0, 0, 3, 3, 0, 0, 0, 0, 0, 3, 2, 2, 2, 4, 5, 5, 5, 5, 5, 5, 5, 5, 0, 0, 1, 0, 0, 6, 6, 7, 7, 7, 7, 7, 7, 7, 7, 7, 7, 7, 7, 8, 8, 8, 8, 8, 8, 7, 7, 7, 0, 0, 0, 5, 5, 5, 5, 4, 4, 4, 4, 2, 4, 4, 6, 6, 6, 8, 8, 8, 7, 7, 7, 0, 0, 0, 5, 5, 5, 5, 4, 4, 4, 4, 2, 4, 4, 10, 12, 8, 3, 3, 3, 3, 3, 3, 3, 3, 3, 3, 3, 3, 3, 3, 3, 3, 3, 3, 3, 3, 3, 3, 3, 3, 3, 3, 3, 3, 3, 3, 3, 3, 3, 3, 3, 3, 3, 13, 13, 13, 13, 3, 3, 3, 3, 3]
def apart0 (N t0 : Nat) : List (Nat × Nat) := [(t0 + 37, 0), (t0 + 38, 0), (t0 + 37, t0 + 38), (t0 + 34, 0), (t0 + 35, 0), (t0 + 34, t0 + 35), (t0 + 31, 0), (t0 + 32, 0), (t0 + 31, t0 + 32), (t0 + 28, 0), (t0 + 29, 0), (t0 + 28, t0 + 29), (t0 + 25, 0), (t0 + 26, 0), (t0 + 25, t0 + 26), (t0 + 22, 0), (t0 + 23, 0), (t0 + 22, t0 + 23), (t0 + 19, 0), (t0 + 20, 0), (t0 + 19, t0 + 20), (t0 + 16, 0), (t0 + 17, 0), (t0 + 16, t0 + 17), (t0 + 12, 0), (t0 + 13, 0), (t0 + 12, t0 + 13), (t0 + 9, 0), (t0 + 10, 0), (t0 + 9, t0 + 10), (N + 6, N + 5)]
def cert1 : List Nat := [0, 0, 3, 3, 0, 0, 0, 0, 0, 3, 2, 2, 2, 4, 5, 5, 5, 5, 5, 5, 5, 5, 0, 0, 1, 0, 0, 6, 6, 7, 7, 7, 7, 7, 7, 7, 7, 7, 7, 7, 7, 8, 8, 8, 8, 8, 8, 7, 7, 7, 0, 0, 0, 5, 5, 5, 5, 5, 5, 5, 5, 4, 4, 4, 4, 2, 4, 4, 6, 6, 6, 8, 8, 8, 7, 7, 7, 0, 0, 0, 5, 5, 5, 5, 4, 4, 4, 4, 2, 4, 4, 10, 12, 8, 3, 3, 3, 3, 3, 3, 3, 3, 3, 3, 3, 3, 3, 3, 3, 3, 3, 3, 3, 3, 3, 3, 3, 3, 3, 3, 3, 3, 3, 3, 3, 3, 3, 3, 3, 3, 3, 13, 13, 13, 13, 3, 3, 3, 3, 3]
def cert2 : List Nat := [0, 0, 3, 3, 0, 0, 0, 0, 0, 3, 2, 2, 2, 4, 5, 5, 5, 5, 5, 5, 5, 5, 0, 0, 1, 0, 0, 6, 6, 7, 7, 7, 7, 7, 7, 7, 7, 7, 7, 7, 7, 8, 8, 8, 8, 8, 8, 7, 7, 7, 0, 0, 0, 5, 5, 5, 5, 4, 4, 4, 4, 2, 4, 4, 6, 6, 6, 8, 8, 8, 7, 7, 7, 0, 0, 0, 5, 5, 5, 5, 4, 4, 4, 4, 2, 4, 4, 10, 12, 8, 3, 3, 3, 3, 3, 3, 3, 3, 3, 3, 3, 3, 3, 3, 3, 3, 3, 3, 3, 3, 3, 3, 3, 3, 3, 3, 3, 3, 3, 3, 3, 3, 3, 3, 3, 3, 3, 3, 3, 3, 3, 3, 3, 3, 3, 3, 3, 3, 3, 3, 3, 3, 3, 13, 13, 13, 13, 3, 3, 3, 3, 3]
def apart1 (N t0 : Nat) : List (Nat × Nat) := [(t0 + 48, 0), (t0 + 49, 0), (t0 + 48, t0 + 49), (t0 + 43, 0), (t0 + 44, 0), (t0 + 43, t0 + 44), (t0 + 38, 0), (t0 + 39, 0), (t0 + 38, t0 + 39), (t0 + 35, 0), (t0 + 36, 0), (t0 + 35, t0 + 36), (t0 + 32, 0), (t0 + 33, 0), (t0 + 32, t0 + 33), (t0 + 28, 0), (t0 + 29, 0), (t0 + 28, t0 + 29), (t0 + 25, 0), (t0 + 26, 0), (t0 + 25, t0 + 26), (t0 + 22, 0), (t0 + 23, 0), (t0 + 22, t0 + 23), (t0 + 18, 0), (t0 + 19, 0), (t0 + 18, t0 + 19), (t0 + 15, 0), (t0 + 16, 0), (t0 + 15, t0 + 16), (t0 + 12, 0), (t0 + 13, 0), (t0 + 12, t0 + 13), (t0 + 9, 0), (t0 + 10, 0), (t0 + 9, t0 + 10), (N + 6, N + 5)]
def cert3 : List Nat := [0, 0, 3, 3, 0, 0, 0, 0, 0, 3, 2, 2, 2, 4, 5, 5, 5, 5, 5, 5, 5, 5, 0, 0, 1, 0, 0, 6, 6, 7, 7, 7, 7, 7, 7, 7, 7, 7, 7, 7, 7, 8, 8, 8, 8, 8, 8, 7, 7, 7, 0, 0, 0, 5, 5, 5, 5, 5, 5, 5, 5, 4, 4, 4, 4, 2, 4, 4, 6, 6, 6, 8, 8, 8, 7, 7, 7, 0, 0, 0, 5, 5, 5, 5, 4, 4, 4, 4, 2, 4, 4, 10, 12, 8, 3, 3, 3, 3, 3, 3, 3, 3, 3, 3, 3, 3, 3, 3, 3, 3, 3, 3, 3, 3, 3, 3, 3, 3, 3, 3, 3, 3, 3, 3, 3, 3, 3, 3, 3, 3, 3, 3, 3, 3, 3, 3, 3, 3, 3, 3, 3, 3, 3, 3, 3, 3, 3, 13, 13, 13, 13, 3, 3, 3, 3, 3]
def cert4 : List Nat := [0, 0, 3, 3, 0, 0, 0, 0, 0, 3, 2, 2, 2, 4, 5, 5, 5, 5, 5, 5, 5, 5, 0, 0, 1, 0, 0, 6, 6, 7, 7, 7, 7, 7, 7, 7, 7, 7, 7, 7, 7, 8, 8, 8, 8, 8, 8, 7, 7, 7, 0, 0, 0, 5, 5, 5, 5, 4, 4, 4, 4, 2, 4, 4, 6, 6, 6, 8, 8, 8, 7, 7, 7, 0, 0, 0, 5, 5, 5, 5, 4, 4, 4, 4, 2, 4, 4, 10, 12, 8, 3, 3, 3, 3, 3, 3, 3, 3, 3, 3, 3, 3, 3, 3, 3, 3, 3, 3, 3, 3, 3, 3, 3, 3, 3, 3, 3, 3, 3, 3, 3, 3, 3, 3, 3, 3, 3]
def apart2 (N t0 : Nat) : List (Nat × Nat) := [(t0 + 37, 0), (t0 + 38, 0), (t0 + 37, t0 + 38), (t0 + 34, 0), (t0 + 35, 0), (t0 + 34, t0 + 35), (t0 + 31, 0), (t0 + 32, 0), (t0 + 31, t0 + 32), (t0 + 28, 0), (t0 + 29, 0), (t0 + 28, t0 + 29), (t0 + 25, 0), (t0 + 26, 0), (t0 + 25, t0 + 26), (t0 + 22, 0), (t0 + 23, 0), (t0 + 22, t0 + 23), (t0 + 19, 0), (t0 + 20, 0), (t0 + 19, t0 + 20), (t0 + 16, 0), (t0 + 17, 0), (t0 + 16, t0 + 17), (t0 + 13, 0), (t0 + 14, 0), (t0 + 13, t0 + 14), (t0 + 10, 0), (t0 + 11, 0), (t0 + 10, t0 + 11), (N + 6, N + 5)]
def cert5 : List Nat := [0, 0, 3, 3, 0, 0, 0, 0, 0, 3, 2, 2, 2, 4, 5, 5, 5, 5, 5, 5, 5, 5, 0, 0, 1, 0, 0, 6, 6, 7, 7, 7, 7, 7, 7, 7, 7, 7, 7, 7, 7, 8, 8, 8, 8, 8, 8, 7, 7, 7, 0, 0, 0, 5, 5, 5, 5, 5, 5, 5, 5, 4, 4, 4, 4, 2, 4, 4, 6, 6, 6, 8, 8, 8, 7, 7, 7, 0, 0, 0, 5, 5, 5, 5, 4, 4, 4, 4, 2, 4, 4, 10, 12, 8, 3, 3, 3, 3, 3, 3, 3, 3, 3, 3, 3, 3, 3, 3, 3, 3, 3, 3, 3, 3, 3, 3, 3, 3, 3, 3, 3, 3, 3, 3, 3, 3, 3, 3, 3, 3, 3]
def apart3 (N t0 : Nat) : List (Nat × Nat) := [(t0 + 37, 0), (t0 + 38, 0), (t0 + 37, t0 + 38), (t0 + 33, 0), (t0 + 34, 0), (t0 + 33, t0 + 34), (t0 + 30, 0), (t0 + 31, 0), (t0 + 30, t0 + 31), (t0 + 27, 0), (t0 + 28, 0), (t0 + 27, t0 + 28), (t0 + 24, 0), (t0 + 25, 0), (t0 + 24, t0 + 25), (t0 + 21, 0), (t0 + 22, 0), (t0 + 21, t0 + 22), (t0 + 18, 0), (t0 + 19, 0), (t0 + 18, t0 + 19), (t0 + 15, 0), (t0 + 16, 0), (t0 + 15, t0 + 16), (t0 + 12, 0), (t0 + 13, 0), (t0 + 12, t0 + 13), (t0 + 9, 0), (t0 + 10, 0), (t0 + 9, t0 + 10), (N + 6, N + 5)]
def apart4 (N t0 : Nat) : List (Nat × Nat) := [(t0 + 37, 0), (t0 + 38, 0), (t0 + 37, t0 + 38), (t0 + 34, 0), (t0 + 35, 0), (t0 + 34, t0 + 35), (t0 + 31, 0), (t0 + 32, 0), (t0 + 31, t0 + 32), (t0 + 28, 0), (t0 + 29, 0), (t0 + 28, t0 + 29), (t0 + 25, 0), (t0 + 26, 0), (t0 + 25, t0 + 26), (t0 + 22, 0), (t0 + 23, 0), (t0 + 22, t0 + 23), (t0 + 19, 0), (t0 + 20, 0), (t0 + 19, t0 + 20), (t0 + 16, 0), (t0 + 17, 0), (t0 + 16, t0 + 17), (t0 + 13, 0), (t0 + 14, 0), (t0 + 13, t0 + 14), (t0 + 9, 0), (t0 + 10, 0), (t0 + 9, t0 + 10), (N + 6, N + 5)]
def apart5 (N t0 : Nat) : List (Nat × Nat) := [(t0 + 37, 0), (t0 + 38, 0), (t0 + 37, t0 + 38), (t0 + 34, 0), (t0 + 35, 0), (t0 + 34, t0 + 35), (t0 + 31, 0), (t0 + 32, 0), (t0 + 31, t0 + 32), (t0 + 28, 0), (t0 + 29, 0), (t0 + 28, t0 + 29), (t0 + 25, 0), (t0 + 26, 0), (t0 + 25, t0 + 26), (t0 + 21, 0), (t0 + 22, 0), (t0 + 21, t0 + 22), (t0 + 18, 0), (t0 + 19, 0), (t0 + 18, t0 + 19), (t0 + 15, 0), (t0 + 16, 0), (t0 + 15, t0 + 16), (t0 + 12, 0), (t0 + 13, 0), (t0 + 12, t0 + 13), (t0 + 9, 0), (t0 + 10, 0), (t0 + 9, t0 + 10), (N + 6, N + 5)]
def apart6 (N t0 : Nat) : List (Nat × Nat) := [(t0 + 39, 0), (t0 + 40, 0), (t0 + 39, t0 + 40), (t0 + 36, 0), (t0 + 37, 0), (t0 + 36, t0 + 37), (t0 + 33, 0), (t0 + 34, 0), (t0 + 33, t0 + 34), (t0 + 30, 0), (t0 + 31, 0), (t0 + 30, t0 + 31), (t0 + 27, 0), (t0 + 28, 0), (t0 + 27, t0 + 28), (t0 + 24, 0), (t0 + 25, 0), (t0 + 24, t0 + 25), (t0 + 21, 0), (t0 + 22, 0), (t0 + 21, t0 + 22), (t0 + 17, 0), (t0 + 18, 0), (t0 + 17, t0 + 18), (t0 + 14, 0), (t0 + 15, 0), (t0 + 14, t0 + 15), (t0 + 10, 0), (t0 + 11, 0), (t0 + 10, t0 + 11), (N + 6, N + 5)]
def apart7 (N t0 : Nat) : List (Nat × Nat) := [(t0 + 38, 0), (t0 + 39, 0), (t0 + 38, t0 + 39), (t0 + 35, 0), (t0 + 36, 0), (t0 + 35, t0 + 36), (t0 + 32, 0), (t0 + 33, 0), (t0 + 32, t0 + 33), (t0 + 29, 0), (t0 + 30, 0), (t0 + 29, t0 + 30), (t0 + 25, 0), (t0 + 26, 0), (t0 + 25, t0 + 26), (t0 + 22, 0), (t0 + 23, 0), (t0 + 22, t0 + 23), (t0 + 19, 0), (t0 + 20, 0), (t0 + 19, t0 + 20), (t0 + 16, 0), (t0 + 17, 0), (t0 + 16, t0 + 17), (t0 + 13, 0), (t0 + 14, 0), (t0 + 13, t0 + 14), (t0 + 9, 0), (t0 + 10, 0), (t0 + 9, t0 + 10), (N + 6, N + 5)]
def cert6 : List Nat := [0, 0, 3, 3, 0, 0, 0, 0, 0, 3, 2, 2, 2, 4, 5, 5, 5, 5, 5, 5, 5, 5, 0, 0, 1, 0, 0, 6, 6, 7, 7, 7, 7, 7, 7, 7, 7, 7, 7, 7, 7, 8, 8, 8, 8, 8, 8, 7, 7, 7, 0, 0, 0, 5, 5, 5, 5, 4, 4, 4, 4, 2, 4, 4, 6, 6, 6, 8, 8, 8, 7, 7, 7, 0, 0, 0, 5, 5, 5, 5, 4, 4, 4, 4, 2, 4, 4, 10, 12, 8, 3, 3, 3, 3, 3, 3, 3, 3, 3, 3, 3, 3, 3, 3, 3, 3, 3, 3, 3, 3, 3, 3, 3, 3, 3, 3, 3, 3, 3, 3, 3, 3, 3, 3, 3, 3, 3, 3, 3, 3, 3, 3, 3, 3, 3, 3, 3, 3, 3, 3, 3, 3, 3]
def apart8 (N t0 : Nat) : List (Nat × Nat) := [(t0 + 46, 0), (t0 + 47, 0), (t0 + 46, t0 + 47), (t0 + 41, 0), (t0 + 42, 0), (t0 + 41, t0 + 42), (t0 + 36, 0), (t0 + 37, 0), (t0 + 36, t0 + 37), (t0 + 33, 0), (t0 + 34, 0), (t0 + 33, t0 + 34), (t0 + 30, 0), (t0 + 31, 0), (t0 + 30, t0 + 31), (t0 + 27, 0), (t0 + 28, 0), (t0 + 27, t0 + 28), (t0 + 24, 0), (t0 + 25, 0), (t0 + 24, t0 + 25), (t0 + 21, 0), (t0 + 22, 0), (t0 + 21, t0 + 22), (t0 + 18, 0), (t0 + 19, 0), (t0 + 18, t0 + 19), (t0 + 15, 0), (t0 + 16, 0), (t0 + 15, t0 + 16), (t0 + 12, 0), (t0 + 13, 0), (t0 + 12, t0 + 13), (t0 + 9, 0), (t0 + 10, 0), (t0 + 9, t0 + 10), (N + 6, N + 5)]
def cert7 : List Nat := [0, 0, 3, 3, 0, 0, 0, 0, 0, 3, 2, 2, 2, 4, 5, 5, 5, 5, 5, 5, 5, 5, 0, 0, 1, 0, 0, 6, 6, 7, 7, 7, 7, 7, 7, 7, 7, 7, 7, 7, 7, 8, 8, 8, 8, 8, 8, 7, 7, 7, 0, 0, 0, 5, 5, 5, 5, 5, 5, 5, 5, 4, 4, 4, 4, 2, 4, 4, 6, 6, 6, 8, 8, 8, 7, 7, 7, 0, 0, 0, 5, 5, 5, 5, 4, 4, 4, 4, 2, 4, 4, 10, 12, 8, 3, 3, 3, 3, 3, 3, 3, 3, 3, 3, 3, 3, 3, 3, 3, 3, 3, 3, 3, 3, 3, 3, 3, 3, 3, 3, 3, 3, 3, 3, 3, 3, 3, 3, 3, 3, 3, 3, 3, 3, 3, 3, 3, 3, 3, 3, 3, 3, 3, 3, 3, 3, 3]
def cert8 : List Nat := [0, 0, 3, 3, 0, 0, 0, 0, 0, 3, 2, 2, 2, 4, 5, 5, 5, 5, 5, 5, 5, 5, 0, 0, 1, 0, 0, 6, 6, 7, 7, 7, 7, 7, 7, 7, 7, 7, 7, 7, 7, 8, 8, 8, 8, 8, 8, 7, 7, 7, 0, 0, 0, 5, 5, 5, 5, 4, 4, 4, 4, 2, 4, 4, 6, 6, 6, 8, 8, 8, 7, 7, 7, 0, 0, 0, 5, 5, 5, 5, 4, 4, 4, 4, 2, 4, 4, 10, 12, 8, 3, 3, 3, 3, 3, 3, 3, 3, 3, 3, 3, 3, 3, 3, 3, 3, 3, 3, 3, 3, 3, 3, 3, 3, 3, 3, 3, 3, 3, 3, 3, 3, 3, 3, 3, 3, 3, 3, 3, 3, 3, 3, 3, 3, 3]
def apart9 (N t0 : Nat) : List (Nat × Nat) := [(t0 + 42, 0), (t0 + 43, 0), (t0 + 42, t0 + 43), (t0 + 37, 0), (t0 + 38, 0), (t0 + 37, t0 + 38), (t0 + 34, 0), (t0 + 35, 0), (t0 + 34, t0 + 35), (t0 + 31, 0), (t0 + 32, 0), (t0 + 31, t0 + 32), (t0 + 28, 0), (t0 + 29, 0), (t0 + 28, t0 + 29), (t0 + 25, 0), (t0 + 26, 0), (t0 + 25, t0 + 26), (t0 + 22, 0), (t0 + 23, 0), (t0 + 22, t0 + 23), (t0 + 18, 0), (t0 + 19, 0), (t0 + 18, t0 + 19), (t0 + 15, 0), (t0 + 16, 0), (t0 + 15, t0 + 16), (t0 + 12, 0), (t0 + 13, 0), (t0 + 12, t0 + 13), (t0 + 9, 0), (t0 + 10, 0), (t0 + 9, t0 + 10), (N + 6, N + 5)]
def cert9 : List Nat := [0, 0, 3, 3, 0, 0, 0, 0, 0, 3, 2, 2, 2, 4, 5, 5, 5, 5, 5, 5, 5, 5, 0, 0, 1, 0, 0, 6, 6, 7, 7, 7, 7, 7, 7, 7, 7, 7, 7, 7, 7, 8, 8, 8, 8, 8, 8, 7, 7, 7, 0, 0, 0, 5, 5, 5, 5, 5, 5, 5, 5, 4, 4, 4, 4, 2, 4, 4, 6, 6, 6, 8, 8, 8, 7, 7, 7, 0, 0, 0, 5, 5, 5, 5, 4, 4, 4, 4, 2, 4, 4, 10, 12, 8, 3, 3, 3, 3, 3, 3, 3, 3, 3, 3, 3, 3, 3, 3, 3, 3, 3, 3, 3, 3, 3, 3, 3, 3, 3, 3, 3, 3, 3, 3, 3, 3, 3, 3, 3, 3, 3, 3, 3, 3, 3, 3, 3, 3, 3]
def cert10 : List Nat := [0, 0, 3, 3, 0, 0, 0, 0, 0, 3, 2, 2, 2, 4, 5, 5, 5, 5, 5, 5, 5, 5, 0, 0, 1, 0, 0, 6, 6, 7, 7, 7, 7, 7, 7, 7, 7, 7, 7, 7, 7, 8, 8, 8, 8, 8, 8, 7, 7, 7, 0, 0, 0, 5, 5, 5, 5, 4, 4, 4, 4, 2, 4, 4, 6, 6, 6, 8, 8, 8, 7, 7, 7, 0, 0, 0, 5, 5, 5, 5, 4, 4, 4, 4, 2, 4, 4, 10, 12, 8, 3, 3, 3, 3, 3, 3, 3, 3, 3, 3, 3, 3, 3, 3, 3, 3, 3, 3, 3, 3, 3, 3, 3, 3, 3, 3, 3, 3, 3, 3, 3, 3, 3, 3, 3, 3, 3, 3, 3, 3, 3, 3, 3, 3, 3, 13, 13, 13, 13, 3, 3, 3, 3, 3]
def apart10 (N t0 : Nat) : List (Nat × Nat) := [(t0 + 44, 0), (t0 + 45, 0), (t0 + 44, t0 + 45), (t0 + 39, 0), (t0 + 40, 0), (t0 + 39, t0 + 40), (t0 + 36, 0), (t0 + 37, 0), (t0 + 36, t0 + 37), (t0 + 32, 0), (t0 + 33, 0), (t0 + 32, t0 + 33), (t0 + 28, 0), (t0 + 29, 0), (t0 + 28, t0 + 29), (t0 + 25, 0), (t0 + 26, 0), (t0 + 25, t0 + 26), (t0 + 22, 0), (t0 + 23, 0), (t0 + 22, t0 + 23), (t0 + 19, 0), (t0 + 20, 0), (t0 + 19, t0 + 20), (t0 + 15, 0), (t0 + 16, 0), (t0 + 15, t0 + 16), (t0 + 12, 0), (t0 + 13, 0), (t0 + 12, t0 + 13), (t0 + 9, 0), (t0 + 10, 0), (t0 + 9, t0 + 10), (N + 6, N + 5)]
def cert11 : List Nat := [0, 0, 3, 3, 0, 0, 0, 0, 0, 3, 2, 2, 2, 4, 5, 5, 5, 5, 5, 5, 5, 5, 0, 0, 1, 0, 0, 6, 6, 7, 7, 7, 7, 7, 7, 7, 7, 7, 7, 7, 7, 8, 8, 8, 8, 8, 8, 7, 7, 7, 0, 0, 0, 5, 5, 5, 5, 5, 5, 5, 5, 4, 4, 4, 4, 2, 4, 4, 6, 6, 6, 8, 8, 8, 7, 7, 7, 0, 0, 0, 5, 5, 5, 5, 4, 4, 4, 4, 2, 4, 4, 10, 12, 8, 3, 3, 3, 3, 3, 3, 3, 3, 3, 3, 3, 3, 3, 3, 3, 3, 3, 3, 3, 3, 3, 3, 3, 3, 3, 3, 3, 3, 3, 3, 3, 3, 3, 3, 3, 3, 3, 3, 3, 3, 3, 3, 3, 3, 3, 13, 13, 13, 13, 3, 3, 3, 3, 3]
def cert12 : List Nat := [0, 0, 3, 3, 0, 0, 0, 0, 0, 3, 2, 2, 2, 4, 5, 5, 5, 5, 5, 5, 5, 5, 0, 0, 1, 1, 1, 1, 0, 0, 9, 9, 10, 10, 10, 10, 10, 10, 10, 10, 10, 10, 10, 10, 11, 11, 11, 11, 11, 11, 10, 10, 10, 0, 0, 0, 5, 5, 5, 5, 4, 4, 4, 4, 2, 4, 4, 9, 9, 9, 11, 11, 11, 10, 10, 10, 0, 0, 0, 5, 5, 5, 5, 4, 4, 4, 4, 2, 4, 4, 13, 15, 11, 3, 3, 3, 3, 3, 3, 3, 3, 3, 3, 3, 3, 3, 3, 3, 3, 3, 3, 3, 3, 3, 3, 3, 3, 3, 3, 3, 3, 3, 3, 3, 3, 3, 3, 3, 3, 3, 16, 16, 16, 16, 3, 3, 3, 3, 3]
def apart11 (N t0 : Nat) : List (Nat × Nat) := [(t0 + 42, 0), (t0 + 43, 0), (t0 + 42, t0 + 43), (t0 + 39, 0), (t0 + 40, 0), (t0 + 39, t0 + 40), (t0 + 36, 0), (t0 + 37, 0), (t0 + 36, t0 + 37), (t0 + 33, 0), (t0 + 34, 0), (t0 + 33, t0 + 34), (t0 + 30, 0), (t0 + 31, 0), (t0 + 30, t0 + 31), (t0 + 26, 0), (t0 + 27, 0), (t0 + 26, t0 + 27), (t0 + 23, 0), (t0 + 24, 0), (t0 + 23, t0 + 24), (t0 + 20, 0), (t0 + 21, 0), (t0 + 20, t0 + 21), (t0 + 17, 0), (t0 + 18, 0), (t0 + 17, t0 + 18), (t0 + 14, 0), (t0 + 15, 0), (t0 + 14, t0 + 15), (N + 9, N + 8)]
def cert13 : List Nat := [0, 0, 3, 3, 0, 0, 0, 0, 0, 3, 2, 2, 2, 4, 5, 5, 5, 5, 5, 5, 5, 5, 0, 0, 1, 1, 1, 1, 0, 0, 9, 9, 10, 10, 10, 10, 10, 10, 10, 10, 10, 10, 10, 10, 11, 11, 11, 11, 11, 11, 10, 10, 10, 0, 0, 0, 5, 5, 5, 5, 5, 5, 5, 5, 4, 4, 4, 4, 2, 4, 4, 9, 9, 9, 11, 11, 11, 10, 10, 10, 0, 0, 0, 5, 5, 5, 5, 4, 4, 4, 4, 2, 4, 4, 13, 15, 11, 3, 3, 3, 3, 3, 3, 3, 3, 3, 3, 3, 3, 3, 3, 3, 3, 3, 3, 3, 3, 3, 3, 3, 3, 3, 3, 3, 3, 3, 3, 3, 3, 3, 3, 3, 3, 3, 16, 16, 16, 16, 3, 3, 3, 3, 3]
theorem runG0 (w : World) (N G t0 : Nat) (t : Tok) (C : Addr) (W : Where) (p : Pos) :
    (tells (runP (wF w true true) N G t0 "Linux/" t (tabB C) cert0 W p) = wants (runP (wF w true true) N G t0 "Linux/" t (tabB C) cert0 W p) "Linux" (tabB C) (apart0 N t0)) ∧
    (tells (runP (wF w true false) N G t0 "Linux/" t (tabB C) cert0 W p) = wants (runP (wF w true false) N G t0 "Linux/" t (tabB C) cert0 W p) "Linux" (tabB C) (apart0 N t0)) ∧
    (tells (runP (wF w false true) N G t0 "Linux/" t (tabB C) cert1 W p) = wants (runP (wF w false true) N G t0 "Linux/" t (tabB C) cert1 W p) "Linux" (tabB C) (apart0 N t0)) ∧
    (tells (runP (wF w false false) N G t0 "Linux/" t (tabB C) cert1 W p) = wants (runP (wF w false false) N G t0 "Linux/" t (tabB C) cert1 W p) "Linux" (tabB C) (apart0 N t0)) ∧
    (tells (runP (wF w true true) N G t0 "Linux(::" t (tabB C) cert2 W p) = wants (runP (wF w true true) N G t0 "Linux(::" t (tabB C) cert2 W p) "Linux" (tabB C) (apart1 N t0)) ∧
    (tells (runP (wF w true false) N G t0 "Linux(::" t (tabB C) cert2 W p) = wants (runP (wF w true false) N G t0 "Linux(::" t (tabB C) cert2 W p) "Linux" (tabB C) (apart1 N t0)) ∧
    (tells (runP (wF w false true) N G t0 "Linux(::" t (tabB C) cert3 W p) = wants (runP (wF w false true) N G t0 "Linux(::" t (tabB C) cert3 W p) "Linux" (tabB C) (apart1 N t0)) ∧
    (tells (runP (wF w false false) N G t0 "Linux(::" t (tabB C) cert3 W p) = wants (runP (wF w false false) N G t0 "Linux(::" t (tabB C) cert3 W p) "Linux" (tabB C) (apart1 N t0)) ∧
    (tells (runP (wF w true true) N G t0 " Linux " t (tabB C) cert4 W p) = wants (runP (wF w true true) N G t0 " Linux " t (tabB C) cert4 W p) "Linux" (tabB C) (apart2 N t0)) ∧
    (tells (runP (wF w true false) N G t0 " Linux " t (tabB C) cert4 W p) = wants (runP (wF w true false) N G t0 " Linux " t (tabB C) cert4 W p) "Linux" (tabB C) (apart2 N t0)) ∧
    (tells (runP (wF w false true) N G t0 " Linux " t (tabB C) cert5 W p) = wants (runP (wF w false true) N G t0 " Linux " t (tabB C) cert5 W p) "Linux" (tabB C) (apart2 N t0)) ∧
    (tells (runP (wF w false false) N G t0 " Linux " t (tabB C) cert5 W p) = wants (runP (wF w false false) N G t0 " Linux " t (tabB C) cert5 W p) "Linux" (tabB C) (apart2 N t0)) :=
  ⟨by kernel_rfl, by kernel_rfl, by kernel_rfl, by kernel_rfl, by kernel_rfl, by kernel_rfl, by kernel_rfl, by kernel_rfl, by kernel_rfl, by kernel_rfl, by kernel_rfl, by kernel_rfl⟩
theorem runPB_0_tt (w : World) (N G t0 : Nat) (t : Tok) (C : Addr) (W : Where) (p : Pos) : tells (runP (wF w true true) N G t0 "Linux/" t (tabB C) cert0 W p) = wants (runP (wF w true true) N G t0 "Linux/" t (tabB C) cert0 W p) "Linux" (tabB C) (apart0 N t0) := (runG0 w N G t0 t C W p).1
theorem runPB_0_tf (w : World) (N G t0 : Nat) (t : Tok) (C : Addr) (W : Where) (p : Pos) : tells (runP (wF w true false) N G t0 "Linux/" t (tabB C) cert0 W p) = wants (runP (wF w true false) N G t0 "Linux/" t (tabB C) cert0 W p) "Linux" (tabB C) (apart0 N t0) := (runG0 w N G t0 t C W p).2.1
theorem runPB_0_ft (w : World) (N G t0 : Nat) (t : Tok) (C : Addr) (W : Where) (p : Pos) : tells (runP (wF w false true) N G t0 "Linux/" t (tabB C) cert1 W p) = wants (runP (wF w false true) N G t0 "Linux/" t (tabB C) cert1 W p) "Linux" (tabB C) (apart0 N t0) := (runG0 w N G t0 t C W p).2.2.1
theorem runPB_0_ff (w : World) (N G t0 : Nat) (t : Tok) (C : Addr) (W : Where) (p : Pos) : tells (runP (wF w false false) N G t0 "Linux/" t (tabB C) cert1 W p) = wants (runP (wF w false false) N G t0 "Linux/" t (tabB C) cert1 W p) "Linux" (tabB C) (apart0 N t0) := (runG0 w N G t0 t C W p).2.2.2.1
theorem runPB_1_tt (w : World) (N G t0 : Nat) (t : Tok) (C : Addr) (W : Where) (p : Pos) : tells (runP (wF w true true) N G t0 "Linux(::" t (tabB C) cert2 W p) = wants (runP (wF w true true) N G t0 "Linux(::" t (tabB C) cert2 W p) "Linux" (tabB C) (apart1 N t0) := (runG0 w N G t0 t C W p).2.2.2.2.1
theorem runPB_1_tf (w : World) (N G t0 : Nat) (t : Tok) (C : Addr) (W : Where) (p : Pos) : tells (runP (wF w true false) N G t0 "Linux(::" t (tabB C) cert2 W p) = wants (runP (wF w true false) N G t0 "Linux(::" t (tabB C) cert2 W p) "Linux" (tabB C) (apart1 N t0) := (runG0 w N G t0 t C W p).2.2.2.2.2.1
theorem runPB_1_ft (w : World) (N G t0 : Nat) (t : Tok) (C : Addr) (W : Where) (p : Pos) : tells (runP (wF w false true) N G t0 "Linux(::" t (tabB C) cert3 W p) = wants (runP (wF w false true) N G t0 "Linux(::" t (tabB C) cert3 W p) "Linux" (tabB C) (apart1 N t0) := (runG0 w N G t0 t C W p).2.2.2.2.2.2.1
theorem runPB_1_ff (w : World) (N G t0 : Nat) (t : Tok) (C : Addr) (W : Where) (p : Pos) : tells (runP (wF w false false) N G t0 "Linux(::" t (tabB C) cert3 W p) = wants (runP (wF w false false) N G t0 "Linux(::" t (tabB C) cert3 W p) "Linux" (tabB C) (apart1 N t0) := (runG0 w N G t0 t C W p).2.2.2.2.2.2.2.1
theorem runPB_2_tt (w : World) (N G t0 : Nat) (t : Tok) (C : Addr) (W : Where) (p : Pos) : tells (runP (wF w true true) N G t0 " Linux " t (tabB C) cert4 W p) = wants (runP (wF w true true) N G t0 " Linux " t (tabB C) cert4 W p) "Linux" (tabB C) (apart2 N t0) := (runG0 w N G t0 t C W p).2.2.2.2.2.2.2.2.1
theorem runPB_2_tf (w : World) (N G t0 : Nat) (t : Tok) (C : Addr) (W : Where) (p : Pos) : tells (runP (wF w true false) N G t0 " Linux " t (tabB C) cert4 W p) = wants (runP (wF w true false) N G t0 " Linux " t (tabB C) cert4 W p) "Linux" (tabB C) (apart2 N t0) := (runG0 w N G t0 t C W p).2.2.2.2.2.2.2.2.2.1
theorem runPB_2_ft (w : World) (N G t0 : Nat) (t : Tok) (C : Addr) (W : Where) (p : Pos) : tells (runP (wF w false true) N G t0 " Linux " t (tabB C) cert5 W p) = wants (runP (wF w false true) N G t0 " Linux " t (tabB C) cert5 W p) "Linux" (tabB C) (apart2 N t0) := (runG0 w N G t0 t C W p).2.2.2.2.2.2.2.2.2.2.1
theorem runPB_2_ff (w : World) (N G t0 : Nat) (t : Tok) (C : Addr) (W : Where) (p : Pos) : tells (runP (wF w false false) N G t0 " Linux " t (tabB C) cert5 W p) = wants (runP (wF w false false) N G t0 " Linux " t (tabB C) cert5 W p) "Linux" (tabB C) (apart2 N t0) := (runG0 w N G t0 t C W p).2.2.2.2.2.2.2.2.2.2.2
theorem runG1 (w : World) (N G t0 : Nat) (t : Tok) (C : Addr) (W : Where) (p : Pos) :
    (tells (runP (wF w true true) N G t0 "unknownLinux" t (tabB C) cert4 W p) = wants (runP (wF w true true) N G t0 "unknownLinux" t (tabB C) cert4 W p) "Linux" (tabB C) (apart3 N t0)) ∧
    (tells (runP (wF w true false) N G t0 "unknownLinux" t (tabB C) cert4 W p) = wants (runP (wF w true false) N G t0 "unknownLinux" t (tabB C) cert4 W p) "Linux" (tabB C) (apart3 N t0)) ∧
    (tells (runP (wF w false true) N G t0 "unknownLinux" t (tabB C) cert5 W p) = wants (runP (wF w false true) N G t0 "unknownLinux" t (tabB C) cert5 W p) "Linux" (tabB C) (apart3 N t0)) ∧
    (tells (runP (wF w false false) N G t0 "unknownLinux" t (tabB C) cert5 W p) = wants (runP (wF w false false) N G t0 "unknownLinux" t (tabB C) cert5 W p) "Linux" (tabB C) (apart3 N t0)) ∧
    (tells (runP (wF w true true) N G t0 "Mac OS" t (tabB C) cert4 W p) = wants (runP (wF w true true) N G t0 "Mac OS" t (tabB C) cert4 W p) "Mac_OS" (tabB C) (apart4 N t0)) ∧
    (tells (runP (wF w true false) N G t0 "Mac OS" t (tabB C) cert4 W p) = wants (runP (wF w true false) N G t0 "Mac OS" t (tabB C) cert4 W p) "Mac_OS" (tabB C) (apart4 N t0)) ∧
    (tells (runP (wF w false true) N G t0 "Mac OS" t (tabB C) cert5 W p) = wants (runP (wF w false true) N G t0 "Mac OS" t (tabB C) cert5 W p) "Mac_OS" (tabB C) (apart4 N t0)) ∧
    (tells (runP (wF w false false) N G t0 "Mac OS" t (tabB C) cert5 W p) = wants (runP (wF w false false) N G t0 "Mac OS" t (tabB C) cert5 W p) "Mac_OS" (tabB C) (apart4 N t0)) ∧
    (tells (runP (wF w true true) N G t0 "Mac_OS;" t (tabB C) cert0 W p) = wants (runP (wF w true true) N G t0 "Mac_OS;" t (tabB C) cert0 W p) "Mac_OS" (tabB C) (apart5 N t0)) ∧
    (tells (runP (wF w true false) N G t0 "Mac_OS;" t (tabB C) cert0 W p) = wants (runP (wF w true false) N G t0 "Mac_OS;" t (tabB C) cert0 W p) "Mac_OS" (tabB C) (apart5 N t0)) ∧
    (tells (runP (wF w false true) N G t0 "Mac_OS;" t (tabB C) cert1 W p) = wants (runP (wF w false true) N G t0 "Mac_OS;" t (tabB C) cert1 W p) "Mac_OS" (tabB C) (apart5 N t0)) ∧
    (tells (runP (wF w false false) N G t0 "Mac_OS;" t (tabB C) cert1 W p) = wants (runP (wF w false false) N G t0 "Mac_OS;" t (tabB C) cert1 W p) "Mac_OS" (tabB C) (apart5 N t0)) :=
  ⟨by kernel_rfl, by kernel_rfl, by kernel_rfl, by kernel_rfl, by kernel_rfl, by kernel_rfl, by kernel_rfl, by kernel_rfl, by kernel_rfl, by kernel_rfl, by kernel_rfl, by kernel_rfl⟩
theorem runPB_3_tt (w : World) (N G t0 : Nat) (t : Tok) (C : Addr) (W : Where) (p : Pos) : tells (runP (wF w true true) N G t0 "unknownLinux" t (tabB C) cert4 W p) = wants (runP (wF w true true) N G t0 "unknownLinux" t (tabB C) cert4 W p) "Linux" (tabB C) (apart3 N t0) := (runG1 w N G t0 t C W p).1
theorem runPB_3_tf (w : World) (N G t0 : Nat) (t : Tok) (C : Addr) (W : Where) (p : Pos) : tells (runP (wF w true false) N G t0 "unknownLinux" t (tabB C) cert4 W p) = wants (runP (wF w true false) N G t0 "unknownLinux" t (tabB C) cert4 W p) "Linux" (tabB C) (apart3 N t0) := (runG1 w N G t0 t C W p).2.1
theorem runPB_3_ft (w : World) (N G t0 : Nat) (t : Tok) (C : Addr) (W : Where) (p : Pos) : tells (runP (wF w false true) N G t0 "unknownLinux" t (tabB C) cert5 W p) = wants (runP (wF w false true) N G t0 "unknownLinux" t (tabB C) cert5 W p) "Linux" (tabB C) (apart3 N t0) := (runG1 w N G t0 t C W p).2.2.1
theorem runPB_3_ff (w : World) (N G t0 : Nat) (t : Tok) (C : Addr) (W : Where) (p : Pos) : tells (runP (wF w false false) N G t0 "unknownLinux" t (tabB C) cert5 W p) = wants (runP (wF w false false) N G t0 "unknownLinux" t (tabB C) cert5 W p) "Linux" (tabB C) (apart3 N t0) := (runG1 w N G t0 t C W p).2.2.2.1
theorem runPB_4_tt (w : World) (N G t0 : Nat) (t : Tok) (C : Addr) (W : Where) (p : Pos) : tells (runP (wF w true true) N G t0 "Mac OS" t (tabB C) cert4 W p) = wants (runP (wF w true true) N G t0 "Mac OS" t (tabB C) cert4 W p) "Mac_OS" (tabB C) (apart4 N t0) := (runG1 w N G t0 t C W p).2.2.2.2.1
theorem runPB_4_tf (w : World) (N G t0 : Nat) (t : Tok) (C : Addr) (W : Where) (p : Pos) : tells (runP (wF w true false) N G t0 "Mac OS" t (tabB C) cert4 W p) = wants (runP (wF w true false) N G t0 "Mac OS" t (tabB C) cert4 W p) "Mac_OS" (tabB C) (apart4 N t0) := (runG1 w N G t0 t C W p).2.2.2.2.2.1
theorem runPB_4_ft (w : World) (N G t0 : Nat) (t : Tok) (C : Addr) (W : Where) (p : Pos) : tells (runP (wF w false true) N G t0 "Mac OS" t (tabB C) cert5 W p) = wants (runP (wF w false true) N G t0 "Mac OS" t (tabB C) cert5 W p) "Mac_OS" (tabB C) (apart4 N t0) := (runG1 w N G t0 t C W p).2.2.2.2.2.2.1
theorem runPB_4_ff (w : World) (N G t0 : Nat) (t : Tok) (C : Addr) (W : Where) (p : Pos) : tells (runP (wF w false false) N G t0 "Mac OS" t (tabB C) cert5 W p) = wants (runP (wF w false false) N G t0 "Mac OS" t (tabB C) cert5 W p) "Mac_OS" (tabB C) (apart4 N t0) := (runG1 w N G t0 t C W p).2.2.2.2.2.2.2.1
theorem runPB_5_tt (w : World) (N G t0 : Nat) (t : Tok) (C : Addr) (W : Where) (p : Pos) : tells (runP (wF w true true) N G t0 "Mac_OS;" t (tabB C) cert0 W p) = wants (runP (wF w true true) N G t0 "Mac_OS;" t (tabB C) cert0 W p) "Mac_OS" (tabB C) (apart5 N t0) := (runG1 w N G t0 t C W p).2.2.2.2.2.2.2.2.1
theorem runPB_5_tf (w : World) (N G t0 : Nat) (t : Tok) (C : Addr) (W : Where) (p : Pos) : tells (runP (wF w true false) N G t0 "Mac_OS;" t (tabB C) cert0 W p) = wants (runP (wF w true false) N G t0 "Mac_OS;" t (tabB C) cert0 W p) "Mac_OS" (tabB C) (apart5 N t0) := (runG1 w N G t0 t C W p).2.2.2.2.2.2.2.2.2.1
theorem runPB_5_ft (w : World) (N G t0 : Nat) (t : Tok) (C : Addr) (W : Where) (p : Pos) : tells (runP (wF w false true) N G t0 "Mac_OS;" t (tabB C) cert1 W p) = wants (runP (wF w false true) N G t0 "Mac_OS;" t (tabB C) cert1 W p) "Mac_OS" (tabB C) (apart5 N t0) := (runG1 w N G t0 t C W p).2.2.2.2.2.2.2.2.2.2.1
theorem runPB_5_ff (w : World) (N G t0 : Nat) (t : Tok) (C : Addr) (W : Where) (p : Pos) : tells (runP (wF w false false) N G t0 "Mac_OS;" t (tabB C) cert1 W p) = wants (runP (wF w false false) N G t0 "Mac_OS;" t (tabB C) cert1 W p) "Mac_OS" (tabB C) (apart5 N t0) := (runG1 w N G t0 t C W p).2.2.2.2.2.2.2.2.2.2.2
theorem runG2 (w : World) (N G t0 : Nat) (t : Tok) (C : Addr) (W : Where) (p : Pos) :
    (tells (runP (wF w true true) N G t0 " Mac OS\\" t (tabB C) cert0 W p) = wants (runP (wF w true true) N G t0 " Mac OS\\" t (tabB C) cert0 W p) "Mac_OS" (tabB C) (apart6 N t0)) ∧
    (tells (runP (wF w true false) N G t0 " Mac OS\\" t (tabB C) cert0 W p) = wants (runP (wF w true false) N G t0 " Mac OS\\" t (tabB C) cert0 W p) "Mac_OS" (tabB C) (apart6 N t0)) ∧
    (tells (runP (wF w false true) N G t0 " Mac OS\\" t (tabB C) cert1 W p) = wants (runP (wF w false true) N G t0 " Mac OS\\" t (tabB C) cert1 W p) "Mac_OS" (tabB C) (apart6 N t0)) ∧
    (tells (runP (wF w false false) N G t0 " Mac OS\\" t (tabB C) cert1 W p) = wants (runP (wF w false false) N G t0 " Mac OS\\" t (tabB C) cert1 W p) "Mac_OS" (tabB C) (apart6 N t0)) ∧
    (tells (runP (wF w true true) N G t0 "Mac OS\"" t (tabB C) cert0 W p) = wants (runP (wF w true true) N G t0 "Mac OS\"" t (tabB C) cert0 W p) "Mac_OS" (tabB C) (apart7 N t0)) ∧
    (tells (runP (wF w true false) N G t0 "Mac OS\"" t (tabB C) cert0 W p) = wants (runP (wF w true false) N G t0 "Mac OS\"" t (tabB C) cert0 W p) "Mac_OS" (tabB C) (apart7 N t0)) ∧
    (tells (runP (wF w false true) N G t0 "Mac OS\"" t (tabB C) cert1 W p) = wants (runP (wF w false true) N G t0 "Mac OS\"" t (tabB C) cert1 W p) "Mac_OS" (tabB C) (apart7 N t0)) ∧
    (tells (runP (wF w false false) N G t0 "Mac OS\"" t (tabB C) cert1 W p) = wants (runP (wF w false false) N G t0 "Mac OS\"" t (tabB C) cert1 W p) "Mac_OS" (tabB C) (apart7 N t0)) ∧
    (tells (runP (wF w true true) N G t0 "A/B" t (tabB C) cert4 W p) = wants (runP (wF w true true) N G t0 "A/B" t (tabB C) cert4 W p) "A-B" (tabB C) (apart0 N t0)) ∧
    (tells (runP (wF w true false) N G t0 "A/B" t (tabB C) cert4 W p) = wants (runP (wF w true false) N G t0 "A/B" t (tabB C) cert4 W p) "A-B" (tabB C) (apart0 N t0)) ∧
    (tells (runP (wF w false true) N G t0 "A/B" t (tabB C) cert5 W p) = wants (runP (wF w false true) N G t0 "A/B" t (tabB C) cert5 W p) "A-B" (tabB C) (apart0 N t0)) ∧
    (tells (runP (wF w false false) N G t0 "A/B" t (tabB C) cert5 W p) = wants (runP (wF w false false) N G t0 "A/B" t (tabB C) cert5 W p) "A-B" (tabB C) (apart0 N t0)) :=
  ⟨by kernel_rfl, by kernel_rfl, by kernel_rfl, by kernel_rfl, by kernel_rfl, by kernel_rfl, by kernel_rfl, by kernel_rfl, by kernel_rfl, by kernel_rfl, by kernel_rfl, by kernel_rfl⟩
theorem runPB_6_tt (w : World) (N G t0 : Nat) (t : Tok) (C : Addr) (W : Where) (p : Pos) : tells (runP (wF w true true) N G t0 " Mac OS\\" t (tabB C) cert0 W p) = wants (runP (wF w true true) N G t0 " Mac OS\\" t (tabB C) cert0 W p) "Mac_OS" (tabB C) (apart6 N t0) := (runG2 w N G t0 t C W p).1
theorem runPB_6_tf (w : World) (N G t0 : Nat) (t : Tok) (C : Addr) (W : Where) (p : Pos) : tells (runP (wF w true false) N G t0 " Mac OS\\" t (tabB C) cert0 W p) = wants (runP (wF w true false) N G t0 " Mac OS\\" t (tabB C) cert0 W p) "Mac_OS" (tabB C) (apart6 N t0) := (runG2 w N G t0 t C W p).2.1
theorem runPB_6_ft (w : World) (N G t0 : Nat) (t : Tok) (C : Addr) (W : Where) (p : Pos) : tells (runP (wF w false true) N G t0 " Mac OS\\" t (tabB C) cert1 W p) = wants (runP (wF w false true) N G t0 " Mac OS\\" t (tabB C) cert1 W p) "Mac_OS" (tabB C) (apart6 N t0) := (runG2 w N G t0 t C W p).2.2.1
theorem runPB_6_ff (w : World) (N G t0 : Nat) (t : Tok) (C : Addr) (W : Where) (p : Pos) : tells (runP (wF w false false) N G t0 " Mac OS\\" t (tabB C) cert1 W p) = wants (runP (wF w false false) N G t0 " Mac OS\\" t (tabB C) cert1 W p) "Mac_OS" (tabB C) (apart6 N t0) := (runG2 w N G t0 t C W p).2.2.2.1
theorem runPB_7_tt (w : World) (N G t0 : Nat) (t : Tok) (C : Addr) (W : Where) (p : Pos) : tells (runP (wF w true true) N G t0 "Mac OS\"" t (tabB C) cert0 W p) = wants (runP (wF w true true) N G t0 "Mac OS\"" t (tabB C) cert0 W p) "Mac_OS" (tabB C) (apart7 N t0) := (runG2 w N G t0 t C W p).2.2.2.2.1
theorem runPB_7_tf (w : World) (N G t0 : Nat) (t : Tok) (C : Addr) (W : Where) (p : Pos) : tells (runP (wF w true false) N G t0 "Mac OS\"" t (tabB C) cert0 W p) = wants (runP (wF w true false) N G t0 "Mac OS\"" t (tabB C) cert0 W p) "Mac_OS" (tabB C) (apart7 N t0) := (runG2 w N G t0 t C W p).2.2.2.2.2.1
theorem runPB_7_ft (w : World) (N G t0 : Nat) (t : Tok) (C : Addr) (W : Where) (p : Pos) : tells (runP (wF w false true) N G t0 "Mac OS\"" t (tabB C) cert1 W p) = wants (runP (wF w false true) N G t0 "Mac OS\"" t (tabB C) cert1 W p) "Mac_OS" (tabB C) (apart7 N t0) := (runG2 w N G t0 t C W p).2.2.2.2.2.2.1
theorem runPB_7_ff (w : World) (N G t0 : Nat) (t : Tok) (C : Addr) (W : Where) (p : Pos) : tells (runP (wF w false false) N G t0 "Mac OS\"" t (tabB C) cert1 W p) = wants (runP (wF w false false) N G t0 "Mac OS\"" t (tabB C) cert1 W p) "Mac_OS" (tabB C) (apart7 N t0) := (runG2 w N G t0 t C W p).2.2.2.2.2.2.2.1
theorem runPB_8_tt (w : World) (N G t0 : Nat) (t : Tok) (C : Addr) (W : Where) (p : Pos) : tells (runP (wF w true true) N G t0 "A/B" t (tabB C) cert4 W p) = wants (runP (wF w true true) N G t0 "A/B" t (tabB C) cert4 W p) "A-B" (tabB C) (apart0 N t0) := (runG2 w N G t0 t C W p).2.2.2.2.2.2.2.2.1
theorem runPB_8_tf (w : World) (N G t0 : Nat) (t : Tok) (C : Addr) (W : Where) (p : Pos) : tells (runP (wF w true false) N G t0 "A/B" t (tabB C) cert4 W p) = wants (runP (wF w true false) N G t0 "A/B" t (tabB C) cert4 W p) "A-B" (tabB C) (apart0 N t0) := (runG2 w N G t0 t C W p).2.2.2.2.2.2.2.2.2.1
theorem runPB_8_ft (w : World) (N G t0 : Nat) (t : Tok) (C : Addr) (W : Where) (p : Pos) : tells (runP (wF w false true) N G t0 "A/B" t (tabB C) cert5 W p) = wants (runP (wF w false true) N G t0 "A/B" t (tabB C) cert5 W p) "A-B" (tabB C) (apart0 N t0) := (runG2 w N G t0 t C W p).2.2.2.2.2.2.2.2.2.2.1
theorem runPB_8_ff (w : World) (N G t0 : Nat) (t : Tok) (C : Addr) (W : Where) (p : Pos) : tells (runP (wF w false false) N G t0 "A/B" t (tabB C) cert5 W p) = wants (runP (wF w false false) N G t0 "A/B" t (tabB C) cert5 W p) "A-B" (tabB C) (apart0 N t0) := (runG2 w N G t0 t C W p).2.2.2.2.2.2.2.2.2.2.2
theorem runG3 (w : World) (N G t0 : Nat) (t : Tok) (C : Addr) (W : Where) (p : Pos) :
    (tells (runP (wF w true true) N G t0 "A---B" t (tabB C) cert6 W p) = wants (runP (wF w true true) N G t0 "A---B" t (tabB C) cert6 W p) "A-B" (tabB C) (apart8 N t0)) ∧
    (tells (runP (wF w true false) N G t0 "A---B" t (tabB C) cert6 W p) = wants (runP (wF w true false) N G t0 "A---B" t (tabB C) cert6 W p) "A-B" (tabB C) (apart8 N t0)) ∧
    (tells (runP (wF w false true) N G t0 "A---B" t (tabB C) cert7 W p) = wants (runP (wF w false true) N G t0 "A---B" t (tabB C) cert7 W p) "A-B" (tabB C) (apart8 N t0)) ∧
    (tells (runP (wF w false false) N G t0 "A---B" t (tabB C) cert7 W p) = wants (runP (wF w false false) N G t0 "A---B" t (tabB C) cert7 W p) "A-B" (tabB C) (apart8 N t0)) ∧
    (tells (runP (wF w true true) N G t0 "A:-B" t (tabB C) cert8 W p) = wants (runP (wF w true true) N G t0 "A:-B" t (tabB C) cert8 W p) "A-B" (tabB C) (apart9 N t0)) ∧
    (tells (runP (wF w true false) N G t0 "A:-B" t (tabB C) cert8 W p) = wants (runP (wF w true false) N G t0 "A:-B" t (tabB C) cert8 W p) "A-B" (tabB C) (apart9 N t0)) ∧
    (tells (runP (wF w false true) N G t0 "A:-B" t (tabB C) cert9 W p) = wants (runP (wF w false true) N G t0 "A:-B" t (tabB C) cert9 W p) "A-B" (tabB C) (apart9 N t0)) ∧
    (tells (runP (wF w false false) N G t0 "A:-B" t (tabB C) cert9 W p) = wants (runP (wF w false false) N G t0 "A:-B" t (tabB C) cert9 W p) "A-B" (tabB C) (apart9 N t0)) ∧
    (tells (runP (wF w true true) N G t0 "A\\(B)" t (tabB C) cert10 W p) = wants (runP (wF w true true) N G t0 "A\\(B)" t (tabB C) cert10 W p) "A-B" (tabB C) (apart10 N t0)) ∧
    (tells (runP (wF w true false) N G t0 "A\\(B)" t (tabB C) cert10 W p) = wants (runP (wF w true false) N G t0 "A\\(B)" t (tabB C) cert10 W p) "A-B" (tabB C) (apart10 N t0)) ∧
    (tells (runP (wF w false true) N G t0 "A\\(B)" t (tabB C) cert11 W p) = wants (runP (wF w false true) N G t0 "A\\(B)" t (tabB C) cert11 W p) "A-B" (tabB C) (apart10 N t0)) ∧
    (tells (runP (wF w false false) N G t0 "A\\(B)" t (tabB C) cert11 W p) = wants (runP (wF w false false) N G t0 "A\\(B)" t (tabB C) cert11 W p) "A-B" (tabB C) (apart10 N t0)) :=
  ⟨by kernel_rfl, by kernel_rfl, by kernel_rfl, by kernel_rfl, by kernel_rfl, by kernel_rfl, by kernel_rfl, by kernel_rfl, by kernel_rfl, by kernel_rfl, by kernel_rfl, by kernel_rfl⟩
theorem runPB_9_tt (w : World) (N G t0 : Nat) (t : Tok) (C : Addr) (W : Where) (p : Pos) : tells (runP (wF w true true) N G t0 "A---B" t (tabB C) cert6 W p) = wants (runP (wF w true true) N G t0 "A---B" t (tabB C) cert6 W p) "A-B" (tabB C) (apart8 N t0) := (runG3 w N G t0 t C W p).1
theorem runPB_9_tf (w : World) (N G t0 : Nat) (t : Tok) (C : Addr) (W : Where) (p : Pos) : tells (runP (wF w true false) N G t0 "A---B" t (tabB C) cert6 W p) = wants (runP (wF w true false) N G t0 "A---B" t (tabB C) cert6 W p) "A-B" (tabB C) (apart8 N t0) := (runG3 w N G t0 t C W p).2.1
theorem runPB_9_ft (w : World) (N G t0 : Nat) (t : Tok) (C : Addr) (W : Where) (p : Pos) : tells (runP (wF w false true) N G t0 "A---B" t (tabB C) cert7 W p) = wants (runP (wF w false true) N G t0 "A---B" t (tabB C) cert7 W p) "A-B" (tabB C) (apart8 N t0) := (runG3 w N G t0 t C W p).2.2.1
theorem runPB_9_ff (w : World) (N G t0 : Nat) (t : Tok) (C : Addr) (W : Where) (p : Pos) : tells (runP (wF w false false) N G t0 "A---B" t (tabB C) cert7 W p) = wants (runP (wF w false false) N G t0 "A---B" t (tabB C) cert7 W p) "A-B" (tabB C) (apart8 N t0) := (runG3 w N G t0 t C W p).2.2.2.1
theorem runPB_10_tt (w : World) (N G t0 : Nat) (t : Tok) (C : Addr) (W : Where) (p : Pos) : tells (runP (wF w true true) N G t0 "A:-B" t (tabB C) cert8 W p) = wants (runP (wF w true true) N G t0 "A:-B" t (tabB C) cert8 W p) "A-B" (tabB C) (apart9 N t0) := (runG3 w N G t0 t C W p).2.2.2.2.1
theorem runPB_10_tf (w : World) (N G t0 : Nat) (t : Tok) (C : Addr) (W : Where) (p : Pos) : tells (runP (wF w true false) N G t0 "A:-B" t (tabB C) cert8 W p) = wants (runP (wF w true false) N G t0 "A:-B" t (tabB C) cert8 W p) "A-B" (tabB C) (apart9 N t0) := (runG3 w N G t0 t C W p).2.2.2.2.2.1
theorem runPB_10_ft (w : World) (N G t0 : Nat) (t : Tok) (C : Addr) (W : Where) (p : Pos) : tells (runP (wF w false true) N G t0 "A:-B" t (tabB C) cert9 W p) = wants (runP (wF w false true) N G t0 "A:-B" t (tabB C) cert9 W p) "A-B" (tabB C) (apart9 N t0) := (runG3 w N G t0 t C W p).2.2.2.2.2.2.1
theorem runPB_10_ff (w : World) (N G t0 : Nat) (t : Tok) (C : Addr) (W : Where) (p : Pos) : tells (runP (wF w false false) N G t0 "A:-B" t (tabB C) cert9 W p) = wants (runP (wF w false false) N G t0 "A:-B" t (tabB C) cert9 W p) "A-B" (tabB C) (apart9 N t0) := (runG3 w N G t0 t C W p).2.2.2.2.2.2.2.1
theorem runPB_11_tt (w : World) (N G t0 : Nat) (t : Tok) (C : Addr) (W : Where) (p : Pos) : tells (runP (wF w true true) N G t0 "A\\(B)" t (tabB C) cert10 W p) = wants (runP (wF w true true) N G t0 "A\\(B)" t (tabB C) cert10 W p) "A-B" (tabB C) (apart10 N t0) := (runG3 w N G t0 t C W p).2.2.2.2.2.2.2.2.1
theorem runPB_11_tf (w : World) (N G t0 : Nat) (t : Tok) (C : Addr) (W : Where) (p : Pos) : tells (runP (wF w true false) N G t0 "A\\(B)" t (tabB C) cert10 W p) = wants (runP (wF w true false) N G t0 "A\\(B)" t (tabB C) cert10 W p) "A-B" (tabB C) (apart10 N t0) := (runG3 w N G t0 t C W p).2.2.2.2.2.2.2.2.2.1
theorem runPB_11_ft (w : World) (N G t0 : Nat) (t : Tok) (C : Addr) (W : Where) (p : Pos) : tells (runP (wF w false true) N G t0 "A\\(B)" t (tabB C) cert11 W p) = wants (runP (wF w false true) N G t0 "A\\(B)" t (tabB C) cert11 W p) "A-B" (tabB C) (apart10 N t0) := (runG3 w N G t0 t C W p).2.2.2.2.2.2.2.2.2.2.1
theorem runPB_11_ff (w : World) (N G t0 : Nat) (t : Tok) (C : Addr) (W : Where) (p : Pos) : tells (runP (wF w false false) N G t0 "A\\(B)" t (tabB C) cert11 W p) = wants (runP (wF w false false) N G t0 "A\\(B)" t (tabB C) cert11 W p) "A-B" (tabB C) (apart10 N t0) := (runG3 w N G t0 t C W p).2.2.2.2.2.2.2.2.2.2.2
theorem runG4 (w : World) (N G t0 : Nat) (t : Tok) (W : Where) (p : Pos) :
    (tells (runP (wF w true true) N G t0 "Mac_OS;" t #[] cert12 W p) = wants (runP (wF w true true) N G t0 "Mac_OS;" t #[] cert12 W p) "Mac_OS" (tabB (N + 6)) (apart11 N t0)) ∧
    (tells (runP (wF w true false) N G t0 "Mac_OS;" t #[] cert12 W p) = wants (runP (wF w true false) N G t0 "Mac_OS;" t #[] cert12 W p) "Mac_OS" (tabB (N + 6)) (apart11 N t0)) ∧
    (tells (runP (wF w false true) N G t0 "Mac_OS;" t #[] cert13 W p) = wants (runP (wF w false true) N G t0 "Mac_OS;" t #[] cert13 W p) "Mac_OS" (tabB (N + 6)) (apart11 N t0)) ∧
    (tells (runP (wF w false false) N G t0 "Mac_OS;" t #[] cert13 W p) = wants (runP (wF w false false) N G t0 "Mac_OS;" t #[] cert13 W p) "Mac_OS" (tabB (N + 6)) (apart11 N t0)) :=
  ⟨by kernel_rfl, by kernel_rfl, by kernel_rfl, by kernel_rfl⟩
theorem runPA_5_tt (w : World) (N G t0 : Nat) (t : Tok) (W : Where) (p : Pos) : tells (runP (wF w true true) N G t0 "Mac_OS;" t #[] cert12 W p) = wants (runP (wF w true true) N G t0 "Mac_OS;" t #[] cert12 W p) "Mac_OS" (tabB (N + 6)) (apart11 N t0) := (runG4 w N G t0 t W p).1
theorem runPA_5_tf (w : World) (N G t0 : Nat) (t : Tok) (W : Where) (p : Pos) : tells (runP (wF w true false) N G t0 "Mac_OS;" t #[] cert12 W p) = wants (runP (wF w true false) N G t0 "Mac_OS;" t #[] cert12 W p) "Mac_OS" (tabB (N + 6)) (apart11 N t0) := (runG4 w N G t0 t W p).2.1
theorem runPA_5_ft (w : World) (N G t0 : Nat) (t : Tok) (W : Where) (p : Pos) : tells (runP (wF w false true) N G t0 "Mac_OS;" t #[] cert13 W p) = wants (runP (wF w false true) N G t0 "Mac_OS;" t #[] cert13 W p) "Mac_OS" (tabB (N + 6)) (apart11 N t0) := (runG4 w N G t0 t W p).2.2.1
theorem runPA_5_ff (w : World) (N G t0 : Nat) (t : Tok) (W : Where) (p : Pos) : tells (runP (wF w false false) N G t0 "Mac_OS;" t #[] cert13 W p) = wants (runP (wF w false false) N G t0 "Mac_OS;" t #[] cert13 W p) "Mac_OS" (tabB (N + 6)) (apart11 N t0) := (runG4 w N G t0 t W p).2.2.2
end Mine
end
/- Plat2 -/
section
open PySem PySem.W PySem.W.X PyProof.Rows
namespace Mine
set_option maxRecDepth 100000
set_option maxHeartbeats 4000000
def allNe : List (Nat × Nat) → Prop
  | [] => True
  | p :: l => p.1 ≠ p.2 ∧ allNe l
theorem allNe_mem : ∀ {l : List (Nat × Nat)}, allNe l → ∀ p ∈ l, p.1 ≠ p.2
  | _ :: _, h, _, .head _ => h.1
  | _ :: _, h, _, .tail _ m => allNe_mem h.2 _ m
theorem map_eq_all {l : List (Nat × Nat)} (h : l.map (·.1) = l.map (·.2)) : ∀ c ∈ l, c.1 = c.2 := by
  induction l with
  | nil => intro c hc; cases hc
  | cons x l ih =>
    simp only [List.map_cons, List.cons.injEq] at h
    intro c hc
    rcases List.mem_cons.mp hc with rfl | hc
    · exact h.1
    · exact ih h.2 c hc
theorem lookup_mem_nodup {β : Type} : ∀ {l : List (Nat × β)} {p : Nat × β}, (l.map (·.1)).Nodup → p ∈ l → l.lookup p.1 = some p.2
  | q :: l, p, hn, hm => by
    rw [List.map_cons, List.nodup_cons] at hn
    rcases List.mem_cons.mp hm with rfl | hm
    · simp [List.lookup]
    · have hne : (p.1 == q.1) = false := beq_eq_false_iff_ne.mpr fun e => hn.1 (e ▸ List.mem_map_of_mem hm)
      rw [List.lookup, hne]
      exact lookup_mem_nodup hn.2 hm
theorem nd (P : Params) : ((hd.heap_39 P).map (·.1)).Nodup := of_decide_eq_true (by kernel_rfl)
/-- the objects that the runs look at -/
abbrev KnowIn (w : World) (h : Heap) : Prop := ∀ p ∈ knowP w.params, h.get? p.1 = some p.2
theorem knowIn_of {w : World} {h h' : Heap} (KX : (hd.heap_39 w.params).In h) (k : ∀ b o, b ≠ 46 → h.get? b = some o → h'.get? b = some o) : KnowIn w h' := fun p hp => by
  have hp' := List.mem_filter.mp hp
  refine k _ _ (fun e => ?_) (KX p.1 p.2 (lookup_mem_nodup (nd _) hp'.1))
  have := hp'.2
  rw [e] at this
  cases this
/-- the state behind a call of _platform -/
structure PlatOut (s s' : Shared) (tab' : Array Value) : Prop where
  keep : ∀ b o, b ≠ 46 → s.heap.get? b = some o → s'.heap.get? b = some o
  tab : s'.heap.get? 46 = some (tableObj tab')
  gens : s'.gens = s.gens.push .finished
  drawn : s'.drawn = s.drawn
  os : s'.os = s.os
  size : s.heap.objs.size ≤ s'.heap.objs.size
theorem ok_of {w : World} {s : Shared} (KX : KnowIn w s.heap) (hlt : 46 < s.heap.objs.size) :
    SOk (vP w s.heap.objs.size s.gens.size s.toks) (model therow.prog w) s.heap s.gens where
  den := fun c _ => by show fastDen c = denote table c; rw [fastDen_eq]
  alt := fun c ps t h hp => alt_ok h hp
  prog := rfl
  w := rfl
  size := rfl
  lt := hlt
  gs := rfl
  know := fun p hp => by
    have hp' := List.mem_filter.mp hp
    refine ⟨fun e => ?_, KX p hp⟩
    · have := hp'.2
      rw [e] at this
      cases this

theorem nil_own {P : Nat → Obj → Prop} : ∀ (i : Nat) (o : Obj), BT.nil.get i = some o → P i o := fun i o hi => by
  have h : (BT.nil.get i) = none := by cases i <;> rfl
  rw [h] at hi
  cases hi
theorem use_run {w : World} {s : Shared} {x name : String} {t : Tok} {tab tab' : Array Value} {c : List Nat} {W : Where} {p : Pos} {ap : List (Nat × Nat)}
    (KX : KnowIn w s.heap) (ht : s.heap.get? 46 = some (tableObj tab))
    (h : tells (runP w s.heap.objs.size s.gens.size s.toks x t tab c W p) = wants (runP w s.heap.objs.size s.gens.size s.toks x t tab c W p) name tab' ap) (ha : allNe ap) :
    ∃ tk s', Returns (model therow.prog w) (W.ctx.enter (codeP x t) none p) p s (.ok (.ret (.str (Str.ofString name) tk))) s' ∧ PlatOut s s' tab' := by
  have hlt : 46 < s.heap.objs.size := Heap.lt_size ht
  have O := ok_of KX hlt
  cases hr : runP w s.heap.objs.size s.gens.size s.toks x t tab c W p with
  | none => rw [hr] at h; simp [tells, wants] at h
  | some r =>
    obtain ⟨e, S⟩ := r
    rw [hr] at h
    unfold tells wants at h
    dsimp only at h
    split at h
    · rename_i y tk S₁ heq
      simp only [Option.some.injEq, Prod.mk.injEq] at heq h
      obtain ⟨rfl, rfl⟩ := heq
      obtain ⟨e1, e2, e3, e4, e5⟩ := h
      subst e1
      obtain ⟨_, b⟩ := sim_sound (d := s.drawn) (os := s.os) O _ _ _ _ _ _ _ _ hr
      obtain ⟨s', r, D⟩ := b ⟨map_eq_all e4, by rw [e5]; exact allNe_mem ha⟩ s ⟨rfl, nil_own, fun _ _ _ e => e, ht, (by show s.gens = s.gens ++ #[]; simp), rfl, rfl, rfl⟩
      refine ⟨tk, s', ?_, ⟨D.keep, by rw [← e3]; exact D.tab, ?_, D.drawn, D.os, ?_⟩⟩
      · unfold Returns
        rw [← fastDen_eq] at r
        exact r
      · rw [D.gens, e2]
        apply Array.ext'
        simp
      · rw [D.size]; exact Nat.le_add_right _ _
    · simp at h

theorem of_follow {P : World → Prop} (w : World) (h : ∀ b1 b2, P (wF w b1 b2)) : P w := by
  have e1 : w.withFollow "comprehension-iter-twice" (w.params.followText "comprehension-iter-twice") = w := World.withFollow_self w _
  have e2 : w.withFollow "special-get-raises" (w.params.followText "special-get-raises") = w := World.withFollow_self w _
  have e := h (w.params.followText "comprehension-iter-twice") (w.params.followText "special-get-raises")
  unfold wF at e
  rw [e1, e2] at e
  exact e
theorem apart0_ne (N t0 : Nat) : allNe (apart0 N t0) := by
  simp only [apart0, allNe]
  repeat' (first | exact True.intro | refine And.intro ?_ ?_ | omega)
theorem apart1_ne (N t0 : Nat) : allNe (apart1 N t0) := by
  simp only [apart1, allNe]
  repeat' (first | exact True.intro | refine And.intro ?_ ?_ | omega)
theorem apart2_ne (N t0 : Nat) : allNe (apart2 N t0) := by
  simp only [apart2, allNe]
  repeat' (first | exact True.intro | refine And.intro ?_ ?_ | omega)
theorem apart3_ne (N t0 : Nat) : allNe (apart3 N t0) := by
  simp only [apart3, allNe]
  repeat' (first | exact True.intro | refine And.intro ?_ ?_ | omega)
theorem apart4_ne (N t0 : Nat) : allNe (apart4 N t0) := by
  simp only [apart4, allNe]
  repeat' (first | exact True.intro | refine And.intro ?_ ?_ | omega)
theorem apart5_ne (N t0 : Nat) : allNe (apart5 N t0) := by
  simp only [apart5, allNe]
  repeat' (first | exact True.intro | refine And.intro ?_ ?_ | omega)
theorem apart6_ne (N t0 : Nat) : allNe (apart6 N t0) := by
  simp only [apart6, allNe]
  repeat' (first | exact True.intro | refine And.intro ?_ ?_ | omega)
theorem apart7_ne (N t0 : Nat) : allNe (apart7 N t0) := by
  simp only [apart7, allNe]
  repeat' (first | exact True.intro | refine And.intro ?_ ?_ | omega)
theorem apart8_ne (N t0 : Nat) : allNe (apart8 N t0) := by
  simp only [apart8, allNe]
  repeat' (first | exact True.intro | refine And.intro ?_ ?_ | omega)
theorem apart9_ne (N t0 : Nat) : allNe (apart9 N t0) := by
  simp only [apart9, allNe]
  repeat' (first | exact True.intro | refine And.intro ?_ ?_ | omega)
theorem apart10_ne (N t0 : Nat) : allNe (apart10 N t0) := by
  simp only [apart10, allNe]
  repeat' (first | exact True.intro | refine And.intro ?_ ?_ | omega)
theorem apart11_ne (N t0 : Nat) : allNe (apart11 N t0) := by
  simp only [apart11, allNe]
  repeat' (first | exact True.intro | refine And.intro ?_ ?_ | omega)
/-- _platform where its code stands in the table already -/
theorem platB {s : Shared} {W : Where} {p : Pos} {t : Tok} {C : Addr} (w : World) (j : Nat) (hj : j < 12) (KX : KnowIn w s.heap) (ht : s.heap.get? 46 = some (tableObj (tabB C))) :
    ∃ tk s', Returns (model therow.prog w) (W.ctx.enter (codeP (toldText j) t) none p) p s (.ok (.ret (.str (Str.ofString (sysName (j / 4))) tk))) s' ∧ PlatOut s s' (tabB C) := by
  refine of_follow (P := fun w => KnowIn w s.heap → ∃ tk s', Returns (model therow.prog w) (W.ctx.enter (codeP (toldText j) t) none p) p s (.ok (.ret (.str (Str.ofString (sysName (j / 4))) tk))) s' ∧ PlatOut s s' (tabB C)) w (fun b1 b2 KX => ?_) KX
  obtain rfl | rfl | rfl | rfl | rfl | rfl | rfl | rfl | rfl | rfl | rfl | rfl : j = 0 ∨ j = 1 ∨ j = 2 ∨ j = 3 ∨ j = 4 ∨ j = 5 ∨ j = 6 ∨ j = 7 ∨ j = 8 ∨ j = 9 ∨ j = 10 ∨ j = 11 := by omega
  · cases b1 <;> cases b2
    · exact use_run KX ht (runPB_0_ff ..) (apart0_ne ..)
    · exact use_run KX ht (runPB_0_ft ..) (apart0_ne ..)
    · exact use_run KX ht (runPB_0_tf ..) (apart0_ne ..)
    · exact use_run KX ht (runPB_0_tt ..) (apart0_ne ..)
  · cases b1 <;> cases b2
    · exact use_run KX ht (runPB_1_ff ..) (apart1_ne ..)
    · exact use_run KX ht (runPB_1_ft ..) (apart1_ne ..)
    · exact use_run KX ht (runPB_1_tf ..) (apart1_ne ..)
    · exact use_run KX ht (runPB_1_tt ..) (apart1_ne ..)
  · cases b1 <;> cases b2
    · exact use_run KX ht (runPB_2_ff ..) (apart2_ne ..)
    · exact use_run KX ht (runPB_2_ft ..) (apart2_ne ..)
    · exact use_run KX ht (runPB_2_tf ..) (apart2_ne ..)
    · exact use_run KX ht (runPB_2_tt ..) (apart2_ne ..)
  · cases b1 <;> cases b2
    · exact use_run KX ht (runPB_3_ff ..) (apart3_ne ..)
    · exact use_run KX ht (runPB_3_ft ..) (apart3_ne ..)
    · exact use_run KX ht (runPB_3_tf ..) (apart3_ne ..)
    · exact use_run KX ht (runPB_3_tt ..) (apart3_ne ..)
  · cases b1 <;> cases b2
    · exact use_run KX ht (runPB_4_ff ..) (apart4_ne ..)
    · exact use_run KX ht (runPB_4_ft ..) (apart4_ne ..)
    · exact use_run KX ht (runPB_4_tf ..) (apart4_ne ..)
    · exact use_run KX ht (runPB_4_tt ..) (apart4_ne ..)
  · cases b1 <;> cases b2
    · exact use_run KX ht (runPB_5_ff ..) (apart5_ne ..)
    · exact use_run KX ht (runPB_5_ft ..) (apart5_ne ..)
    · exact use_run KX ht (runPB_5_tf ..) (apart5_ne ..)
    · exact use_run KX ht (runPB_5_tt ..) (apart5_ne ..)
  · cases b1 <;> cases b2
    · exact use_run KX ht (runPB_6_ff ..) (apart6_ne ..)
    · exact use_run KX ht (runPB_6_ft ..) (apart6_ne ..)
    · exact use_run KX ht (runPB_6_tf ..) (apart6_ne ..)
    · exact use_run KX ht (runPB_6_tt ..) (apart6_ne ..)
  · cases b1 <;> cases b2
    · exact use_run KX ht (runPB_7_ff ..) (apart7_ne ..)
    · exact use_run KX ht (runPB_7_ft ..) (apart7_ne ..)
    · exact use_run KX ht (runPB_7_tf ..) (apart7_ne ..)
    · exact use_run KX ht (runPB_7_tt ..) (apart7_ne ..)
  · cases b1 <;> cases b2
    · exact use_run KX ht (runPB_8_ff ..) (apart0_ne ..)
    · exact use_run KX ht (runPB_8_ft ..) (apart0_ne ..)
    · exact use_run KX ht (runPB_8_tf ..) (apart0_ne ..)
    · exact use_run KX ht (runPB_8_tt ..) (apart0_ne ..)
  · cases b1 <;> cases b2
    · exact use_run KX ht (runPB_9_ff ..) (apart8_ne ..)
    · exact use_run KX ht (runPB_9_ft ..) (apart8_ne ..)
    · exact use_run KX ht (runPB_9_tf ..) (apart8_ne ..)
    · exact use_run KX ht (runPB_9_tt ..) (apart8_ne ..)
  · cases b1 <;> cases b2
    · exact use_run KX ht (runPB_10_ff ..) (apart9_ne ..)
    · exact use_run KX ht (runPB_10_ft ..) (apart9_ne ..)
    · exact use_run KX ht (runPB_10_tf ..) (apart9_ne ..)
    · exact use_run KX ht (runPB_10_tt ..) (apart9_ne ..)
  · cases b1 <;> cases b2
    · exact use_run KX ht (runPB_11_ff ..) (apart10_ne ..)
    · exact use_run KX ht (runPB_11_ft ..) (apart10_ne ..)
    · exact use_run KX ht (runPB_11_tf ..) (apart10_ne ..)
    · exact use_run KX ht (runPB_11_tt ..) (apart10_ne ..)
/-- the first call of _platform -/
theorem platA {s : Shared} {W : Where} {p : Pos} {t : Tok} (w : World) (KX : KnowIn w s.heap) (ht : s.heap.get? 46 = some (tableObj #[])) :
    ∃ tk s' C, Returns (model therow.prog w) (W.ctx.enter (codeP (toldText 5) t) none p) p s (.ok (.ret (.str (Str.ofString (sysName 1)) tk))) s' ∧ PlatOut s s' (tabB C) := by
  refine of_follow (P := fun w => KnowIn w s.heap → ∃ tk s' C, Returns (model therow.prog w) (W.ctx.enter (codeP (toldText 5) t) none p) p s (.ok (.ret (.str (Str.ofString (sysName 1)) tk))) s' ∧ PlatOut s s' (tabB C)) w (fun b1 b2 KX => ?_) KX
  cases b1 <;> cases b2
  · obtain ⟨tk, s', r, D⟩ := use_run KX ht (runPA_5_ff w _ _ _ t W p) (apart11_ne ..)
    exact ⟨tk, s', _, r, D⟩
  · obtain ⟨tk, s', r, D⟩ := use_run KX ht (runPA_5_ft w _ _ _ t W p) (apart11_ne ..)
    exact ⟨tk, s', _, r, D⟩
  · obtain ⟨tk, s', r, D⟩ := use_run KX ht (runPA_5_tf w _ _ _ t W p) (apart11_ne ..)
    exact ⟨tk, s', _, r, D⟩
  · obtain ⟨tk, s', r, D⟩ := use_run KX ht (runPA_5_tt w _ _ _ t W p) (apart11_ne ..)
    exact ⟨tk, s', _, r, D⟩
end Mine
end
/- KBase -/
section
open PySem PySem.W PySem.W.X PyProof.Rows PySem.Calls
namespace Mine
/-- the head leaves the walk as it was -/
theorem topOff : True := by
  w_top off
  exact trivial
set_option maxRecDepth 100000
set_option maxHeartbeats 4000000
noncomputable abbrev prog : Program := PySem.Challenge.rw_mr0145_01.row.prog
noncomputable abbrev lo : List Str := looseW hd.view_39 [Str.ofString "_twin_re_1", Str.ofString "_ver_stages"]
section
local macro_rules | `(tactic| o_head $_) => `(tactic| assumption)
theorem kmk (h : therow.Holds) : therow.Holds := by k_head
end

theorem in_of_all {K K' : Frag} {h : Heap} (H : K'.In h) (e : K.map (fun p => K'.lookup p.1) = K.map (fun p => some p.2)) : K.In h := fun a o hl => by
  have hm : K'.lookup a = some o := by
    clear H
    induction K with
    | nil => cases hl
    | cons q K ih =>
      simp only [List.map_cons, List.cons.injEq] at e
      rw [List.lookup] at hl
      split at hl
      · rename_i hb
        have := eq_of_beq hb
        subst this
        cases hl
        exact e.1
      · exact ih e.2 hl
  exact H a o hm
theorem k1_in {P : Params} {h : Heap} (H : (hd.heap_39 P).In h) : (kmk.heap_1 P).In h := in_of_all H (by kernel_rfl)
end Mine
end
/- Gl -/
section
open PySem PySem.W PyProof.Rows PySem.Calls
open Sem (wp)
namespace Mine
set_option maxRecDepth 100000
set_option maxHeartbeats 4000000

/-- a tree's weakest precondition at one context, whatever the place -/
def wpG {α : Type} (M : Model) (Γ : Ctx) (t : Sem α) (Q : α → Shared → Prop) (E : Value → Shared → Prop) (s : Shared) : Prop :=
  ∀ p, wp M Γ t (fun a _ s' => Q a s') (fun e _ s' => E e s') p s
abbrev noE : Value → Shared → Prop := fun _ _ => False
/-- a code that ends well at one context -/
def okC (M : Model) (Γ : Ctx) (Q : Flow → Shared → Prop) (s : Shared) : Prop :=
  ∀ p, wpCode M Γ (fun r s' => match r with | .ok f => Q f s' | .error _ => False) p s

section
variable {α β : Type} {M : Model} {Γ : Ctx} {A : Around} {E : Value → Shared → Prop} {s : Shared} {env : Env}
theorem wpG_any {t : Sem α} {Q : α → Shared → Prop} (hΓ : Γ.In A) (h : wpAny M A t Q E s) : wpG M Γ t Q E s := fun p => h Γ p hΓ
theorem wpG_mono {t : Sem α} {Q Q' : α → Shared → Prop} {E' : Value → Shared → Prop} (h : wpG M Γ t Q E s) (hQ : ∀ a s, Q a s → Q' a s) (hE : ∀ e s, E e s → E' e s) : wpG M Γ t Q' E' s :=
  fun p => Sem.wp_mono M Γ t (fun a _ s => hQ a s) (fun e _ s => hE e s) p s (h p)
theorem wpG_bind {m : Sem α} {f : α → Sem β} {Q : β → Shared → Prop} (h : wpG M Γ m (fun a s' => wpG M Γ (f a) Q E s') E s) : wpG M Γ (m >>= f) Q E s := fun p => by
  rw [Sem.wp_bind']
  exact Sem.wp_mono M Γ m (fun _ p' _ h' => h' p') (fun _ _ _ h' => h') p s (h p)
theorem wpG_pure {a : α} {Q : α → Shared → Prop} (h : Q a s) : wpG M Γ (pure a) Q E s := fun _ => h
theorem wpG_standAt {q : Pos} {Q : Unit → Shared → Prop} (h : Q () s) : wpG M Γ (standAt q) Q E s := fun _ => h
theorem wpG_point {Q : Unit → Shared → Prop} (h : Q () s) : wpG M Γ point Q E s := fun _ => h
theorem wpG_holding {vs : List Value} {m : Sem α} {Q : α → Shared → Prop} (h : wpG M Γ m Q E s) : wpG M Γ (holding vs m) Q E s := fun p => by rw [Sem.wp_holding]; exact h p
theorem wpG_operate {vs : List Value} {m : Sem Value} {Q : Value → Shared → Prop} (h : wpG M Γ m Q E s) : wpG M Γ (operate vs m) Q E s := fun p => by rw [Sem.wp_operate]; exact h p
theorem wpG_of_eq {t : Sem α} {a : α} {Q : α → Shared → Prop} (e : t = pure a) (h : Q a s) : wpG M Γ t Q E s := by rw [e]; exact wpG_pure h
/-- nothing is raised: what stands behind a raise does not matter -/
theorem wpG_onRaise {m : Sem α} {k : Value → Sem Unit} {Q : α → Shared → Prop} (h : wpG M Γ m Q noE s) : wpG M Γ (m.onRaise k) Q noE s := fun p => by
  rw [Sem.wp_onRaise]
  exact Sem.wp_mono M Γ m (fun _ _ _ h' => h') (fun _ _ _ h' => h'.elim) p s (h p)
theorem wpG_attempt {m : Sem α} {Q : Except Value α → Shared → Prop} (h : wpG M Γ m (fun a => Q (.ok a)) (fun e => Q (.error e)) s) : wpG M Γ m.attempt Q E s := fun p => by
  rw [Sem.wp_attempt]; exact h p
theorem wpG_run {c : Code} {hd : Option Value} {Q : Flow → Shared → Prop} (h : ∀ p, okC M (Γ.enter c hd p) Q s) : wpG M Γ (run c hd) Q noE s := fun p => by
  rw [Sem.wp_run]; exact h p p
theorem wpG_call {f : Value} {vs : List Value} {Q : Value → Shared → Prop} (h : ∀ p, okC M (Γ.enter (.call f ⟨vs, []⟩) none p) (fun fl s' => match fl with | .ret v => Q v s' | _ => False) s) : wpG M Γ (call f vs) Q noE s := fun p => by
  show wp M Γ (runValue (.call f ⟨vs, []⟩)) _ _ p s
  rw [Sem.wp_runValue]
  refine wpCode_mono (fun r s' h' => ?_) (h p p)
  cases r with
  | error e => exact h'
  | ok fl => cases fl <;> exact h'
theorem okC_mono {Q Q' : Flow → Shared → Prop} (h : okC M Γ Q s) (hQ : ∀ f s, Q f s → Q' f s) : okC M Γ Q' s := fun p => wpCode_mono (fun r s' h' => by
  cases r with
  | error e => exact h'
  | ok fl => exact hQ _ _ h') (h p)
theorem okC_tree {Q : Flow → Shared → Prop} (h : wpG M Γ (M.den Γ.code) (fun fin s' => match fin with | .done f => Q f s' | .again c' => c'.quiet = true ∧ okC M (Γ.goto c') Q s') noE s) : okC M Γ Q s := fun p => by
  rw [wpCode_iff_wp]
  refine Sem.wp_mono M Γ _ (fun fin p' s' h' => ?_) (fun _ _ _ h' => h') p s (h p)
  cases fin with
  | done f => exact h'
  | again c' => exact ⟨h'.1, h'.2 p'⟩
theorem okC_any {Q : Flow → Shared → Prop} (hB : Γ.Below A) (h : codeAny M A Γ.code (fun r s' => match r with | .ok f => Q f s' | .error _ => False) s) : okC M Γ Q s := fun p => h Γ p rfl hB

theorem wpG_execs_nil {Q : Flow → Shared → Prop} (h : Q .next s) : wpG M Γ (execs [] env) Q E s := fun _ => h
theorem wpG_execs_cons {st rest} {Q : Flow → Shared → Prop} (h : wpG M Γ (exec st env) (fun f s' => match f with | .next => wpG M Γ (execs rest env) Q E s' | f => Q f s') E s) : wpG M Γ (execs (st :: rest) env) Q E s := by
  rw [execs_cons]
  refine wpG_bind (wpG_mono h (fun f s' h' => ?_) fun _ _ x => x)
  cases f <;> first | exact h' | exact wpG_pure h'
theorem wpG_BinOp {l op r pos} {Q : Value → Shared → Prop} (h : wpG M Γ (eval l env) (fun a s₁ => wpG M Γ (eval r env) (fun b s₂ => wpG M Γ (binaryOp op a b) Q E s₂) E s₁) E s) : wpG M Γ (eval (.BinOp l op r pos) env) Q E s := by
  rw [eval_BinOp]
  exact wpG_bind (wpG_mono h (fun a s₁ h₁ => wpG_bind (wpG_holding (wpG_mono h₁ (fun b s₂ h₂ => wpG_bind (wpG_standAt (wpG_operate h₂))) fun _ _ x => x))) fun _ _ x => x)
theorem wpG_Compare1 {l op r pos} {Q : Value → Shared → Prop} (h : wpG M Γ (eval l env) (fun a s₁ => wpG M Γ (eval r env) (fun b s₂ => wpG M Γ (compareOp op a b) Q E s₂) E s₁) E s) (hm : behindInMarks op r = false) : wpG M Γ (eval (.Compare l [op] [r] pos) env) Q E s := by
  rw [eval_Compare1, markedBehindIn_of_false hm]
  exact wpG_bind (wpG_mono h (fun a s₁ h₁ => wpG_bind (wpG_holding (wpG_mono h₁ (fun b s₂ h₂ => wpG_bind (wpG_standAt (wpG_operate h₂))) fun _ _ x => x))) fun _ _ x => x)
theorem wpG_bindName {x : Str} {v : Value} {Q : Unit → Shared → Prop} (h : wpG M Γ (storeName env x v) Q E s) : wpG M Γ (bindName env x v) Q E s := fun p => by rw [Sem.wp_bindName]; exact h p
theorem wpG_Assign_Name {x pos' value pos} {Q : Flow → Shared → Prop} (h : wpG M Γ (eval value env) (fun v s₁ => wpG M Γ (storeName env x v) (fun _ => Q .next) E s₁) E s)
    (hs : swapsWith value (some (.Name x pos')) pos.line env = pure false) : wpG M Γ (exec (.Assign [.Name x pos'] value pos) env) Q E s := by
  rw [exec_Assign_Name env x pos' value pos hs]
  exact wpG_bind (wpG_standAt (wpG_bind (wpG_mono h (fun v s₁ h₁ => wpG_bind (wpG_standAt (wpG_bind (wpG_bindName (wpG_mono h₁ (fun _ s₂ h₂ => wpG_pure h₂) fun _ _ x => x))))) fun _ _ x => x)))
theorem wpG_If {test body orelse pos} {Q : Flow → Shared → Prop} (h : wpG M Γ (isTrue test env (eval test env)) (fun b s₂ => if b then wpG M Γ (execs body env) Q E s₂ else wpG M Γ (execs orelse env) Q E s₂) E s) : wpG M Γ (exec (.If test body orelse pos) env) Q E s := by
  rw [exec_If]
  refine wpG_bind (wpG_standAt (wpG_bind (wpG_mono h (fun b s₂ h₂ => ?_) fun _ _ x => x)))
  cases b <;> exact h₂
theorem wpG_Return {e pos} {Q : Flow → Shared → Prop} (h : wpG M Γ (eval e env) (fun v => Q (.ret v)) E s) : wpG M Γ (exec (.Return (some e) pos) env) Q E s := by
  rw [exec_Return_some]
  exact wpG_bind (wpG_standAt (wpG_bind (wpG_mono h (fun v s' h' => wpG_pure h') fun _ _ x => x)))
theorem wpG_runOwn {c : Code} {hd : Option Value} {Q : Flow → Shared → Prop} (h : ∀ p, okC M (Γ.enter c hd p) Q s) : wpG M Γ (runOwn c env hd) Q noE s := by
  unfold runOwn
  exact wpG_onRaise (wpG_run h)
theorem wpG_For {target iter body orelse pos} {Q : Flow → Shared → Prop}
    (h : wpG M Γ (eval iter env) (fun x s₁ => wpG M Γ (pyIter x) (fun it s₂ => ∀ p, okC M (Γ.enter (.forLoop target it body orelse env) none p) Q s₂) noE s₁) noE s)
    (hs : ∀ x, foldedSetIterable iter env x = pure x) : wpG M Γ (exec (.For target iter body orelse pos) env) Q noE s := by
  rw [exec_For]
  exact wpG_bind (wpG_standAt (wpG_bind (wpG_mono h (fun x s₁ h₁ => wpG_bind (wpG_of_eq (hs x) (wpG_bind (wpG_standAt (wpG_bind (wpG_holding
    (wpG_mono h₁ (fun it s₂ h₂ => wpG_runOwn h₂) fun _ _ h' => h'))))))) fun _ _ h' => h')))
theorem wpG_Try {body orelse : List Stmt} {h₀ : ExceptHandler} {hs : List ExceptHandler} {pos : Pos} {Q : Flow → Shared → Prop}
    (h : wpG M Γ (execs body env) (fun f s₁ => match f with | .next => wpG M Γ (execs orelse env) Q E s₁ | f => Q f s₁)
      (fun e s₁ => wpG M Γ (noteFrame e env) (fun _ s₂ => wpG M Γ (setFlight e none) (fun _ s₃ => wpG M Γ (handleBy e env (h₀ :: hs)) Q E s₃) E s₂) E s₁) s) :
    wpG M Γ (exec (.Try body (h₀ :: hs) orelse [] pos) env) Q E s := by
  rw [arm_exec_Try]
  refine wpG_bind (wpG_standAt ?_)
  unfold tryStmt
  simp only [List.isEmpty_nil, if_true, List.isEmpty_cons, Bool.false_and, Bool.false_eq_true, if_false]
  refine wpG_bind (wpG_attempt (wpG_mono h (fun f s₁ h₁ => ?_) fun e s₁ h₁ => ?_))
  · cases f <;> first | exact h₁ | exact wpG_pure h₁
  · exact wpG_bind (wpG_mono h₁ (fun _ _ h₂ => wpG_bind h₂) fun _ _ x => x)
end
section
variable {prog : Program} {w : World} {Γ : Ctx} {A : Around} {s : Shared} {env : Env} {Q : Flow → Shared → Prop}
theorem okC_forTurn {target it body orelse} (hc : Γ.code = .forLoop target it body orelse env)
    (h : wpG (model prog w) Γ (pyNext it) (fun r s₁ => match r with
      | none => okC (model prog w) (Γ.goto (.block orelse env)) Q s₁
      | some v => wpG (model prog w) Γ (assign target env v) (fun _ s₂ => wpG (model prog w) Γ (execs body env) (fun f s₃ => match f with
          | .next | .cont => okC (model prog w) (Γ.goto (.forLoop target it body orelse env)) Q s₃
          | .brk => Q .next s₃
          | .ret v => Q (.ret v) s₃) noE s₂) noE s₁) noE s)
    (ht : ∀ v, letOwnedTupleGo target it v = pure ()) : okC (model prog w) Γ Q s := by
  refine okC_tree ?_
  rw [hc]
  show wpG _ _ ((forTurn target it body orelse env).onRaise (fun x => do noteFrame x env; theTreesLotGoes x)) _ _ s
  refine wpG_onRaise ?_
  simp only [forTurn]
  refine wpG_bind (wpG_standAt (wpG_bind (wpG_onRaise (wpG_mono h (fun r s₁ h₁ => ?_) fun _ _ h' => h'))))
  cases r with
  | none => exact wpG_pure ⟨rfl, h₁⟩
  | some v =>
    refine wpG_bind (wpG_of_eq (ht v) ?_)
    refine wpG_bind (wpG_mono h₁ (fun _ s₂ h₂ => wpG_bind (wpG_mono h₂ (fun f s₃ h₃ => ?_) fun _ _ h' => h')) fun _ _ h' => h')
    cases f with
    | next => exact wpG_pure ⟨rfl, h₃⟩
    | cont => exact wpG_pure ⟨rfl, h₃⟩
    | brk => exact wpG_pure h₃
    | ret v => exact wpG_pure h₃
theorem okC_func {body : List Stmt} (hc : Γ.code = .func body env) (h : wpG (model prog w) Γ (execs body env) (fun f s' => Q (.ret (match f with | .ret v => v | _ => .none)) s') noE s) : okC (model prog w) Γ Q s := by
  refine okC_tree ?_
  rw [hc]
  show wpG _ _ (do point; match ← (execs body env).onRaise (leaving env) with | .ret v => ret v | _ => ret .none) _ _ s
  refine wpG_bind (wpG_point (wpG_bind (wpG_onRaise (wpG_mono h (fun f s' h' => ?_) fun _ _ h' => h'))))
  cases f <;> exact wpG_pure h'
theorem okC_call_def {a : Addr} {o : Obj} {fd : FuncData} {body : List Stmt} {args : Args} {binds : List (Str × Value)} (hc : Γ.code = .call (.ref a) args) (hB : Γ.Below A)
    (hroom : A.depth < recursionLimit) (ho : s.heap.get? a = some o) (hdata : o.data = .func fd) (hlim : s.heap.NoLimit) (hcd : s.heap.CodeRec fd.code fd.qualname)
    (hbody : fd.body = .stmts body) (hbind : BindsTo s fd args binds) (hcell : ∀ x ∈ fd.scope.names, x.2 ≠ .cell) (hloc : ∀ x ∈ binds, fd.scope.names.lookup x.1 = some .local)
    (h : ∀ h₀, h₀.Ns s.heap.objs.size (fun x => binds.reverse.lookup x) → (∀ b o, s.heap.get? b = some o → h₀.get? b = some o) →
      okC (model prog w) (Γ.goto (.func body (callEnv fd s.heap.objs.size a))) Q { s with heap := h₀, toks := s.toks + binds.length })
    (hco : fd.scope.isCoroutine = false) (hgen : fd.scope.isGenerator = false) (hk : fd.scope.kind = .function) : okC (model prog w) Γ Q s := by
  have hI : Γ.In A.in1 := by have := hB.in; rw [hc] at this; exact this
  refine okC_tree ?_
  rw [hc]
  show wpG _ _ (callAny (.ref a) args) _ _ s
  simp only [callAny]
  refine wpG_bind (wpG_any hI (wpAny_load ho ?_))
  obtain ⟨c, oc, vs, tq, hc', hoc, hdc, hq⟩ := hcd
  simp only [hdata, callFunction, hco, hgen, hbody, hc']
  refine wpG_bind (m := field (.ref c) 1) (wpG_any hI (wpAny_field hoc hdc hq ?_))
  refine wpG_bind (wpG_pure ?_)
  refine wpG_bind (wpG_any hI (hbind _ _ _ _ ?_))
  rw [← hc']
  refine wpG_bind (wpG_any hI (wpAny_newFunctionEnv hcell hloc (fun h₀ hns₀ hsb₀ => ?_) hk))
  refine wpG_bind (wpG_any hI (wpAny_enterFrame (hlim.fresh _ hsb₀) hroom ?_))
  refine wpG_pure ⟨rfl, h h₀ hns₀ fun b o e => ?_⟩
  exact hsb₀.extBut b o (Nat.ne_of_lt (Heap.lt_size e)) (Heap.get?_push_of_some _ e)
end
end Mine
end
/- Gl2 -/
section
open PySem PySem.W PyProof.Rows PySem.Calls
open Sem (wp)
namespace Mine
set_option maxRecDepth 100000
set_option maxHeartbeats 4000000
section
variable {M : Model} {Γ : Ctx} {E : Value → Shared → Prop} {s : Shared} {env : Env}
theorem wpG_load {a : Addr} {o : Obj} {Q : Obj → Shared → Prop} (ho : s.heap.get? a = some o) (h : Q o s) : wpG M Γ (load a) Q E s := fun p => (Sem.wp_load_of M Γ _ p s ho _).mpr h
theorem wpG_items_nil {pos : Pos} {Q : List Value → Shared → Prop} (h : Q [] s) : wpG M Γ (spliced (backTo pos (starEach [] env))) Q E s := wpG_pure h
theorem wpG_items_cons {pos : Pos} {e : Expr} {rest : List Expr} {Q : List Value → Shared → Prop}
    (h : wpG M Γ (eval e env) (fun v s₁ => wpG M Γ (spliced (backTo pos (starEach rest env))) (fun vs s₂ => Q (v :: vs) s₂) E s₁) E s)
    (he : starEach (e :: rest) env = (false, eval e env) :: starEach rest env) : wpG M Γ (spliced (backTo pos (starEach (e :: rest) env))) Q E s := by
  rw [he]
  show wpG M Γ (do
    let v ← eval e env
    let here ← (pure [v] : Sem (List Value))
    return here ++ (← holding here (spliced (backTo pos (starEach rest env))))) Q E s
  exact wpG_bind (wpG_mono h (fun v s₁ h₁ => wpG_bind (wpG_pure (wpG_bind (wpG_holding (wpG_mono h₁ (fun vs s₂ h₂ => wpG_pure h₂) fun _ _ x => x))))) fun _ _ x => x)
theorem wpG_evalArgs {f : Value} {x : Bool × Sem Value} {rest : List (Bool × Sem Value)} {Q : Args → Shared → Prop} (hx : x.1 = false) (h : wpG M Γ (spliced (x :: rest)) (fun vs s₁ => Q ⟨vs, []⟩ s₁) E s) : wpG M Γ (evalArgs f true (x :: rest) []) Q E s := by
  obtain ⟨b, x⟩ := x
  cases hx
  unfold evalArgs
  show wpG M Γ (spliced ((false, x) :: rest) >>= _) Q E s
  refine wpG_bind (wpG_mono h (fun vs s₁ h₁ => ?_) fun _ _ x => x)
  refine wpG_holding ?_
  show wpG M Γ (evalAll [] >>= _) Q E s₁
  exact wpG_bind (wpG_pure (wpG_bind (wpG_pure (wpG_pure h₁))))
theorem wpG_Call_def {id : Str} {p pos : Pos} {e : Expr} {a : Addr} {Q : Value → Shared → Prop}
    (h : wpG M Γ (eval (.Name id p) env) (fun f s₁ => f = .ref a ∧ wpG M Γ (eval e env) (fun v s₂ => (∃ o fd, s₂.heap.get? a = some o ∧ o.data = .func fd) ∧ wpG M Γ (call (.ref a) [v]) Q E s₂) E s₁) E s)
    (he : starEach [e] env = (false, eval e env) :: starEach [] env) : wpG M Γ (eval (.Call (.Name id p) [e] [] pos) env) Q E s := by
  rw [arm_eval_Call_Name']
  refine wpG_bind (wpG_mono h (fun f s₁ h₁ => ?_) fun _ _ x => x)
  obtain ⟨rfl, h₁⟩ := h₁
  unfold callWith
  have hl : backTo pos (starEach [e] env) = [(false, eval e env)] := by rw [he]; rfl
  have hA : wpG M Γ (evalArgs (.ref a) true (backTo pos (starEach [e] env)) (backToKw pos (keywordEach [] env))) (fun x s₂ => x = ⟨[x.pos.headD .none], []⟩ ∧ ((∃ o fd, s₂.heap.get? a = some o ∧ o.data = .func fd) ∧ wpG M Γ (call (.ref a) [x.pos.headD .none]) Q E s₂)) E s₁ := by
    have h2 : wpG M Γ (spliced (backTo pos (starEach [e] env))) (fun vs s₂ => (Args.mk vs []) = ⟨[vs.headD .none], []⟩ ∧ ((∃ o fd, s₂.heap.get? a = some o ∧ o.data = .func fd) ∧ wpG M Γ (call (.ref a) [vs.headD .none]) Q E s₂)) E s₁ :=
      wpG_items_cons (wpG_mono h₁ (fun v s₂ h₂ => wpG_items_nil ⟨rfl, h₂⟩) fun _ _ x => x) he
    rw [hl] at h2 ⊢
    exact wpG_evalArgs rfl h2
  refine wpG_bind (wpG_holding (wpG_mono hA (fun x s₂ h₂ => wpG_bind (wpG_standAt ?_)) fun _ _ x => x))
  obtain ⟨hx, ⟨o, fd, ho, hd⟩, h₃⟩ := h₂
  rw [hl, hx]
  refine wpG_bind (m := keeperOf (.ref a)) ?_
  unfold keeperOf
  refine wpG_bind (wpG_load ho ?_)
  rw [hd]
  refine wpG_pure ?_
  have tail : wpG M Γ (callMarked plainCall (.ref a) [x.pos.headD .none] [] >>= fun r => holding [r] point >>= fun _ => pure r) Q E s₂ := by
    refine wpG_bind ?_
    unfold callMarked
    intro p
    rw [Sem.wp_keep]
    refine Sem.wp_mono M Γ _ (fun r p' s₃ h₄ => ?_) (fun _ _ _ x => x) p s₂ (h₃ p)
    exact wpG_bind (wpG_holding (wpG_point (wpG_pure h₄)))
  exact tail
theorem wpG_List {elts : List Expr} {pos : Pos} {Q : Value → Shared → Prop}
    (h : wpG M Γ (spliced (backTo pos (starEach elts env))) (fun vs s₁ => wpG M Γ (newList vs) Q E s₁) E s) : wpG M Γ (eval (.List elts pos) env) Q E s := by
  rw [arm_eval_List]
  exact wpG_bind (wpG_standAt (wpG_bind h))
theorem wpG_Assign_Subscript {o i pos' value pos} {Q : Flow → Shared → Prop}
    (h : wpG M Γ (eval value env) (fun v s₁ => wpG M Γ (assign (.Subscript o i pos') env v) (fun _ s₂ => Q .next s₂) E s₁) E s)
    (hs : swapsWith value (some (.Subscript o i pos')) pos.line env = pure false) : wpG M Γ (exec (.Assign [.Subscript o i pos'] value pos) env) Q E s := by
  rw [exec_Assign_Subscript o i pos' value pos hs]
  exact wpG_bind (wpG_standAt (wpG_bind (wpG_mono h (fun v s₁ h₁ => wpG_bind (wpG_mono h₁ (fun _ s₂ h₂ => wpG_pure h₂) fun _ _ x => x)) fun _ _ x => x)))
end
end Mine
end
/- ReS -/
section
open PySem PySem.W PyProof.Rows PySem.Calls
namespace Mine
set_option maxRecDepth 100000
set_option maxHeartbeats 4000000
theorem slot_re_split : Slot "re.Pattern" "split" "re.Pattern.split" :=
  .of (owner := "re.Pattern") (n := "split") (by rw [typeLookup_type, builtinLookup_eq_fast]; kernel_rfl) (by decide +kernel) (by decide +kernel) (by decide +kernel)
    (by first | exact .inl (by decide +kernel) | exact .inr (by decide +kernel)) (by rw [isSubtype_type]; kernel_rfl)
theorem type_re_split : typeOf (.builtin "re.Pattern.split") = pure (.type "method_descriptor") := by show builtinType _ = _; rw [builtinType_eq_fast]; kernel_rfl
theorem entry_re_split : entryFor table "re.Pattern.split" = some Builtin.«re.Pattern.split» := entryFor_of_fast (by kernel_rfl)
theorem args_re_split (a b : Value) : argsOk "re.Pattern.split" ⟨[a, b], []⟩ := by unfold argsOk; kernel_rfl
theorem plain_re : PlainAttrs "re.Pattern" where
  ga := ⟨"object.__getattribute__", by rw [typeLookup_type, builtinLookup_eq_fast]; kernel_rfl, by decide +kernel⟩
  noGetattr := by rw [typeLookup_type, builtinLookup_eq_fast]; kernel_rfl

/-- a built-in's tree, run without calls: loads of known objects, new objects, tokens -/
def mini {α : Type} (know : List (Addr × Obj)) : Nat → Nat → Sem α → Nat → Option (List Obj × α × Nat)
  | 0, _, _, _ => none
  | _ + 1, _, .pure f, tk => some ([], f, tk)
  | n + 1, N, .rule _ k, tk => mini know n N (k ()) tk
  | n + 1, N, .at _ k, tk => mini know n N (k ()) tk
  | n + 1, N, .point _ k, tk => mini know n N (k ()) tk
  | n + 1, N, .fresh k, tk => mini know n N (k tk) (tk + 1)
  | n + 1, N, .load a _ k, tk => match know.find? (fun p => Nat.beq p.1 a) with
    | some p => mini know n N (k p.2) tk
    | none => none
  | n + 1, N, .alloc o k, tk => match o.isFreed with
    | true => none
    | false => match mini know n (N + 1) (k N) tk with
      | some (os, f, t) => some (o :: os, f, t)
      | none => none
  | _ + 1, _, _, _ => none

def pushAll : Heap → List Obj → Heap
  | h, [] => h
  | h, o :: os => pushAll (h.push o) os

theorem mini_sound {α : Type} {prog : Program} {w : World} {A : Around} {Q : α → Shared → Prop} {E : Value → Shared → Prop} {know : List (Addr × Obj)} :
    ∀ (n N : Nat) (t : Sem α) (tk : Nat) (s : Shared) (os : List Obj) (f : α) (tk' : Nat), mini know n N t tk = some (os, f, tk') → N = s.heap.objs.size → s.toks = tk → (∀ p ∈ know, s.heap.get? p.1 = some p.2) →
      Q f { s with heap := pushAll s.heap os, toks := tk' } → wpAny (model prog w) A t Q E s := by
  intro n
  induction n with
  | zero => intro N t tk s os f tk' h; simp [mini] at h
  | succ n ih =>
    intro N t tk s os f tk' h hN htk hk hq
    cases t with
    | pure a =>
      simp only [mini, Option.some.injEq, Prod.mk.injEq] at h
      obtain ⟨rfl, rfl, rfl⟩ := h
      subst htk
      exact X.x_pure hq
    | rule _ k => exact X.x_rule (ih _ _ _ _ _ _ _ h hN htk hk hq)
    | «at» _ k => exact X.x_at (ih _ _ _ _ _ _ _ h hN htk hk hq)
    | point _ k => exact X.x_point (ih _ _ _ _ _ _ _ h hN htk hk hq)
    | fresh k =>
      subst htk
      exact X.x_fresh (ih _ _ _ { s with toks := s.toks + 1 } _ _ _ h hN rfl hk hq)
    | load a q k =>
      simp only [mini] at h
      split at h
      · rename_i p hp
        have h1 := List.find?_some hp
        have h2 := List.mem_of_find?_eq_some hp
        have h3 : p.1 = a := Nat.eq_of_beq_eq_true h1
        exact X.x_load (h3 ▸ hk p h2) (ih _ _ _ _ _ _ _ h hN htk hk hq)
      · cases h
    | alloc o k =>
      simp only [mini] at h
      split at h
      · cases h
      · rename_i hf
        split at h
        · rename_i os' f' t' h'
          simp only [Option.some.injEq, Prod.mk.injEq] at h
          obtain ⟨rfl, rfl, rfl⟩ := h
          refine wpAny_bind (m := alloc o) (f := k) (wpAny_alloc ?_)
          rw [← hN]
          refine ih _ _ _ { s with heap := s.heap.push o } _ _ _ h' (by rw [hN]; exact (Heap.size_push ..).symm) htk (fun p hp => Heap.get?_push_of_some _ (hk p hp)) hq
        · cases h
    | _ => simp [mini] at h

def patObj : Obj := { cls := .type "re.Pattern", data := .fields #[.str (Str.ofString "([0-9]+|[._+-])") 285, .int 32 329, .int 1 0, .none, .none, .ref 35, .int 0 0] }
def codeInts : List Int := [14, 4, 0, 1, 4294967295, 17, 0, 7, 14, 24, 10, 1, 4294967295, 13, 5, 22, 48, 57, 0, 1, 15, 17, 15, 13, 11, 9, 0, 26624, 2147483648, 0, 0, 0, 0, 0, 0, 15, 2, 0, 17, 1, 1]
def patCode : Obj := { cls := .type "tuple", data := .seq (codeInts.map fun i => Value.int i 0).toArray }
theorem pat_is (P : Params) : (kmk.heap_1 P).lookup 36 = some patObj := by kernel_rfl
theorem code_is (P : Params) : (kmk.heap_1 P).lookup 35 = some patCode := by kernel_rfl
def strsFrom : List String → Nat → List Value
  | [], _ => []
  | x :: r, t => .str (Str.ofString x) t :: strsFrom r (t + 1)
def listObj (vs : List Value) : Obj := { cls := .type "list", data := .seq vs.toArray }

/-- the four releases, in the menu's order, and what split makes of them -/
def relText : Nat → String
  | 0 => "1.2"
  | 1 => "1.10"
  | 2 => "1.2rc"
  | _ => "1.2-pl"
def relParts : Nat → List String
  | 0 => ["", "1", "", ".", "", "2", ""]
  | 1 => ["", "1", "", ".", "", "10", ""]
  | 2 => ["", "1", "", ".", "", "2", "rc"]
  | _ => ["", "1", "", ".", "", "2", "", "-", "pl"]
theorem split0 (N tk : Nat) (t : Tok) : mini [(36, patObj), (35, patCode)] 100000 N (Builtin.«re.Pattern.split» ⟨[.ref 36, .str (Str.ofString "1.2") t], []⟩) tk
    = some ([listObj (strsFrom ["", "1", "", ".", "", "2", ""] tk)], .done (.ret (.ref N)), tk + 7) := by rw [PySem.W.Fast.te11450203321858213786]; kernel_rfl
theorem split1 (N tk : Nat) (t : Tok) : mini [(36, patObj), (35, patCode)] 100000 N (Builtin.«re.Pattern.split» ⟨[.ref 36, .str (Str.ofString "1.10") t], []⟩) tk
    = some ([listObj (strsFrom ["", "1", "", ".", "", "10", ""] tk)], .done (.ret (.ref N)), tk + 7) := by rw [PySem.W.Fast.te11450203321858213786]; kernel_rfl
theorem split2 (N tk : Nat) (t : Tok) : mini [(36, patObj), (35, patCode)] 100000 N (Builtin.«re.Pattern.split» ⟨[.ref 36, .str (Str.ofString "1.2rc") t], []⟩) tk
    = some ([listObj (strsFrom ["", "1", "", ".", "", "2", "rc"] tk)], .done (.ret (.ref N)), tk + 7) := by rw [PySem.W.Fast.te11450203321858213786]; kernel_rfl
theorem split3 (N tk : Nat) (t : Tok) : mini [(36, patObj), (35, patCode)] 100000 N (Builtin.«re.Pattern.split» ⟨[.ref 36, .str (Str.ofString "1.2-pl") t], []⟩) tk
    = some ([listObj (strsFrom ["", "1", "", ".", "", "2", "", "-", "pl"] tk)], .done (.ret (.ref N)), tk + 9) := by rw [PySem.W.Fast.te11450203321858213786]; kernel_rfl

section
variable {w : World} {A : Around} {E : Value → Shared → Prop} {s : Shared} {h₀ : Heap} {L : Addr} {m : Str → Option Value} {news : List (Addr × Obj)}
theorem getMethod_split {pl : Sem Bool} {Q : Value × List Value → Shared → Prop} (F : Fr h₀ L s.heap m) (X : (kmk.heap_1 w.params).In h₀)
    (h : Q (.builtin "re.Pattern.split", [.ref 36]) s) : wpAny (model prog w) A (getMethod (.ref 36) "split" pl) Q E s :=
  have hp : s.heap.get? 36 = some patObj := F.keep _ _ (X _ _ (pat_is _))
  getMethod_builtin (T := "re.Pattern") ⟨_, hp, rfl⟩ plain_re slot_re_split type_re_split (fun a e => by cases e; exact ⟨_, hp, rfl⟩) h
theorem call_split {x : Str} {t : Tok} {vs : Nat → List Value} {n : Nat} {Q : Value → Shared → Prop} (F : Fr h₀ L s.heap m) (X : (kmk.heap_1 w.params).In h₀) (N : News h₀ L s.heap news)
    (hs : ∀ N tk, mini [(36, patObj), (35, patCode)] 100000 N (Builtin.«re.Pattern.split» ⟨[.ref 36, .str x t], []⟩) tk = some ([listObj (vs tk)], .done (.ret (.ref N)), tk + n))
    (h : ∀ l h' tk, Fr h₀ L h' m → News h₀ L h' ((l, listOf (vs tk).toArray 0) :: news) → (∀ p ∈ news, p.1 < l) → Q (.ref l) { s with heap := h', toks := tk + n }) :
    wpAny (model prog w) A (call (.builtin "re.Pattern.split") [.ref 36, .str x t]) Q E s := by
  have hp : s.heap.get? 36 = some patObj := F.keep _ _ (X _ _ (pat_is _))
  have hc : s.heap.get? 35 = some patCode := F.keep _ _ (X _ _ (code_is _))
  refine wpAny_call (codeAny_call_builtin slot_re_split.plain entry_re_split (slot_re_split.check _ _ _ _ _ _ _ _ (show s.TypeIs (.ref 36) "re.Pattern" from ⟨_, hp, rfl⟩) (args_re_split _ _) ?_))
  refine mini_sound _ _ _ _ _ _ _ _ (hs s.heap.objs.size s.toks) rfl rfl ?_ ?_
  · intro p hp'
    rcases List.mem_cons.mp hp' with rfl | hp'
    · exact hp
    · rcases List.mem_cons.mp hp' with rfl | hp'
      · exact hc
      · cases hp'
  · exact h _ _ _ (F.push _) (N.push F _) (fun p hp => Heap.lt_size (N p hp).1)
end
end Mine
end
/- CvA -/
section
open PySem PySem.W PySem.W.X PyProof.Rows PySem.Calls
namespace Mine
set_option maxRecDepth 100000
set_option maxHeartbeats 8000000
theorem int_mini {x : String} {n : Int} (hm : ∀ N tk t t', mini [] 1000 N (Builtin.«int.__new__» ⟨[.type "int", .str (Str.ofString x) t, .int 10 t'], []⟩) tk = some ([], .done (.ret (.int n tk)), tk + 1)) (t t' : Tok) :
    Meets (Builtin.«int.__new__» ⟨[.type "int", .str (Str.ofString x) t, .int 10 t'], []⟩) (Made.int n).spec := fun prog w A R s h => by
  refine mini_sound _ _ _ _ _ _ _ _ (hm s.heap.objs.size s.toks t t') rfl rfl (fun p hp => nomatch hp) ?_
  exact h
theorem int_1 : ∀ (N tk : Nat) (t t' : Tok), mini [] 1000 N (Builtin.«int.__new__» ⟨[.type "int", .str (Str.ofString "1") t, .int 10 t'], []⟩) tk = some ([], .done (.ret (.int 1 tk)), tk + 1) := fun _ _ _ _ => by rw [PySem.W.Fast.te11678526536113463801]; kernel_rfl
theorem int_2 : ∀ (N tk : Nat) (t t' : Tok), mini [] 1000 N (Builtin.«int.__new__» ⟨[.type "int", .str (Str.ofString "2") t, .int 10 t'], []⟩) tk = some ([], .done (.ret (.int 2 tk)), tk + 1) := fun _ _ _ _ => by rw [PySem.W.Fast.te11678526536113463801]; kernel_rfl
theorem int_10 : ∀ (N tk : Nat) (t t' : Tok), mini [] 1000 N (Builtin.«int.__new__» ⟨[.type "int", .str (Str.ofString "10") t, .int 10 t'], []⟩) tk = some ([], .done (.ret (.int 10 tk)), tk + 1) := fun _ _ _ _ => by rw [PySem.W.Fast.te11678526536113463801]; kernel_rfl
theorem tc_int2 (a b : Value) : checkTypeCall "int" ⟨[a, b], []⟩ = pure () := by rw [PySem.W.Fast.te11612656972197000677]; kernel_rfl
theorem nc_int2 (a b : Value) : checkBuiltinCall "int.__new__" ⟨[.type "int", a, b], []⟩ = pure () := by rw [PySem.W.Fast.te10254737850608025244]; kernel_rfl
theorem ia_int2 (o a b : Value) : argsOk "object.__init__" ⟨[o, a, b], []⟩ := by unfold argsOk; kernel_rfl
section
variable {prog : Program} {w : World} {A : Around} {E : Value → Shared → Prop} {s : Shared}
theorem call_int2 {x : String} {n : Int} {t t' : Tok} {Q : Value → Shared → Prop} (hm : ∀ N tk t t', mini [] 1000 N (Builtin.«int.__new__» ⟨[.type "int", .str (Str.ofString x) t, .int 10 t'], []⟩) tk = some ([], .done (.ret (.int n tk)), tk + 1))
    (h : Q (.int n s.toks) { s with toks := s.toks + 1 }) : wpAny (model prog w) A (call (.type "int") [.str (Str.ofString x) t, .int 10 t']) Q E s :=
  callType_new F.called_int F.newNe_int (tc_int2 _ _) (nc_int2 _ _) (fun obj => ia_int2 obj _ _) F.entry_int_new (int_mini hm t t') (show (Made.int n).post _ s from ⟨rfl, h⟩)
end
end Mine
end
/- CvC -/
section
open PySem PySem.W PySem.W.X PyProof.Rows PySem.Calls
namespace Mine
set_option maxRecDepth 100000
set_option maxHeartbeats 400000
theorem notin_lit {prog : Program} {w : World} {A : Around} {E : Value → Shared → Prop} {s : Shared} {x y : Str} {t u : Tok} {b : Bool} {Q : Value → Shared → Prop} (hb : (!(!(Builtin.Str.occurrences x y 0 x.length 1).isEmpty)) = b) (h : Q (.bool b) s) : wpAny (model prog w) A (compareOp .NotIn (.str y u) (.str x t)) Q E s :=
  PySem.P.notIn_str (hb ▸ h)
theorem ni_e : (!(!(Builtin.Str.occurrences (Str.ofString "._+-") (Str.ofString "") 0 (Str.ofString "._+-").length 1).isEmpty)) = false := by kernel_rfl
theorem ni_1 : (!(!(Builtin.Str.occurrences (Str.ofString "._+-") (Str.ofString "1") 0 (Str.ofString "._+-").length 1).isEmpty)) = true := by kernel_rfl
theorem ni_2 : (!(!(Builtin.Str.occurrences (Str.ofString "._+-") (Str.ofString "2") 0 (Str.ofString "._+-").length 1).isEmpty)) = true := by kernel_rfl
theorem ni_10 : (!(!(Builtin.Str.occurrences (Str.ofString "._+-") (Str.ofString "10") 0 (Str.ofString "._+-").length 1).isEmpty)) = true := by kernel_rfl
theorem ni_dot : (!(!(Builtin.Str.occurrences (Str.ofString "._+-") (Str.ofString ".") 0 (Str.ofString "._+-").length 1).isEmpty)) = false := by kernel_rfl
theorem ni_dash : (!(!(Builtin.Str.occurrences (Str.ofString "._+-") (Str.ofString "-") 0 (Str.ofString "._+-").length 1).isEmpty)) = false := by kernel_rfl
theorem ni_rc : (!(!(Builtin.Str.occurrences (Str.ofString "._+-") (Str.ofString "rc") 0 (Str.ofString "._+-").length 1).isEmpty)) = true := by kernel_rfl
theorem ni_pl : (!(!(Builtin.Str.occurrences (Str.ofString "._+-") (Str.ofString "pl") 0 (Str.ofString "._+-").length 1).isEmpty)) = true := by kernel_rfl
end Mine
end
/- CvE -/
section
open PySem PySem.W PySem.W.X PyProof.Rows PySem.Calls
namespace Mine
set_option maxRecDepth 100000
set_option maxHeartbeats 8000000
/-- the ground of a callee is the heap at the call -/
def KeepH (h g : Heap) : Prop := h = g
theorem fin_keep {h g h' : Heap} {L : Addr} {m : Str → Option Value} (k : KeepH h g) (F : Fr g L h' m) : ∀ b o, h.get? b = some o → h'.get? b = some o := fun b o e => F.keep b o (by cases k; exact e)
theorem fin_new {h g h' : Heap} {L a : Addr} {o : Obj} {news : List (Addr × Obj)} (k : KeepH h g) (N : News g L h' news) (hm : (a, o) ∈ news) : h.get? a = none := by cases k; exact (N _ hm).2.2
theorem fin_get {g h' : Heap} {L a : Addr} {o : Obj} {news : List (Addr × Obj)} (N : News g L h' news) (hm : (a, o) ∈ news) : h'.get? a = some o := (N _ hm).1
section
variable {prog : Program} {w : World} {A₀ A : Around} {s : Shared} {base h₀ : Heap} {outer : List Env} {env : Env} {L : Addr} {m : Str → Option Value} {K : Frag} {p : Program} {loose : List Str} {mean : ExcName → Option Value} {mg mb : Str → Option Value}
    {R : Result → Shared → Prop} {name qual : Str} {params : Arguments} {body : List Stmt} {scope : Scope} {dV kV doc pm cdv ct oc : Value} {an od : Option Addr} {osl : Array (Option Value)} {f : Addr} {args : Args} {binds : List (Str × Value)}
/-- a def is entered: its ground is the whole heap of the call -/
theorem code_here (B : Below A₀ base outer h₀) (F : Fr h₀ L s.heap m) (X₀ : K.In h₀) (T : Top p loose mean mg mb h₀) (hA : A.frames = some (env :: outer)) (hf : env.frame = some L) (hke : env.scope.kind = .function)
    (ho : K.lookup f = some ⟨oc, od, .func (fnOf name qual params body scope dV kV doc pm an cdv ct), osl⟩) (hcd : codeIn K cdv qual = true) (hroom : A.depth < recursionLimit)
    (hbind : BindsTo s (fnOf name qual params body scope dV kV doc pm an cdv ct) args binds) (hloc : ∀ y ∈ binds, scope.names.lookup y.1 = some .local)
    (h : ∀ g L' h₁, KeepH s.heap g → Fr g L' h₁ (fun y => binds.reverse.lookup y) → News g L' h₁ [] → Below A base (env :: outer) g → K.In g → Top p loose mean mg mb g →
      wpAny (model prog w) (A.deeper (envOf qual scope L' f cdv)) (execs body (envOf qual scope L' f cdv))
        (fun fl s' => R (.ok (.ret (match fl with | .ret v => v | _ => .none))) s') (fun _ _ => False)
        { s with heap := h₁, toks := s.toks + binds.length })
    (hco : scope.isCoroutine = false) (hgen : scope.isGenerator = false) (hk : scope.kind = .function)
    (hcell : ∀ x ∈ scope.names, x.2 ≠ .cell) : codeAny (model prog w) A (.call (.ref f) args) R s := by
  refine codeAny_call_def (fd := fnX name qual params body scope [] dV kV doc pm an cdv ct) (body := body) (binds := binds) hroom ((X₀.keeps F.keep) _ _ ho) rfl (T.nolimit.keeps F.keep) (codeRec_of (X₀.keeps F.keep) hcd) rfl hbind hcell hloc (fun h₁ hns hk₁ => ?_) hco hgen hk
  have B₁ := pushX B F hf hke
  exact wpAny_mono (h s.heap s.heap.objs.size h₁ rfl ⟨hns, fun b o e => hk₁ b o e, Nat.le_refl _⟩ News.nil ⟨hA, B₁.stays, B₁.frames⟩ (X₀.keeps F.keep) (T.keeps F.keep)) (fun _ _ x => x) fun _ _ x => x.elim
end
theorem fillV : PySem.Challenge.rw_mr0145_01 = PySem.Challenge.rw_mr0145_01 ∧ Mine.kmk.heap_1 = Mine.kmk.heap_1 := by k_fill; exact ⟨rfl, rfl⟩
local macro_rules | `(tactic| walk_at "getMethod ref") => `(tactic| (k_here; (with_reducible show wpAny _ _ (getMethod (Value.ref 36) _ _) _ _ _); k_dflt (refine' getMethod_split ?k1 ?k2 ?_; (case k1 => k_asm); (case k2 => k_asm); k_whole)))
local macro_rules | `(tactic| walk_at "call type:int") => `(tactic| (k_here; k_dflt (first | (with_reducible refine' call_int2 int_1 ?_) | (with_reducible refine' call_int2 int_2 ?_) | (with_reducible refine' call_int2 int_10 ?_)); k_whole))
local macro_rules | `(tactic| walk_at "compareOp NotIn str str") => `(tactic| (k_here; (with_reducible show wpAny _ _ (compareOp CmpOp.NotIn (Value.str _ _) (Value.str _ _)) _ _ _); k_dflt (first | (with_reducible refine' notin_lit ni_e ?_) | (with_reducible refine' notin_lit ni_1 ?_) | (with_reducible refine' notin_lit ni_2 ?_) | (with_reducible refine' notin_lit ni_10 ?_) | (with_reducible refine' notin_lit ni_dot ?_) | (with_reducible refine' notin_lit ni_dash ?_) | (with_reducible refine' notin_lit ni_rc ?_) | (with_reducible refine' notin_lit ni_pl ?_)); k_whole))
/-- a list of the ranks of release r -/
def verArr (r : Nat) (t1 t2 t3 t4 t5 t6 : Tok) : Array Value := match r with
  | 0 => #[.int 100 t1, .int 1 t2, .int 100 t3, .int 2 t4]
  | 1 => #[.int 100 t1, .int 1 t2, .int 100 t3, .int 10 t4]
  | 2 => #[.int 100 t1, .int 1 t2, .int 100 t3, .int 2 t4, .int 50 t5, .str (Str.ofString "rc") t6]
  | _ => #[.int 100 t1, .int 1 t2, .int 100 t3, .int 2 t4, .int 200 t5, .str (Str.ofString "pl") t6]
local macro_rules | `(tactic| walk_at "call builtin:re.Pattern.split") => `(tactic| (k_here; k_dflt (refine' call_split ?k1 ?k2 ?k3 (fun N tk => split0 N tk _) ?_); (case k1 => k_asm); (case k2 => k_asm); (case k3 => k_asm); k_whole; intro l' h' tk' F' N' l1; (dsimp only [strsFrom] at N'); (try k_lt l1); (try k_sweep)))
theorem ver0 (w : World) (mean : ExcName → Option Value) (mg mb : Str → Option Value) (dp un : Nat) (gd : Option (List Code)) (cn : Str) (cs : Scope) (a : Addr) (ccd : Value) (cl : List (Str × Addr)) (outer : List Env) (A₀ : Around) (base h₀ : Heap) (L : Addr) (m : Str → Option Value) (s : Shared) (Q E : Value → Shared → Prop) (t : Tok)
    (B : Below A₀ base outer h₀) (F : Fr h₀ L s.heap m) (X : (kmk.heap_1 w.params).In h₀) (p0 : Program) (lo0 : List Str) (T : Top p0 lo0 mean mg mb h₀) (hk : cs.kind = .function)
    (hdp : dp + 1 < recursionLimit) (hu : un + 8 < cLine)
    (k : ∀ l h' tk' t1 t2 t3 t4 c, (∀ b o, s.heap.get? b = some o → h'.get? b = some o) → s.heap.get? l = none → h'.get? l = some (listOf (verArr 0 t1 t2 t3 t4 0 0) c) → Q (.ref l) { s with heap := h', toks := tk' }) :
    wpAny (model prog w) (ktrTop dp un gd cn cs L a ccd cl outer) (call (.ref 44) [.str (Str.ofString "1.2") t]) Q E s := by
  refine wpAny_call ?_
  k_dflt (refine' code_here ?k1 ?k2 ?k3 ?k5 ?kA ?kF ?kK ?k6 ?k7 ?k8 ?k9 ?kB ?_ ?c2 ?c3 ?c4 ?c5; (case kA => exact rfl); (case kF => exact rfl); (case kK => assumption); (case k1 => k_asm); (case k2 => k_asm); (case k3 => k_asm); (case k5 => k_asm); (case k6 => k_is); (case k7 => k_is); (case k8 => ktr_room); (case k9 => exact BindsTo.of_eq rfl); (case c5 => decide); (case kB => exact locs rfl); (case c2 => exact rfl); (case c3 => exact rfl); (case c4 => exact rfl); k_whole; intro g' L' h' hg' F' N' B' X' T'; (try dsimp only); (try k_lift B'); (try k_fold))
  k_steps
  refine k _ _ _ _ _ _ _ _ (fin_keep (by with_reducible assumption) (by with_reducible assumption)) (fin_new (by with_reducible assumption) (by with_reducible assumption) (by (repeat (first | exact List.Mem.head _ | apply List.Mem.tail)))) (fin_get (by with_reducible assumption) (by (repeat (first | exact List.Mem.head _ | apply List.Mem.tail))))
local macro_rules | `(tactic| walk_at "call builtin:re.Pattern.split") => `(tactic| (k_here; k_dflt (refine' call_split ?k1 ?k2 ?k3 (fun N tk => split1 N tk _) ?_); (case k1 => k_asm); (case k2 => k_asm); (case k3 => k_asm); k_whole; intro l' h' tk' F' N' l1; (dsimp only [strsFrom] at N'); (try k_lt l1); (try k_sweep)))
theorem ver1 (w : World) (mean : ExcName → Option Value) (mg mb : Str → Option Value) (dp un : Nat) (gd : Option (List Code)) (cn : Str) (cs : Scope) (a : Addr) (ccd : Value) (cl : List (Str × Addr)) (outer : List Env) (A₀ : Around) (base h₀ : Heap) (L : Addr) (m : Str → Option Value) (s : Shared) (Q E : Value → Shared → Prop) (t : Tok)
    (B : Below A₀ base outer h₀) (F : Fr h₀ L s.heap m) (X : (kmk.heap_1 w.params).In h₀) (p0 : Program) (lo0 : List Str) (T : Top p0 lo0 mean mg mb h₀) (hk : cs.kind = .function)
    (hdp : dp + 1 < recursionLimit) (hu : un + 8 < cLine)
    (k : ∀ l h' tk' t1 t2 t3 t4 c, (∀ b o, s.heap.get? b = some o → h'.get? b = some o) → s.heap.get? l = none → h'.get? l = some (listOf (verArr 1 t1 t2 t3 t4 0 0) c) → Q (.ref l) { s with heap := h', toks := tk' }) :
    wpAny (model prog w) (ktrTop dp un gd cn cs L a ccd cl outer) (call (.ref 44) [.str (Str.ofString "1.10") t]) Q E s := by
  refine wpAny_call ?_
  k_dflt (refine' code_here ?k1 ?k2 ?k3 ?k5 ?kA ?kF ?kK ?k6 ?k7 ?k8 ?k9 ?kB ?_ ?c2 ?c3 ?c4 ?c5; (case kA => exact rfl); (case kF => exact rfl); (case kK => assumption); (case k1 => k_asm); (case k2 => k_asm); (case k3 => k_asm); (case k5 => k_asm); (case k6 => k_is); (case k7 => k_is); (case k8 => ktr_room); (case k9 => exact BindsTo.of_eq rfl); (case c5 => decide); (case kB => exact locs rfl); (case c2 => exact rfl); (case c3 => exact rfl); (case c4 => exact rfl); k_whole; intro g' L' h' hg' F' N' B' X' T'; (try dsimp only); (try k_lift B'); (try k_fold))
  k_steps
  refine k _ _ _ _ _ _ _ _ (fin_keep (by with_reducible assumption) (by with_reducible assumption)) (fin_new (by with_reducible assumption) (by with_reducible assumption) (by (repeat (first | exact List.Mem.head _ | apply List.Mem.tail)))) (fin_get (by with_reducible assumption) (by (repeat (first | exact List.Mem.head _ | apply List.Mem.tail))))
end Mine
end
/- Lt1 -/
section
open PySem PySem.W PyProof.Rows PySem.Calls
namespace Mine
set_option maxRecDepth 100000
set_option maxHeartbeats 4000000
/-- list < list: the first place where they differ decides, else the lengths -/
def ltFrom (e c : Nat → Bool) (m1 m2 : Nat) : Nat → Nat → Bool
  | 0, _ => decide (m1 < m2)
  | k + 1, i => if i < m1 ∧ i < m2 then (if e i then ltFrom e c m1 m2 k (i + 1) else c i) else decide (m1 < m2)
theorem ltFrom_succ (e c : Nat → Bool) (m1 m2 k i : Nat) : ltFrom e c m1 m2 (k + 1) i = if i < m1 ∧ i < m2 then (if e i then ltFrom e c m1 m2 k (i + 1) else c i) else decide (m1 < m2) := rfl
open PySem.SeqAt PySem.MeetsSeq PySem.MeetsSeq2 PySem.MeetsSeq3 PySem.SeqRoads2 in
open PySem.AutoSeq1 (wpAny_loadPart') in
theorem lt_loopAt (l b : Addr) (items items2 : Array Value) (n n2 : Nat) (dd dd2 : Option Addr) (sl sl2 : Array (Option Value)) (e c : Nat → Bool)
    (hc : ∀ j (h1 : j < items.size) (h2 : j < items2.size), (∀ i < j, e i = true) → e j = false → ∃ x t y u, items[j] = .int x t ∧ items2[j] = .int y u ∧ c j = decide (x < y)) (k : Nat) :
    ∀ i : Nat, items.size - i ≤ k → (∀ i' < i, e i' = true) → Meets (Builtin.«list.__eq__.loop» ⟨[.ref l, .ref b, rawInt i, rawInt 0], []⟩)
      (fun A R s => s.heap.get? l = some { cls := .type "list", dict := dd, data := .seq items n, slots := sl } ∧ s.heap.get? b = some { cls := .type "list", dict := dd2, data := .seq items2 n2, slots := sl2 } ∧
        (∀ j (h1 : j < items.size) (h2 : j < items2.size), EqAt A.in1 s items[j] items2[j] (e j)) ∧
        R (.ok (.ret (.bool (ltFrom e c items.size items2.size (k + 1) i)))) s) := by
  induction k with
  | zero =>
    intro i hk hpre prog w A R s h
    obtain ⟨hp, g, d, tk, os⟩ := s; obtain ⟨hl, hb, he, h⟩ := h
    wp_walk using wpAny_loadPart' hl, wpAny_loadPart' hb
    have hi1 : items[((i : Nat) : Int).toNat]? = none := by simp; omega
    rw [ltFrom_succ, if_neg (by omega)] at h
    rw [hi1]
    wp_walk using wpAny_loadPart' hl, wpAny_loadPart' hb
    exact h
  | succ k ih =>
    intro i hk hpre prog w A R s h
    obtain ⟨hp, g, d, tk, os⟩ := s; obtain ⟨hl, hb, he, h⟩ := h
    wp_walk using wpAny_loadPart' hl, wpAny_loadPart' hb
    have hcc : ((i : Int) + 1) = ((i + 1 : Nat) : Int) := by push_cast; rfl
    by_cases hlt : i < items.size ∧ i < items2.size
    · have hi1 : items[((i : Nat) : Int).toNat]? = some items[i] := by simp [hlt.1]
      have hi2 : items2[((i : Nat) : Int).toNat]? = some items2[i] := by simp [hlt.2]
      rw [ltFrom_succ, if_pos hlt] at h
      rw [hi1, hi2]
      refine wpAny_bind (he i hlt.1 hlt.2 prog w _ _ ?_)
      cases hb' : e i with
      | true =>
        rw [hb'] at h
        wp_walk
        rw [hcc]
        exact ⟨plainId_quiet plain_eq_loop _, codeAny_builtin entry_eq_loop (by
          rw [Around.under_plainId plain_eq_loop _]
          exact ih (i + 1) (by omega) (fun i' hi' => by rcases Nat.lt_or_ge i' i with h | h; exact hpre i' h; rw [show i' = i by omega]; exact hb') prog w A R _ ⟨hl, hb, he, by simpa using h⟩)⟩
      | false =>
        rw [hb'] at h
        wp_walk using wpAny_loadPart' hl, wpAny_loadPart' hb
        rw [hi1, hi2]
        obtain ⟨x, t, y, u, e1, e2, e3⟩ := hc i hlt.1 hlt.2 hpre hb'
        rw [e1, e2]
        refine wpAny_bind (wpAny_lt_int ?_)
        wp_walk
        have h' : R (.ok (.ret (.bool (c i)))) _ := h
        rw [e3] at h'
        exact h'
    · rw [ltFrom_succ, if_neg hlt] at h
      have this : items[((i : Nat) : Int).toNat]? = none ∨ items2[((i : Nat) : Int).toNat]? = none := by simp; omega
      rcases this with hi | hi
      · rw [hi]
        wp_walk using wpAny_loadPart' hl, wpAny_loadPart' hb
        exact h
      · rw [hi]
        cases items[((i : Nat) : Int).toNat]? with
        | none =>
          wp_walk using wpAny_loadPart' hl, wpAny_loadPart' hb
          exact h
        | some v =>
          wp_walk using wpAny_loadPart' hl, wpAny_loadPart' hb
          exact h
open PySem.SeqAt PySem.MeetsSeq PySem.MeetsSeq2 PySem.MeetsSeq3 PySem.SeqRoads2 in
open PySem.AutoSeq1 (wpAny_loadPart') in
theorem list_ltAt (l b : Addr) (items items2 : Array Value) (n n2 : Nat) (dd dd2 : Option Addr) (sl sl2 : Array (Option Value)) (e c : Nat → Bool)
    (hc : ∀ j (h1 : j < items.size) (h2 : j < items2.size), (∀ i < j, e i = true) → e j = false → ∃ x t y u, items[j] = .int x t ∧ items2[j] = .int y u ∧ c j = decide (x < y)) :
    Meets (Builtin.«list.__lt__» ⟨[.ref l, .ref b], []⟩)
      (fun A R s => s.heap.get? l = some { cls := .type "list", dict := dd, data := .seq items n, slots := sl } ∧ s.heap.get? b = some { cls := .type "list", dict := dd2, data := .seq items2 n2, slots := sl2 } ∧
        (∀ j (h1 : j < items.size) (h2 : j < items2.size), EqAt A.in1 s items[j] items2[j] (e j)) ∧
        R (.ok (.ret (.bool (ltFrom e c items.size items2.size (items.size + 1) 0)))) s) := by
  intro prog w A R s h
  obtain ⟨hp, g, d, tk, os⟩ := s; obtain ⟨hl, hb, he, h⟩ := h
  have f3 := AutoSeq1.sub_list_list
  wp_walk using wpAny_loadPart' hl, wpAny_loadPart' hb
  exact ⟨plainId_quiet plain_eq_loop _, codeAny_builtin entry_eq_loop (by
    rw [Around.under_plainId plain_eq_loop _]
    exact lt_loopAt l b items items2 n n2 dd dd2 sl sl2 e c hc _ 0 (Nat.le_refl _) (fun _ h => absurd h (Nat.not_lt_zero _)) prog w A R _ ⟨hl, hb, he, by simpa using h⟩)⟩
end Mine
end
/- CvInt -/
section
open PySem PySem.W PySem.W.X PyProof.Rows
namespace Mine
set_option maxRecDepth 100000
set_option maxHeartbeats 4000000
def codeI (x : String) (t t' : Tok) : Code := .call (.type "int") ⟨[.str (Str.ofString x) t, .int 10 t'], []⟩
/-- where int is called: the loop of the parts, in _comparable_version, in the loop of the fleet -/
structure Where2 where
  W : Where
  p : Pos
  bC : List Stmt
  eC : Env
  pC : Pos
  tgt : PySem.Expr
  it : Value
  bd : List Stmt
  oe : List Stmt
  env : Env
  own : Option Value
  past : Option Value
def Where2.ctx (V : Where2) : Ctx := ⟨.forLoop V.tgt V.it V.bd V.oe V.env, none, V.own, (.func V.bC V.eC, V.pC) :: (V.W.ctx.code, V.p) :: V.W.ctx.below, V.past⟩
noncomputable def runI (w : World) (N G t0 : Nat) (x : String) (t t' : Tok) (tab : Array Value) (c : List Nat) (V : Where2) (p : Pos) : Option (End × SS) :=
  sim (vP w N G t0) 5000 (V.ctx.enter (codeI x t t') none p) p (fastDen (codeI x t t')) [] (S0 tab c)
/-- what is seen of an exception -/
def excSeen (o : Option Obj) : Option (Value × Option Value × Option Value) := match o with
  | some ⟨c, _, .fields vs, _⟩ => some (c, vs[0]?, vs[1]?)
  | _ => none
def tellsI (r : Option (End × SS)) : Option (Value × List GenState × Array Value × List Nat × List (Nat × Nat) × Option (Value × Option Value × Option Value)) := match r with
  | some (.ret (.error v), S) => some (v, S.gl, S.tab, S.checks.map (·.1), S.apart, excSeen (S.T.get 1))
  | _ => none
def wantsI (r : Option (End × SS)) (N : Nat) (tab : Array Value) : Option (Value × List GenState × Array Value × List Nat × List (Nat × Nat) × Option (Value × Option Value × Option Value)) := match r with
  | some (_, S) => some (.ref (N + 1), [], tab, S.checks.map (·.2), [], some (.type "ValueError", some (.ref N), some .none))
  | none => some (.none, [], #[], [], [], none)
def certI : List Nat := List.replicate 20 0
theorem runI_rc_ff (w : World) (N G t0 : Nat) (t t' : Tok) (tab : Array Value) (V : Where2) (p : Pos) : tellsI (runI (wF w false false) N G t0 "rc" t t' tab certI V p) = wantsI (runI (wF w false false) N G t0 "rc" t t' tab certI V p) N tab := by kernel_rfl
theorem runI_rc_ft (w : World) (N G t0 : Nat) (t t' : Tok) (tab : Array Value) (V : Where2) (p : Pos) : tellsI (runI (wF w false true) N G t0 "rc" t t' tab certI V p) = wantsI (runI (wF w false true) N G t0 "rc" t t' tab certI V p) N tab := by kernel_rfl
theorem runI_rc_tf (w : World) (N G t0 : Nat) (t t' : Tok) (tab : Array Value) (V : Where2) (p : Pos) : tellsI (runI (wF w true false) N G t0 "rc" t t' tab certI V p) = wantsI (runI (wF w true false) N G t0 "rc" t t' tab certI V p) N tab := by kernel_rfl
theorem runI_rc_tt (w : World) (N G t0 : Nat) (t t' : Tok) (tab : Array Value) (V : Where2) (p : Pos) : tellsI (runI (wF w true true) N G t0 "rc" t t' tab certI V p) = wantsI (runI (wF w true true) N G t0 "rc" t t' tab certI V p) N tab := by kernel_rfl
theorem runI_pl_ff (w : World) (N G t0 : Nat) (t t' : Tok) (tab : Array Value) (V : Where2) (p : Pos) : tellsI (runI (wF w false false) N G t0 "pl" t t' tab certI V p) = wantsI (runI (wF w false false) N G t0 "pl" t t' tab certI V p) N tab := by kernel_rfl
theorem runI_pl_ft (w : World) (N G t0 : Nat) (t t' : Tok) (tab : Array Value) (V : Where2) (p : Pos) : tellsI (runI (wF w false true) N G t0 "pl" t t' tab certI V p) = wantsI (runI (wF w false true) N G t0 "pl" t t' tab certI V p) N tab := by kernel_rfl
theorem runI_pl_tf (w : World) (N G t0 : Nat) (t t' : Tok) (tab : Array Value) (V : Where2) (p : Pos) : tellsI (runI (wF w true false) N G t0 "pl" t t' tab certI V p) = wantsI (runI (wF w true false) N G t0 "pl" t t' tab certI V p) N tab := by kernel_rfl
theorem runI_pl_tt (w : World) (N G t0 : Nat) (t t' : Tok) (tab : Array Value) (V : Where2) (p : Pos) : tellsI (runI (wF w true true) N G t0 "pl" t t' tab certI V p) = wantsI (runI (wF w true true) N G t0 "pl" t t' tab certI V p) N tab := by kernel_rfl
/-- the state behind int of a text that is no number -/
structure IntOut (s s' : Shared) (e : Addr) : Prop where
  keep : ∀ b o, s.heap.get? b = some o → s'.heap.get? b = some o
  new : s.heap.get? e = none
  exc : ∃ oe vs a0, s'.heap.get? e = some oe ∧ oe.cls = .type "ValueError" ∧ oe.data = .fields vs ∧ vs[0]? = some a0 ∧ vs[1]? = some .none
  gens : s'.gens = s.gens
  drawn : s'.drawn = s.drawn
  os : s'.os = s.os
theorem use_runI {w : World} {s : Shared} {x : String} {t t' : Tok} {tab : Array Value} {V : Where2} {p : Pos}
    (KX : KnowIn w s.heap) (ht : s.heap.get? 46 = some (tableObj tab))
    (h : tellsI (runI w s.heap.objs.size s.gens.size s.toks x t t' tab certI V p) = wantsI (runI w s.heap.objs.size s.gens.size s.toks x t t' tab certI V p) s.heap.objs.size tab) :
    ∃ e s', Returns (model therow.prog w) (V.ctx.enter (codeI x t t') none p) p s (.error (.ref e)) s' ∧ IntOut s s' e := by
  have hlt : 46 < s.heap.objs.size := Heap.lt_size ht
  have O := ok_of KX hlt
  cases hr : runI w s.heap.objs.size s.gens.size s.toks x t t' tab certI V p with
  | none => rw [hr] at h; simp [tellsI, wantsI] at h
  | some r =>
    obtain ⟨e, S⟩ := r
    rw [hr] at h
    unfold tellsI wantsI at h
    dsimp only at h
    split at h
    · rename_i v S₁ heq
      simp only [Option.some.injEq, Prod.mk.injEq] at heq h
      obtain ⟨rfl, rfl⟩ := heq
      obtain ⟨e1, e2, e3, e4, e5, e6⟩ := h
      subst e1
      obtain ⟨_, b⟩ := sim_sound (d := s.drawn) (os := s.os) O _ _ _ _ _ _ _ _ hr
      obtain ⟨s', r, D⟩ := b ⟨map_eq_all e4, by rw [e5]; exact fun _ hp => nomatch hp⟩ s ⟨rfl, nil_own, fun _ _ _ e => e, ht, (by show s.gens = s.gens ++ #[]; simp), rfl, rfl, rfl⟩
      refine ⟨s.heap.objs.size + 1, s', ?_, ⟨fun b o e => ?_, ?_, ?_, ?_, D.drawn, D.os⟩⟩
      · unfold Returns
        rw [← fastDen_eq] at r
        exact r
      · by_cases hb : b = 46
        · subst hb
          rw [D.tab, e3, ← ht]; exact e
        · exact D.keep b o hb e
      · cases q : s.heap.get? (s.heap.objs.size + 1) with
        | none => rfl
        | some o => exact absurd (Heap.lt_size q) (Nat.not_lt.mpr (Nat.le_succ _))
      · unfold excSeen at e6
        split at e6
        · rename_i c dd vs sl hT
          simp only [Option.some.injEq, Prod.mk.injEq] at e6
          obtain ⟨e7, e8, e9⟩ := e6
          exact ⟨_, vs, _, (D.own _ _ hT).2, e7, rfl, e8, e9⟩
        · cases e6
      · rw [D.gens, e2]
        apply Array.ext'
        simp
    · simp at h
theorem int_raises {s : Shared} {V : Where2} {p : Pos} {t t' : Tok} {tab : Array Value} (w : World) {x : String} (hx : x = "rc" ∨ x = "pl") (KX : KnowIn w s.heap) (ht : s.heap.get? 46 = some (tableObj tab)) :
    ∃ e s', Returns (model therow.prog w) (V.ctx.enter (codeI x t t') none p) p s (.error (.ref e)) s' ∧ IntOut s s' e := by
  refine of_follow (P := fun w => KnowIn w s.heap → ∃ e s', Returns (model therow.prog w) (V.ctx.enter (codeI x t t') none p) p s (.error (.ref e)) s' ∧ IntOut s s' e) w (fun b1 b2 KX => ?_) KX
  rcases hx with rfl | rfl
  · cases b1 <;> cases b2
    · exact use_runI KX ht (runI_rc_ff ..)
    · exact use_runI KX ht (runI_rc_ft ..)
    · exact use_runI KX ht (runI_rc_tf ..)
    · exact use_runI KX ht (runI_rc_tt ..)
  · cases b1 <;> cases b2
    · exact use_runI KX ht (runI_pl_ff ..)
    · exact use_runI KX ht (runI_pl_ft ..)
    · exact use_runI KX ht (runI_pl_tf ..)
    · exact use_runI KX ht (runI_pl_tt ..)
end Mine
end
/- CvF -/
section
open PySem PySem.W PySem.W.X PyProof.Rows PySem.Calls
namespace Mine
set_option maxRecDepth 100000
set_option maxHeartbeats 4000000
section
variable {prog : Program} {w : World} {A₀ : Around} {E : Value → Shared → Prop} {s' : Shared} {base g h : Heap} {outer : List Env} {L a e : Addr} {m : Str → Option Value} {name : Str} {scope : Scope} {cd : Value}
  {b₀ : Stmt} {suite : List Stmt} {pos np : Pos} {rest : List ExceptHandler} {Q : Flow → Shared → Prop} {news : List (Addr × Obj)} {KF : Frag}
  {p : Program} {loose : List Str} {mean : ExcName → Option Value} {mg mb : Str → Option Value} {x : Str} {X T' : String}
/-- an exception that a call of a built-in has just made, in this frame, and this frame catches it -/
theorem caught_here (K : Below A₀ base outer g) (F : Fr g L h m) (N : News g L h news) (hkeep : ∀ b o, h.get? b = some o → s'.heap.get? b = some o) (hnew : h.get? e = none)
    (hthere : ∃ oe vs a0, s'.heap.get? e = some oe ∧ oe.cls = .type X ∧ oe.data = .fields vs ∧ vs[0]? = some a0 ∧ vs[1]? = some .none) (XB : KF.In base) (TB : Top p loose mean mg mb base)
    (ex : nsIn KF mainGlobals x = some none) (hv : bootBuiltins x = some (.type T')) (hn' : x ≠ "__name__")
    (hexc : isSubtype (.type T') (.type "BaseException") = pure true) (hnt : isSubtype (.type ((Manifest.find? T').elim "type" fun y => y.metatype)) (.type "tuple") = pure false) (hsub : isSubtype (.type X) (.type T') = pure true)
    (k : ∀ h' g', KtsTurn (outer.filterMap (·.frame)) g g' → Fr g' L h' m → News g' L h' news → Below A₀ base outer g' → KF.In g' → Top p loose mean mg mb g' →
      wpAny (model prog w) ((A₀.deeper (envOf name scope L a cd)).mark (some (.ref e))) (execs (b₀ :: suite) (envOf name scope L a cd)) Q noE { s' with heap := h' })
    (hk : scope.kind = .function) (hx : (envOf name scope L a cd).kindOf x = some .globalImplicit) (hd : (x == ("__debug__" : Str)) = false) :
    wpAny (model prog w) (A₀.deeper (envOf name scope L a cd)) (noteFrame (.ref e) (envOf name scope L a cd))
      (fun _ s₂ => wpAny (model prog w) (A₀.deeper (envOf name scope L a cd)) (setFlight (.ref e) none) (fun _ s₃ =>
        wpAny (model prog w) (A₀.deeper (envOf name scope L a cd)) (handleBy (.ref e) (envOf name scope L a cd) (.ExceptHandler (some (.Name x np)) none (b₀ :: suite) pos :: rest)) Q noE s₃) noE s₂) noE s' := by
  obtain ⟨oe, vs, a0, he, hcls, hdat, h0, h1⟩ := hthere
  have K' := K.push (name := name) (a := a) (cd := cd) F hk
  have hin : ∀ env ∈ (envOf name scope L a cd :: outer), ∀ b, env.frame = some b → b ∈ (envOf name scope L a cd :: outer).filterMap (·.frame) := fun env he b hb => List.mem_filterMap.mpr ⟨env, he, hb⟩
  have hff : h.FunFrames (hideAll h ((envOf name scope L a cd :: outer).filterMap (·.frame))) (envOf name scope L a cd :: outer) := funFrames_hide K'.frames hin
  have hBG : ∀ b o, h.get? b = some o → b ∉ (envOf name scope L a cd :: outer).filterMap (·.frame) → (hideAll h ((envOf name scope L a cd :: outer).filterMap (·.frame))).get? b = some o := fun b o e n => hideAll_get _ e n
  have hff' : s'.heap.FunFrames (hideAll h ((envOf name scope L a cd :: outer).filterMap (·.frame))) (envOf name scope L a cd :: outer) := hff.of_keeps fun b o e _ => ⟨o, hkeep b o e, rfl⟩
  have hsz : 1 < vs.size := (Array.getElem?_eq_some_iff.mp h1).1
  have hen : (hideAll h ((envOf name scope L a cd :: outer).filterMap (·.frame))).get? e = none := by
    cases q : (hideAll h ((envOf name scope L a cd :: outer).filterMap (·.frame))).get? e with
    | none => rfl
    | some o => rw [of_hideAll _ q] at hnew; cases hnew
  unfold noteFrame
  simp only [show (envOf name scope L a cd).frame = some L from rfl]
  refine wpAny_bind (wpAny_field he hdat h1 ?_)
  rw [if_neg (by decide)]
  refine wpAny_entryW (base := hideAll h ((envOf name scope L a cd :: outer).filterMap (·.frame))) (a0 := a0) (Around.frames_deeper K.stack) hff' rfl he (fun b o eb => hkeep b o (of_hideAll _ eb)) hen hdat hsz h0 fun h₄ hN => ?_
  obtain ⟨n1, n2, n3, n4⟩ := hN
  have hheld₄ : Heap.HeldW (hideAll h ((envOf name scope L a cd :: outer).filterMap (·.frame))) (envOf name scope L a cd :: outer) e oe.cls a0 L h₄ := ⟨n1, hen, n2, n3⟩
  have hsm₄ : h.UpToSlots h₄ := fun b o hb hn => n4 b o (hkeep b o hb) hn
  refine wpAny_landsW hheld₄ fun h₅ hheld hsm₅' => ?_
  have hsm₅ := hsm₄.trans hsm₅'
  obtain ⟨g₅, T₅, F₅, K₅⟩ := kts_ground K F hBG hheld.1 hsm₅
  have X₅ : KF.In g₅ := XB.keeps K₅.stays
  have P₅ : TopRead p loose mg mb g₅ := topRead_of (TB.keeps K₅.stays)
  obtain ⟨ob, hob, hobc⟩ := hheld.there
  refine wpAny_handleBy_builtin (X := X) (T := T') (b := true) hexc hnt hsub (name_B F₅ X₅ P₅ ex hv hn' ⟨rfl, ⟨ob, hob, hobc.trans hcls⟩, ?_⟩ hk hx hd)
  refine lands_againW hheld fun h₆ hfl₆ hsm₆ => ?_
  obtain ⟨g₆, T₆, F₆, K₆⟩ := kts_ground K F hBG hfl₆.1 (hsm₅.trans hsm₆)
  have Nl : News g₆ L h₆ news := fun q hq => ⟨hfl₆.1 _ _ (hideAll_get _ (N q hq).1 fun hm => ?_), (N q hq).2.1, T₆.none_ _ (N q hq).2.2⟩
  · exact wpAny_passesOwnAt PassesOwnAt.never (k h₆ g₆ T₆ F₆ Nl K₆ (XB.keeps K₆.stays) (TB.keeps K₆.stays))
  · rcases kts_mem hm with z | z
    · exact (N q hq).2.1 z
    · obtain ⟨_, o, ho, _⟩ := K.frames.mem z
      rw [(N q hq).2.2] at ho; cases ho
end
end Mine
end
/- Gl3 -/
section
open PySem PySem.W PyProof.Rows PySem.Calls
open Sem (wp)
namespace Mine
set_option maxRecDepth 100000
set_option maxHeartbeats 4000000
/-- the iterator of a list, as an object -/
def itObj (o : Obj) (l : Addr) (i : Nat) : Prop := o.cls = .type "list_iterator" ∧ o.data = .fields #[.ref l, .int i 0]
section
variable {prog : Program} {w : World} {Γ : Ctx} {A : Around} {s : Shared} {g : Heap} {L a I l : Addr} {m : Str → Option Value} {name : Str} {scope : Scope} {cd : Value} {news : List (Addr × Obj)} {Q : Flow → Shared → Prop}
  {x : Str} {tp : Pos} {body : List Stmt} {i : Nat} {items : Array Value} {v : Value} {oI ol : Obj} {n : Nat}
theorem letOwned_Name (it v : Value) : letOwnedTupleGo (.Name x tp) it v = pure () := rfl
theorem okC_turn (hc : Γ.code = .forLoop (.Name x tp) (.ref I) body [] (envOf name scope L a cd)) (hΓ : Γ.In A) (F : Fr g L s.heap m) (N : News g L s.heap ((I, oI) :: (l, ol) :: news))
    (hI : itObj oI l i) (hlc : ol.cls = .type "list") (hld : ol.data = .seq items n) (hne : l ≠ I) (hnn : ∀ q ∈ news, q.1 ≠ I) (hx : items[i]? = some v)
    (h : ∀ h' oI' tk, itObj oI' l (i + 1) → Fr g L h' (fun y => if y = x then some v else m y) → News g L h' ((I, oI') :: (l, ol) :: news) →
      wpG (model prog w) Γ (execs body (envOf name scope L a cd)) (fun f s₃ => match f with
          | .next | .cont => okC (model prog w) Γ Q s₃
          | .brk => Q .next s₃
          | .ret v => Q (.ret v) s₃) noE { s with heap := h', toks := tk })
    (hk : scope.kind = .function) (hl : (envOf name scope L a cd).kindOf x = some .local) : okC (model prog w) Γ Q s := by
  refine okC_forTurn hc ?_ (fun v => letOwned_Name _ v)
  have n1 := N _ (.head _)
  have n2 := N _ (.tail _ (.head _))
  refine wpG_any hΓ (wpAny_pyNext_list_item (l := l) (i := i) (items := items) ⟨oI, n1.1, hI.1, hI.2⟩ ⟨ol, n2.1, hlc, n, hld⟩ hx fun h' hit' hs => ?_)
  obtain ⟨oI', ho', hc', hd'⟩ := hit'
  have F' : Fr g L h' m := ⟨F.ns.sameBut hs (Ne.symm n1.2.1), fun b o e => (hs.2 b (fun q => by rw [q, n1.2.2] at e; cases e)).trans (F.keep b o e), F.above⟩
  have N' : News g L h' ((I, oI') :: (l, ol) :: news) := fun q hq => by
    rcases List.mem_cons.mp hq with rfl | hq
    · exact ⟨ho', n1.2⟩
    · have hqI : q.1 ≠ I := by
        rcases List.mem_cons.mp hq with rfl | hq
        · exact hne
        · exact hnn q hq
      exact ⟨(hs.2 _ hqI).trans (N q (.tail _ hq)).1, (N q (.tail _ hq)).2⟩
  have hself : Γ.goto (.forLoop (.Name x tp) (.ref I) body [] (envOf name scope L a cd)) = Γ := by rw [← hc]; rfl
  rw [hself]
  exact wpG_any hΓ (wpAny_assign_Name (stN F' N' (fun h₂ F₂ N₂ => h h₂ oI' _ ⟨hc', hd'⟩ F₂ N₂) hk hl))
theorem okC_turns_end (hc : Γ.code = .forLoop (.Name x tp) (.ref I) body [] (envOf name scope L a cd)) (hΓ : Γ.In A) (hB : Γ.Below A) (hh : A.handled = none) (F : Fr g L s.heap m) (N : News g L s.heap ((I, oI) :: (l, ol) :: news))
    (hI : itObj oI l i) (hlc : ol.cls = .type "list") (hld : ol.data = .seq items n) (hnn : ∀ q ∈ news, q.1 ≠ I) (hx : items[i]? = none)
    (h : ∀ h', Fr g L h' m → News g L h' news → Q .next { s with heap := h' }) : okC (model prog w) Γ Q s := by
  refine okC_forTurn hc ?_ (fun v => letOwned_Name _ v)
  have n1 := N _ (.head _)
  have n2 := N _ (.tail _ (.head _))
  refine wpG_any hΓ (wpAny_pyNext_list_end (l := l) (i := i) (items := items) hh ⟨oI, n1.1, hI.1, hI.2⟩ ⟨ol, n2.1, hlc, n, hld⟩ hx fun h' hs => ?_)
  refine okC_any (A := A) (hB.goto _) (codeAny_block (wpAny_execs_nil ?_))
  refine h h' ⟨?_, fun b o e => hs b o (fun q => by rw [q, n1.2.2] at e; cases e) (F.keep b o e), F.above⟩ fun q hq => ⟨hs _ _ (hnn q hq) (N q (.tail _ (.tail _ hq))).1, (N q (.tail _ (.tail _ hq))).2⟩
  obtain ⟨oL, es, ep, hL, r⟩ := F.ns
  exact ⟨oL, es, ep, hs _ _ (Ne.symm n1.2.1) hL, r⟩
end
section
variable {prog : Program} {w : World} {Γ : Ctx} {A : Around} {s : Shared} {g : Heap} {L a I l : Addr} {m : Str → Option Value} {name : Str} {scope : Scope} {cd : Value} {news : List (Addr × Obj)} {Q : Flow → Shared → Prop}
  {x : Str} {tp : Pos} {body : List Stmt} {i : Nat} {items : Array Value} {v : Value} {oI ol : Obj} {n : Nat} {cl : List (Str × Addr)}
theorem letOwned_NameX (it v : Value) : letOwnedTupleGo (.Name x tp) it v = pure () := rfl
theorem okC_turnX (hc : Γ.code = .forLoop (.Name x tp) (.ref I) body [] (envX name scope L a cd cl)) (hΓ : Γ.In A) (F : Fr g L s.heap m) (N : News g L s.heap ((I, oI) :: (l, ol) :: news))
    (hI : itObj oI l i) (hlc : ol.cls = .type "list") (hld : ol.data = .seq items n) (hne : l ≠ I) (hnn : ∀ q ∈ news, q.1 ≠ I) (hx : items[i]? = some v)
    (h : ∀ h' oI' tk, itObj oI' l (i + 1) → Fr g L h' (fun y => if y = x then some v else m y) → News g L h' ((I, oI') :: (l, ol) :: news) →
      wpG (model prog w) Γ (execs body (envX name scope L a cd cl)) (fun f s₃ => match f with
          | .next | .cont => okC (model prog w) Γ Q s₃
          | .brk => Q .next s₃
          | .ret v => Q (.ret v) s₃) noE { s with heap := h', toks := tk })
    (hk : scope.kind = .function) (hl : (envX name scope L a cd cl).kindOf x = some .local) : okC (model prog w) Γ Q s := by
  refine okC_forTurn hc ?_ (fun v => letOwned_NameX _ v)
  have n1 := N _ (.head _)
  have n2 := N _ (.tail _ (.head _))
  refine wpG_any hΓ (wpAny_pyNext_list_item (l := l) (i := i) (items := items) ⟨oI, n1.1, hI.1, hI.2⟩ ⟨ol, n2.1, hlc, n, hld⟩ hx fun h' hit' hs => ?_)
  obtain ⟨oI', ho', hc', hd'⟩ := hit'
  have F' : Fr g L h' m := ⟨F.ns.sameBut hs (Ne.symm n1.2.1), fun b o e => (hs.2 b (fun q => by rw [q, n1.2.2] at e; cases e)).trans (F.keep b o e), F.above⟩
  have N' : News g L h' ((I, oI') :: (l, ol) :: news) := fun q hq => by
    rcases List.mem_cons.mp hq with rfl | hq
    · exact ⟨ho', n1.2⟩
    · have hqI : q.1 ≠ I := by
        rcases List.mem_cons.mp hq with rfl | hq
        · exact hne
        · exact hnn q hq
      exact ⟨(hs.2 _ hqI).trans (N q (.tail _ hq)).1, (N q (.tail _ hq)).2⟩
  have hself : Γ.goto (.forLoop (.Name x tp) (.ref I) body [] (envX name scope L a cd cl)) = Γ := by rw [← hc]; rfl
  rw [hself]
  exact wpG_any hΓ (wpAny_assign_Name (storeX_L F' N' (fun h₂ F₂ N₂ => h h₂ oI' _ ⟨hc', hd'⟩ F₂ N₂) hk hl))
theorem okC_turns_endX (hc : Γ.code = .forLoop (.Name x tp) (.ref I) body [] (envX name scope L a cd cl)) (hΓ : Γ.In A) (hB : Γ.Below A) (hh : A.handled = none) (F : Fr g L s.heap m) (N : News g L s.heap ((I, oI) :: (l, ol) :: news))
    (hI : itObj oI l i) (hlc : ol.cls = .type "list") (hld : ol.data = .seq items n) (hne : l ≠ I) (hnn : ∀ q ∈ news, q.1 ≠ I) (hx : items[i]? = none)
    (h : ∀ h', Fr g L h' m → News g L h' ((l, ol) :: news) → Q .next { s with heap := h' }) : okC (model prog w) Γ Q s := by
  refine okC_forTurn hc ?_ (fun v => letOwned_NameX _ v)
  have n1 := N _ (.head _)
  have n2 := N _ (.tail _ (.head _))
  refine wpG_any hΓ (wpAny_pyNext_list_end (l := l) (i := i) (items := items) hh ⟨oI, n1.1, hI.1, hI.2⟩ ⟨ol, n2.1, hlc, n, hld⟩ hx fun h' hs => ?_)
  refine okC_any (A := A) (hB.goto _) (codeAny_block (wpAny_execs_nil ?_))
  refine h h' ⟨?_, fun b o e => hs b o (fun q => by rw [q, n1.2.2] at e; cases e) (F.keep b o e), F.above⟩ fun q hq => ?_
  · obtain ⟨oL, es, ep, hL, r⟩ := F.ns
    exact ⟨oL, es, ep, hs _ _ (Ne.symm n1.2.1) hL, r⟩
  · rcases List.mem_cons.mp hq with rfl | hq
    · exact ⟨hs _ _ hne n2.1, n2.2⟩
    · exact ⟨hs _ _ (hnn q hq) (N q (.tail _ (.tail _ hq))).1, (N q (.tail _ (.tail _ hq))).2⟩
end
end Mine
end
/- CvG -/
section
open PySem PySem.W PySem.W.X PyProof.Rows PySem.Calls
namespace Mine
set_option maxRecDepth 100000
set_option maxHeartbeats 4000000
section
variable {M : Model} {Γ : Ctx} {E : Value → Shared → Prop} {s : Shared} {env : Env}
theorem wpG_Call_type2 {id : Str} {p pos : Pos} {e1 e2 : PySem.Expr} {ty : String} {Q : Value → Shared → Prop}
    (h : wpG M Γ (eval (.Name id p) env) (fun f s₁ => f = .type ty ∧ wpG M Γ (eval e1 env) (fun v1 s₂ => wpG M Γ (eval e2 env) (fun v2 s₃ => wpG M Γ (call (.type ty) [v1, v2]) Q E s₃) E s₂) E s₁) E s)
    (he : starEach [e1, e2] env = (false, eval e1 env) :: starEach [e2] env) (he2 : starEach [e2] env = (false, eval e2 env) :: starEach [] env) : wpG M Γ (eval (.Call (.Name id p) [e1, e2] [] pos) env) Q E s := by
  rw [arm_eval_Call_Name']
  refine wpG_bind (wpG_mono h (fun f s₁ h₁ => ?_) fun _ _ x => x)
  obtain ⟨rfl, h₁⟩ := h₁
  unfold callWith
  have hl : ∃ x y, backTo pos (starEach [e1, e2] env) = [(false, x), (false, y)] := by rw [he, he2]; exact ⟨_, _, rfl⟩
  have hA : wpG M Γ (evalArgs (.type ty) true (backTo pos (starEach [e1, e2] env)) (backToKw pos (keywordEach [] env))) (fun x s₂ => ∃ v1 v2, x = ⟨[v1, v2], []⟩ ∧ wpG M Γ (call (.type ty) [v1, v2]) Q E s₂) E s₁ := by
    have h2 : wpG M Γ (spliced (backTo pos (starEach [e1, e2] env))) (fun vs s₂ => ∃ v1 v2, (Args.mk vs []) = ⟨[v1, v2], []⟩ ∧ wpG M Γ (call (.type ty) [v1, v2]) Q E s₂) E s₁ :=
      wpG_items_cons (wpG_mono h₁ (fun v s₂ h₂ => wpG_items_cons (wpG_mono h₂ (fun v' s₃ h₃ => wpG_items_nil ⟨v, v', rfl, h₃⟩) fun _ _ x => x) he2) fun _ _ x => x) he
    obtain ⟨x, y, hl⟩ := hl
    rw [hl] at h2 ⊢
    exact wpG_evalArgs rfl h2
  refine wpG_bind (wpG_holding (wpG_mono hA (fun x s₂ h₂ => wpG_bind (wpG_standAt ?_)) fun _ _ x => x))
  obtain ⟨v1, v2, rfl, h₃⟩ := h₂
  obtain ⟨x, y, hl⟩ := hl
  rw [hl]
  have tail : wpG M Γ (call (.type ty) [v1, v2] >>= fun r => holding [r] point >>= fun _ => pure r) Q E s₂ :=
    wpG_bind (wpG_mono h₃ (fun r s₃ h₄ => wpG_bind (wpG_holding (wpG_point (wpG_pure h₄)))) fun _ _ x => x)
  exact tail
inductive IsNext : Flow → Prop
  | mk : IsNext .next
structure Seal (P : Prop) : Prop where
  out : P
/-- a leaf of the walk, with what it leaves written down -/
theorem leaf {α : Type} {A : Around} {t : Sem α} {Q : α → Shared → Prop} (P : α → Shared → Prop) (hΓ : Γ.In A) (h : wpAny M A t (fun a s' => Seal (P a s')) noE s) (k : ∀ a s', P a s' → Q a s') : wpG M Γ t Q E s :=
  wpG_any hΓ (wpAny_mono h (fun a s' x => k a s' x.out) fun _ _ x => x.elim)
end
section
variable {prog : Program} {w : World} {Γ : Ctx} {A₀ A : Around} {s : Shared} {base h₀ : Heap} {outer : List Env} {env : Env} {L : Addr} {m : Str → Option Value} {K : Frag} {p : Program} {loose : List Str} {mean : ExcName → Option Value} {mg mb : Str → Option Value}
    {Q : Flow → Shared → Prop} {name qual : Str} {params : Arguments} {body : List Stmt} {scope : Scope} {dV kV doc pm cdv ct oc : Value} {an od : Option Addr} {osl : Array (Option Value)} {f : Addr} {args : Args} {binds : List (Str × Value)}
theorem okC_here (hc : Γ.code = .call (.ref f) args) (hB : Γ.Below A) (B : Below A₀ base outer h₀) (F : Fr h₀ L s.heap m) (X₀ : K.In h₀) (T : Top p loose mean mg mb h₀) (hA : A.frames = some (env :: outer)) (hf : env.frame = some L) (hke : env.scope.kind = .function)
    (ho : K.lookup f = some ⟨oc, od, .func (fnOf name qual params body scope dV kV doc pm an cdv ct), osl⟩) (hcd : codeIn K cdv qual = true) (hroom : A.depth < recursionLimit)
    (hbind : BindsTo s (fnOf name qual params body scope dV kV doc pm an cdv ct) args binds) (hloc : ∀ y ∈ binds, scope.names.lookup y.1 = some .local)
    (h : ∀ g L' h₁, KeepH s.heap g → Fr g L' h₁ (fun y => binds.reverse.lookup y) → News g L' h₁ [] → Below A base (env :: outer) g → K.In g → Top p loose mean mg mb g →
      (Γ.goto (.func body (envOf qual scope L' f cdv))).In (A.deeper (envOf qual scope L' f cdv)) →
      wpG (model prog w) (Γ.goto (.func body (envOf qual scope L' f cdv))) (execs body (envOf qual scope L' f cdv)) (fun fl s' => Q (.ret (match fl with | .ret v => v | _ => .none)) s') noE
        { s with heap := h₁, toks := s.toks + binds.length })
    (hco : scope.isCoroutine = false) (hgen : scope.isGenerator = false) (hk : scope.kind = .function)
    (hcell : ∀ x ∈ scope.names, x.2 ≠ .cell) : okC (model prog w) Γ Q s := by
  refine okC_call_def (A := A) (fd := fnX name qual params body scope [] dV kV doc pm an cdv ct) (body := body) (binds := binds) hc hB hroom ((X₀.keeps F.keep) _ _ ho) rfl (T.nolimit.keeps F.keep) (codeRec_of (X₀.keeps F.keep) hcd) rfl hbind hcell hloc (fun h₁ hns hk₁ => ?_) hco hgen hk
  have B₁ := pushX B F hf hke
  exact okC_func rfl (h s.heap s.heap.objs.size h₁ rfl ⟨hns, fun b o e => hk₁ b o e, Nat.le_refl _⟩ News.nil ⟨hA, B₁.stays, B₁.frames⟩ (X₀.keeps F.keep) (T.keeps F.keep) (hB.goto (.func body (envOf qual scope s.heap.objs.size f cdv))).in)
end
theorem fillG : PySem.Challenge.rw_mr0145_01 = PySem.Challenge.rw_mr0145_01 ∧ Mine.kmk.heap_1 = Mine.kmk.heap_1 := by k_fill; exact ⟨rfl, rfl⟩
local macro_rules | `(tactic| walk_at "getMethod ref") => `(tactic| (k_here; (with_reducible show wpAny _ _ (getMethod (Value.ref 36) _ _) _ _ _); k_dflt (refine' getMethod_split ?k1 ?k2 ?_; (case k1 => k_asm); (case k2 => k_asm); k_whole)))
local macro_rules | `(tactic| walk_at "call type:int") => `(tactic| (k_here; k_dflt (first | (with_reducible refine' call_int2 int_1 ?_) | (with_reducible refine' call_int2 int_2 ?_) | (with_reducible refine' call_int2 int_10 ?_)); k_whole))
local macro_rules | `(tactic| walk_at "compareOp NotIn str str") => `(tactic| (k_here; (with_reducible show wpAny _ _ (compareOp CmpOp.NotIn (Value.str _ _) (Value.str _ _)) _ _ _); k_dflt (first | (with_reducible refine' notin_lit ni_e ?_) | (with_reducible refine' notin_lit ni_1 ?_) | (with_reducible refine' notin_lit ni_2 ?_) | (with_reducible refine' notin_lit ni_10 ?_) | (with_reducible refine' notin_lit ni_dot ?_) | (with_reducible refine' notin_lit ni_dash ?_) | (with_reducible refine' notin_lit ni_rc ?_) | (with_reducible refine' notin_lit ni_pl ?_)); k_whole))
/-- what a call that catches an exception keeps: all, but for the slots of the frames -/
def CvKeep (fs : List Addr) (h h' : Heap) : Prop := (∀ b o, h.get? b = some o → b ∉ fs → h'.get? b = some o) ∧ ∀ b o, h.get? b = some o → b ∈ fs → ∃ sl, h'.get? b = some { o with slots := sl }
theorem news3 {g h : Heap} {L : Addr} {news : List (Addr × Obj)} {a b c : Addr × Obj} (N : News g L h news) (ha : a ∈ news) (hb : b ∈ news) (hc : c ∈ news) : News g L h [a, b, c] := fun q hq => by
  rcases List.mem_cons.mp hq with rfl | hq
  · exact N _ ha
  rcases List.mem_cons.mp hq with rfl | hq
  · exact N _ hb
  rcases List.mem_cons.mp hq with rfl | hq
  · exact N _ hc
  cases hq
theorem nn1 {R P I : Addr} {o : Obj} (h1 : R < P) (h2 : P < I) : ∀ q ∈ [(R, o)], q.1 ≠ I := fun q hq => by
  rcases List.mem_cons.mp hq with rfl | hq
  · exact Nat.ne_of_lt (Nat.lt_trans h1 h2)
  cases hq
theorem enter_for {Γ : Ctx} {A : Around} {tgt : PySem.Expr} {it : Value} {bd oe : List Stmt} {env : Env} {p : Pos} (hΓ : Γ.In A) : (Γ.enter (.forLoop tgt it bd oe env) none p).In A := by
  have h : (Γ.enter (.forLoop tgt it bd oe env) none p).In (A.under (.forLoop tgt it bd oe env)) := (hΓ.enter (.forLoop tgt it bd oe env) none p (by simp)).in
  have e : A.under (.forLoop tgt it bd oe env) = A := Around.under_of_weight rfl rfl
  rw [e] at h
  exact h
theorem okC_asV {M : Model} {Q : Flow → Shared → Prop} {s : Shared} {Γ : Ctx} {W : Where} {c0 : Code} {p pC : Pos} {bC : List Stmt} {eC : Env} {A : Around} {tgt : PySem.Expr} {it : Value} {bd oe : List Stmt} {env : Env} (hΓ : Γ.In A) (e : Γ = (W.ctx.enter c0 none p).goto (.func bC eC))
    (h : ∀ V : Where2, V.ctx.code = .forLoop tgt it bd oe env → V.ctx.In A → V.ctx.Below A → okC M V.ctx Q s) : okC M (Γ.enter (.forLoop tgt it bd oe env) none pC) Q s := by
  have h1 : (Γ.enter (.forLoop tgt it bd oe env) none pC).In A := enter_for hΓ
  have h2 : (Γ.enter (.forLoop tgt it bd oe env) none pC).Below A := hΓ.enter (.forLoop tgt it bd oe env) none pC (by simp)
  subst e
  exact h ⟨W, p, bC, eC, pC, tgt, it, bd, oe, env, _, _⟩ rfl h1 h2
theorem wpG_int_raise {w : World} {V : Where2} {s : Shared} {t t' : Tok} {tab : Array Value} {x : String} {Q : Value → Shared → Prop} {E : Value → Shared → Prop} (hx : x = "rc" ∨ x = "pl") (KX : KnowIn w s.heap) (ht : s.heap.get? 46 = some (tableObj tab))
    (h : ∀ e s', IntOut s s' e → E (.ref e) s') : wpG (model prog w) V.ctx (call (.type "int") [.str (Str.ofString x) t, .int 10 t']) Q E s := fun p => by
  obtain ⟨e, s', r, ho⟩ := int_raises (V := V) (p := p) (t := t) (t' := t') w hx KX ht
  show Sem.wp _ _ (runValue (.call (.type "int") ⟨[.str (Str.ofString x) t, .int 10 t'], []⟩)) _ _ p s
  rw [Sem.wp_runValue]
  exact ⟨_, _, r, h e s' ho⟩
theorem boot_VE : bootBuiltins (Str.ofString "ValueError") = some (.type "ValueError") := by kernel_rfl
theorem sub_VE_BE : isSubtype (.type "ValueError") (.type "BaseException") = pure true := by kernel_rfl
theorem nt_VE : isSubtype (.type ((Manifest.find? "ValueError").elim "type" fun y => y.metatype)) (.type "tuple") = pure false := by kernel_rfl
theorem sub_VE : isSubtype (.type "ValueError") (.type "ValueError") = pure true := by kernel_rfl
theorem fr_norm {g h : Heap} {L : Addr} {m : Str → Option Value} {x : Str} {v : Value} (F : Fr g L h m) (hm : m x = some v) : Fr g L h (fun y => if y = x then some v else m y) := by
  have e : (fun y => if y = x then some v else m y) = m := by
    funext y
    by_cases hy : y = x
    · rw [if_pos hy, hy, hm]
    · rw [if_neg hy]
  rw [e]; exact F

local macro_rules | `(tactic| walk_at "call builtin:re.Pattern.split") => `(tactic| (k_here; k_dflt (refine' call_split ?k1 ?k2 ?k3 (fun N tk => split2 N tk _) ?_); (case k1 => k_asm); (case k2 => k_asm); (case k3 => k_asm); k_whole; intro l' h' tk' F' N' l1; (dsimp only [strsFrom] at N'); (try k_lt l1); (try k_sweep)))
theorem ver2 (w : World) (mean : ExcName → Option Value) (mg mb : Str → Option Value) (dp un : Nat) (gd : Option (List Code)) (cn : Str) (cs : Scope) (a : Addr) (ccd : Value) (cl : List (Str × Addr)) (outer : List Env) (A₀ : Around) (base h₀ : Heap) (L : Addr) (m : Str → Option Value) (s : Shared) (Q : Value → Shared → Prop) (t : Tok)
    (W : Where) (hΓ : W.ctx.In (ktrTop dp un gd cn cs L a ccd cl outer)) (tab : Array Value) (KX : KnowIn w s.heap) (htab : s.heap.get? 46 = some (tableObj tab))
    (B : Below A₀ base outer h₀) (F : Fr h₀ L s.heap m) (XB : (kmk.heap_1 w.params).In base) (p0 : Program) (lo0 : List Str) (TB : Top p0 lo0 mean mg mb base) (hk : cs.kind = .function)
    (hdp : dp + 1 < recursionLimit) (hu : un + 8 < cLine)
    (k : ∀ l h' tk' t1 t2 t3 t4 t5 t6 c, CvKeep ((envX cn cs L a ccd cl :: outer).filterMap (·.frame)) s.heap h' → s.heap.get? l = none → h'.get? l = some (listOf (verArr 2 t1 t2 t3 t4 t5 t6) c) → Q (.ref l) { s with heap := h', toks := tk' }) :
    wpG (model prog w) W.ctx (call (.ref 44) [.str (Str.ofString "1.2rc") t]) Q noE s := by
  refine wpG_call fun p => ?_
  have hB : (W.ctx.enter (.call (.ref 44) ⟨[.str (Str.ofString "1.2rc") t], []⟩) none p).Below (ktrTop dp un gd cn cs L a ccd cl outer) := hΓ.enter _ none p (by simp)
  have X : (kmk.heap_1 w.params).In h₀ := XB.keeps B.stays
  have T : Top p0 lo0 mean mg mb h₀ := TB.keeps B.stays
  k_dflt (refine' okC_here rfl ?kΓ ?k1 ?k2 ?k3 ?k5 ?kA ?kF ?kK ?k6 ?k7 ?k8 ?k9 ?kB ?_ ?c2 ?c3 ?c4 ?c5; (case kΓ => assumption); (case kA => exact rfl); (case kF => exact rfl); (case kK => assumption); (case k1 => k_asm); (case k2 => k_asm); (case k3 => k_asm); (case k5 => k_asm); (case k6 => k_is); (case k7 => k_is); (case k8 => ktr_room); (case k9 => exact BindsTo.of_eq rfl); (case c5 => decide); (case kB => exact locs rfl); (case c2 => exact rfl); (case c3 => exact rfl); (case c4 => exact rfl))
  intro g L' h₁ hg F₁ N₁ B₁ X₁ T₁ hΓ₂
  clear X T B F
  refine wpG_execs_cons ?_
  refine leaf (fun f s' => IsNext f ∧ ∃ (h : Heap) (m : Str → Option Value) (tk : Nat), s' = { s with heap := h, toks := tk } ∧ Fr g L' h (fun y => if y = Str.ofString "component_re" then some (.ref 36) else if y = Str.ofString "version" then some (.str (Str.ofString "1.2rc") t) else m y) ∧ News g L' h []) hΓ₂ ?_ ?_
  · k_steps
    exact ⟨.mk, _, _, _, rfl, fr_norm (fr_norm (by with_reducible assumption) rfl) rfl, by with_reducible assumption⟩
  rintro _ _ ⟨⟨⟩, h₂, m₂, tk₂, rfl, F₂, N₂⟩
  clear F₁ N₁
  refine wpG_execs_cons ?_
  refine leaf (fun f s' => IsNext f ∧ ∃ (R : Addr) (h : Heap) (tk : Nat), s' = { s with heap := h, toks := tk } ∧ Fr g L' h (fun y => if y = Str.ofString "result" then some (.ref R) else if y = Str.ofString "component_re" then some (.ref 36) else if y = Str.ofString "version" then some (.str (Str.ofString "1.2rc") t) else m₂ y) ∧ News g L' h [(R, listOf #[] 0)]) hΓ₂ ?_ ?_
  · k_steps
    exact ⟨.mk, _, _, _, rfl, by with_reducible assumption, by with_reducible assumption⟩
  rintro _ _ ⟨⟨⟩, R, h₃, tk₃, rfl, F₃, N₃⟩
  clear F₂ N₂
  refine wpG_execs_cons ?_
  refine wpG_For ?_ (fun _ => rfl)
  refine leaf (fun v s' => ∃ (P : Addr) (h : Heap) (m : Str → Option Value) (tk tk₀ : Nat), v = .ref P ∧ s' = { s with heap := h, toks := tk } ∧ @LT.lt Nat _ R P ∧ Fr g L' h (fun y => if y = Str.ofString "result" then some (.ref R) else m y) ∧ News g L' h [(P, listOf #[.str (Str.ofString "") tk₀, .str (Str.ofString "1") (tk₀ + 1), .str (Str.ofString "") (tk₀ + 1 + 1), .str (Str.ofString ".") (tk₀ + 1 + 1 + 1), .str (Str.ofString "") (tk₀ + 1 + 1 + 1 + 1), .str (Str.ofString "2") (tk₀ + 1 + 1 + 1 + 1 + 1), .str (Str.ofString "rc") (tk₀ + 1 + 1 + 1 + 1 + 1 + 1)] 0), (R, listOf #[] 0)]) hΓ₂ ?_ ?_
  · k_steps
    exact ⟨_, _, _, _, _, rfl, rfl, by assumption, fr_norm (by with_reducible assumption) rfl, by with_reducible assumption⟩
  rintro _ _ ⟨P, h, m', tk, tk₀, rfl, rfl, hRP, F₂, N₂⟩
  clear F₃ N₃
  generalize hoP : listOf #[.str (Str.ofString "") tk₀, .str (Str.ofString "1") (tk₀ + 1), .str (Str.ofString "") (tk₀ + 1 + 1), .str (Str.ofString ".") (tk₀ + 1 + 1 + 1), .str (Str.ofString "") (tk₀ + 1 + 1 + 1 + 1), .str (Str.ofString "2") (tk₀ + 1 + 1 + 1 + 1 + 1), .str (Str.ofString "rc") (tk₀ + 1 + 1 + 1 + 1 + 1 + 1)] 0 = oP at N₂
  have hoc : oP.cls = .type "list" := hoP ▸ rfl
  have hod : oP.data = .seq #[.str (Str.ofString "") tk₀, .str (Str.ofString "1") (tk₀ + 1), .str (Str.ofString "") (tk₀ + 1 + 1), .str (Str.ofString ".") (tk₀ + 1 + 1 + 1), .str (Str.ofString "") (tk₀ + 1 + 1 + 1 + 1), .str (Str.ofString "2") (tk₀ + 1 + 1 + 1 + 1 + 1), .str (Str.ofString "rc") (tk₀ + 1 + 1 + 1 + 1 + 1 + 1)] 0 := hoP ▸ rfl
  clear hoP
  refine wpG_any hΓ₂ (wpAny_pyIter_list (items := _) ⟨_, (N₂ _ (.head _)).1, hoc, 0, hod⟩ ?_)
  have hPI : @LT.lt Nat _ P h.objs.size := Heap.lt_size (N₂ _ (.head _)).1
  have F₃ := F₂.push { cls := .type "list_iterator", data := .fields #[.ref P, .int 0 0] }
  have N₃ := News.push F₂ N₂ { cls := .type "list_iterator", data := .fields #[.ref P, .int 0 0] }
  generalize hI : h.objs.size = I at hPI N₃ ⊢
  generalize ho : ({ cls := .type "list_iterator", data := .fields #[.ref P, .int 0 0] } : Obj) = oI0 at F₃ N₃ ⊢
  have hit0 : itObj oI0 P 0 := by rw [← ho]; exact ⟨rfl, rfl⟩
  generalize h.push oI0 = h₂ at F₃ N₃ ⊢
  clear ho hI F₂ N₂
  intro p₂
  refine okC_asV (W := W) hΓ₂ rfl fun V hc hΓ₃ hB₃ => ?_
  -- turn 0
  refine okC_turn hc hΓ₃ F₃ N₃ hit0 hoc hod (Nat.ne_of_lt hPI) (nn1 hRP hPI) (v := .str (Str.ofString "") (tk₀)) rfl (fun h' oI1 tk hit1 F' N' => ?_) rfl rfl
  clear F₃ N₃ hit0 oI0
  refine leaf (fun f s' => IsNext f ∧ ∃ (h : Heap) (m : Str → Option Value) (tk : Nat), s' = { s with heap := h, toks := tk } ∧ Fr g L' h (fun y => if y = Str.ofString "result" then some (.ref R) else m y) ∧ News g L' h [(I, oI1), (P, oP), (R, listOf #[] 0)]) hΓ₃ ?_ ?_
  · k_steps
    exact ⟨.mk, _, _, _, rfl, fr_norm (by with_reducible assumption) rfl, news3 (by with_reducible assumption) (by (repeat (first | exact List.Mem.head _ | apply List.Mem.tail))) (by (repeat (first | exact List.Mem.head _ | apply List.Mem.tail))) (by (repeat (first | exact List.Mem.head _ | apply List.Mem.tail)))⟩
  rintro _ _ ⟨⟨⟩, h₄, m₄, tk₄, rfl, F₃, N₃⟩
  show okC _ _ _ _
  clear F' N'
  -- turn 1
  refine okC_turn hc hΓ₃ F₃ N₃ hit1 hoc hod (Nat.ne_of_lt hPI) (nn1 hRP hPI) (v := .str (Str.ofString "1") (tk₀ + 1)) rfl (fun h' oI2 tk hit2 F' N' => ?_) rfl rfl
  clear F₃ N₃ hit1 oI1
  refine leaf (fun f s' => IsNext f ∧ ∃ (h : Heap) (m : Str → Option Value) (tk : Nat) (t1 t2 : Tok), s' = { s with heap := h, toks := tk } ∧ Fr g L' h (fun y => if y = Str.ofString "result" then some (.ref R) else m y) ∧ News g L' h [(I, oI2), (P, oP), (R, listOf #[.int 100 t1, .int 1 t2] (0 + 1))]) hΓ₃ ?_ ?_
  · k_steps
    exact ⟨.mk, _, _, _, _, _, rfl, fr_norm (by with_reducible assumption) rfl, news3 (by with_reducible assumption) (by (repeat (first | exact List.Mem.head _ | apply List.Mem.tail))) (by (repeat (first | exact List.Mem.head _ | apply List.Mem.tail))) (by (repeat (first | exact List.Mem.head _ | apply List.Mem.tail)))⟩
  rintro _ _ ⟨⟨⟩, h₄, m₄, tk₄, t1, t2, rfl, F₃, N₃⟩
  show okC _ _ _ _
  clear F' N'
  -- turn 2
  refine okC_turn hc hΓ₃ F₃ N₃ hit2 hoc hod (Nat.ne_of_lt hPI) (nn1 hRP hPI) (v := .str (Str.ofString "") (tk₀ + 1 + 1)) rfl (fun h' oI3 tk hit3 F' N' => ?_) rfl rfl
  clear F₃ N₃ hit2 oI2
  refine leaf (fun f s' => IsNext f ∧ ∃ (h : Heap) (m : Str → Option Value) (tk : Nat), s' = { s with heap := h, toks := tk } ∧ Fr g L' h (fun y => if y = Str.ofString "result" then some (.ref R) else m y) ∧ News g L' h [(I, oI3), (P, oP), (R, listOf #[.int 100 t1, .int 1 t2] (0 + 1))]) hΓ₃ ?_ ?_
  · k_steps
    exact ⟨.mk, _, _, _, rfl, fr_norm (by with_reducible assumption) rfl, news3 (by with_reducible assumption) (by (repeat (first | exact List.Mem.head _ | apply List.Mem.tail))) (by (repeat (first | exact List.Mem.head _ | apply List.Mem.tail))) (by (repeat (first | exact List.Mem.head _ | apply List.Mem.tail)))⟩
  rintro _ _ ⟨⟨⟩, h₄, m₄, tk₄, rfl, F₃, N₃⟩
  show okC _ _ _ _
  clear F' N'
  -- turn 3
  refine okC_turn hc hΓ₃ F₃ N₃ hit3 hoc hod (Nat.ne_of_lt hPI) (nn1 hRP hPI) (v := .str (Str.ofString ".") (tk₀ + 1 + 1 + 1)) rfl (fun h' oI4 tk hit4 F' N' => ?_) rfl rfl
  clear F₃ N₃ hit3 oI3
  refine leaf (fun f s' => IsNext f ∧ ∃ (h : Heap) (m : Str → Option Value) (tk : Nat), s' = { s with heap := h, toks := tk } ∧ Fr g L' h (fun y => if y = Str.ofString "result" then some (.ref R) else m y) ∧ News g L' h [(I, oI4), (P, oP), (R, listOf #[.int 100 t1, .int 1 t2] (0 + 1))]) hΓ₃ ?_ ?_
  · k_steps
    exact ⟨.mk, _, _, _, rfl, fr_norm (by with_reducible assumption) rfl, news3 (by with_reducible assumption) (by (repeat (first | exact List.Mem.head _ | apply List.Mem.tail))) (by (repeat (first | exact List.Mem.head _ | apply List.Mem.tail))) (by (repeat (first | exact List.Mem.head _ | apply List.Mem.tail)))⟩
  rintro _ _ ⟨⟨⟩, h₄, m₄, tk₄, rfl, F₃, N₃⟩
  show okC _ _ _ _
  clear F' N'
  -- turn 4
  refine okC_turn hc hΓ₃ F₃ N₃ hit4 hoc hod (Nat.ne_of_lt hPI) (nn1 hRP hPI) (v := .str (Str.ofString "") (tk₀ + 1 + 1 + 1 + 1)) rfl (fun h' oI5 tk hit5 F' N' => ?_) rfl rfl
  clear F₃ N₃ hit4 oI4
  refine leaf (fun f s' => IsNext f ∧ ∃ (h : Heap) (m : Str → Option Value) (tk : Nat), s' = { s with heap := h, toks := tk } ∧ Fr g L' h (fun y => if y = Str.ofString "result" then some (.ref R) else m y) ∧ News g L' h [(I, oI5), (P, oP), (R, listOf #[.int 100 t1, .int 1 t2] (0 + 1))]) hΓ₃ ?_ ?_
  · k_steps
    exact ⟨.mk, _, _, _, rfl, fr_norm (by with_reducible assumption) rfl, news3 (by with_reducible assumption) (by (repeat (first | exact List.Mem.head _ | apply List.Mem.tail))) (by (repeat (first | exact List.Mem.head _ | apply List.Mem.tail))) (by (repeat (first | exact List.Mem.head _ | apply List.Mem.tail)))⟩
  rintro _ _ ⟨⟨⟩, h₄, m₄, tk₄, rfl, F₃, N₃⟩
  show okC _ _ _ _
  clear F' N'
  -- turn 5
  refine okC_turn hc hΓ₃ F₃ N₃ hit5 hoc hod (Nat.ne_of_lt hPI) (nn1 hRP hPI) (v := .str (Str.ofString "2") (tk₀ + 1 + 1 + 1 + 1 + 1)) rfl (fun h' oI6 tk hit6 F' N' => ?_) rfl rfl
  clear F₃ N₃ hit5 oI5
  refine leaf (fun f s' => IsNext f ∧ ∃ (h : Heap) (m : Str → Option Value) (tk : Nat) (t3 t4 : Tok), s' = { s with heap := h, toks := tk } ∧ Fr g L' h (fun y => if y = Str.ofString "result" then some (.ref R) else m y) ∧ News g L' h [(I, oI6), (P, oP), (R, listOf #[.int 100 t1, .int 1 t2, .int 100 t3, .int 2 t4] ((0 + 1) + 1))]) hΓ₃ ?_ ?_
  · k_steps
    exact ⟨.mk, _, _, _, _, _, rfl, fr_norm (by with_reducible assumption) rfl, news3 (by with_reducible assumption) (by (repeat (first | exact List.Mem.head _ | apply List.Mem.tail))) (by (repeat (first | exact List.Mem.head _ | apply List.Mem.tail))) (by (repeat (first | exact List.Mem.head _ | apply List.Mem.tail)))⟩
  rintro _ _ ⟨⟨⟩, h₄, m₄, tk₄, t3, t4, rfl, F₃, N₃⟩
  show okC _ _ _ _
  clear F' N'
  -- turn 6: the raise
  refine okC_turn hc hΓ₃ F₃ N₃ hit6 hoc hod (Nat.ne_of_lt hPI) (nn1 hRP hPI) (v := .str (Str.ofString "rc") (tk₀ + 1 + 1 + 1 + 1 + 1 + 1)) rfl (fun h' oI7 tk hit7 F' N' => ?_) rfl rfl
  clear F₃ N₃ hit6 oI6
  refine wpG_execs_cons ?_
  refine wpG_If ?_
  refine leaf (fun b s' => b = true ∧ ∃ (h : Heap) (tk : Nat), s' = { s with heap := h, toks := tk } ∧ Fr g L' h (fun y => if y = Str.ofString "v" then some (.str (Str.ofString "rc") (tk₀ + 1 + 1 + 1 + 1 + 1 + 1)) else if y = Str.ofString "result" then some (.ref R) else m₄ y) ∧ News g L' h [(I, oI7), (P, oP), (R, listOf #[.int 100 t1, .int 1 t2, .int 100 t3, .int 2 t4] ((0 + 1) + 1))]) hΓ₃ ?_ ?_
  · k_steps
    exact ⟨rfl, _, _, rfl, by with_reducible assumption, news3 (by with_reducible assumption) (by (repeat (first | exact List.Mem.head _ | apply List.Mem.tail))) (by (repeat (first | exact List.Mem.head _ | apply List.Mem.tail))) (by (repeat (first | exact List.Mem.head _ | apply List.Mem.tail)))⟩
  rintro _ _ ⟨rfl, h₅, tk₅, rfl, F₃, N₃⟩
  clear F' N'
  rw [if_pos rfl]
  refine wpG_execs_cons ?_
  refine wpG_Try ?_
  refine wpG_execs_cons ?_
  refine wpG_Assign_Name ?_ rfl
  refine wpG_Call_type2 (ty := "int") ?_ rfl rfl
  refine leaf (fun f s' => f = .type "int" ∧ s' = { s with heap := h₅, toks := tk₅ }) hΓ₃ ?_ ?_
  · k_steps
    exact ⟨rfl, rfl⟩
  rintro _ _ ⟨rfl, rfl⟩
  refine ⟨rfl, ?_⟩
  refine leaf (fun f s' => f = .str (Str.ofString "rc") (tk₀ + 1 + 1 + 1 + 1 + 1 + 1) ∧ s' = { s with heap := h₅, toks := tk₅ }) hΓ₃ ?_ ?_
  · k_steps
    exact ⟨rfl, rfl⟩
  rintro _ _ ⟨rfl, rfl⟩
  refine leaf (fun f s' => ∃ (t' : Tok) (tk' : Nat), f = .int 10 t' ∧ s' = { s with heap := h₅, toks := tk' }) hΓ₃ ?_ ?_
  · k_steps
    exact ⟨_, _, rfl, rfl⟩
  rintro _ _ ⟨t', tk', rfl, rfl⟩
  have KX₅ : KnowIn w h₅ := fun q hq => F₃.keep _ _ (by cases hg; exact KX q hq)
  have htab₅ : h₅.get? 46 = some (tableObj tab) := F₃.keep _ _ (by cases hg; exact htab)
  refine wpG_int_raise (Or.inl rfl) KX₅ htab₅ (fun e s₆ ho => ?_)
  obtain ⟨h₆, g₆, d₆, tk₆, o₆⟩ := s₆
  have e1 := ho.gens
  have e2 := ho.drawn
  have e3 := ho.os
  dsimp only at e1 e2 e3
  subst e1 e2 e3
  refine wpG_any hΓ₃ (wpAny_mono (caught_here (x := Str.ofString "ValueError") (X := "ValueError") (T' := "ValueError") B₁ F₃ N₃ ho.keep ho.new ho.exc XB TB (by k_is) ?_ ?_ ?_ ?_ ?_ (fun h₇ g₇ T₇ F₇ N₇ B₇ X₇ P₇ => ?_) rfl rfl ?_) (fun _ s₂ x => wpG_any hΓ₃ (wpAny_mono x (fun _ s₃ y => wpG_any hΓ₃ y) fun _ _ z => z)) fun _ _ z => z)
  · exact boot_VE
  · decide
  · exact sub_VE_BE
  · exact nt_VE
  · exact sub_VE
  · clear F₃ N₃ X₁ T₁ ho
    refine wpAny_mono (Q := fun f s' => Seal (IsNext f ∧ ∃ (h : Heap) (tk : Nat) (t5 : Tok), s' = { s with heap := h, toks := tk } ∧ Fr g₇ L' h (fun y => if y = Str.ofString "t" then some (.int 50 t5) else if y = Str.ofString "v" then some (.str (Str.ofString "rc") (tk₀ + 1 + 1 + 1 + 1 + 1 + 1)) else if y = Str.ofString "result" then some (.ref R) else m₄ y) ∧ News g₇ L' h [(I, oI7), (P, oP), (R, listOf #[.int 100 t1, .int 1 t2, .int 100 t3, .int 2 t4] ((0 + 1) + 1))])) (E := noE) ?_ ?_ (fun _ _ z => z)
    · k_steps
      trace_state
      exact ⟨.mk, _, _, _, rfl, by with_reducible assumption, by with_reducible assumption⟩
    rintro _ _ ⟨⟨⟩, h₈, tk₈, t5, rfl, F₃, N₃⟩
    clear F₇ N₇
    refine wpG_execs_cons ?_
    refine leaf (fun f s' => IsNext f ∧ ∃ (h : Heap) (m : Str → Option Value) (tk : Nat) (c : Nat), s' = { s with heap := h, toks := tk } ∧ Fr g₇ L' h (fun y => if y = Str.ofString "result" then some (.ref R) else m y) ∧ News g₇ L' h [(I, oI7), (P, oP), (R, listOf #[.int 100 t1, .int 1 t2, .int 100 t3, .int 2 t4, .int 50 t5, .str (Str.ofString "rc") (tk₀ + 1 + 1 + 1 + 1 + 1 + 1)] c)]) hΓ₃ ?_ ?_
    · k_steps
      exact ⟨.mk, _, _, _, _, rfl, fr_norm (by with_reducible assumption) rfl, news3 (by with_reducible assumption) (by (repeat (first | exact List.Mem.head _ | apply List.Mem.tail))) (by (repeat (first | exact List.Mem.head _ | apply List.Mem.tail))) (by (repeat (first | exact List.Mem.head _ | apply List.Mem.tail)))⟩
    rintro _ _ ⟨⟨⟩, h₉, m₉, tk₉, c₉, rfl, F₉, N₉⟩
    clear F₃ N₃
    refine wpG_execs_nil ?_
    refine wpG_execs_nil ?_
    show okC _ _ _ _
    refine okC_turns_end hc hΓ₃ hB₃ rfl F₉ N₉ hit7 hoc hod (nn1 hRP hPI) rfl (fun h₁₀ F₁₀ N₁₀ => ?_)
    clear F₉ N₉
    show wpG _ _ _ _ _ _
    refine wpG_execs_cons ?_
    refine leaf (fun f s' => f = .ret (.ref R) ∧ s' = { s with heap := h₁₀, toks := tk₉ }) hΓ₂ ?_ ?_
    · k_steps
      exact ⟨rfl, rfl⟩
    rintro _ _ ⟨rfl, rfl⟩
    refine k R h₁₀ tk₉ _ _ _ _ _ _ _ ⟨fun b o e n => F₁₀.keep _ _ (T₇.other b o (by cases hg; exact e) n), fun b o e n => ?_⟩ ?_ (N₁₀ _ (.head _)).1
    · obtain ⟨sl, e'⟩ := T₇.frame b o (by cases hg; exact e) n
      exact ⟨sl, F₁₀.keep _ _ e'⟩
    · have := (N₁₀ _ (.head _)).2.2
      cases q : s.heap.get? R with
      | none => rfl
      | some o =>
        obtain ⟨sl, e'⟩ := T₇.up (b := R) (o := o) (by cases hg; exact q)
        rw [e'] at this; cases this
  · decide

local macro_rules | `(tactic| walk_at "call builtin:re.Pattern.split") => `(tactic| (k_here; k_dflt (refine' call_split ?k1 ?k2 ?k3 (fun N tk => split3 N tk _) ?_); (case k1 => k_asm); (case k2 => k_asm); (case k3 => k_asm); k_whole; intro l' h' tk' F' N' l1; (dsimp only [strsFrom] at N'); (try k_lt l1); (try k_sweep)))
theorem ver3 (w : World) (mean : ExcName → Option Value) (mg mb : Str → Option Value) (dp un : Nat) (gd : Option (List Code)) (cn : Str) (cs : Scope) (a : Addr) (ccd : Value) (cl : List (Str × Addr)) (outer : List Env) (A₀ : Around) (base h₀ : Heap) (L : Addr) (m : Str → Option Value) (s : Shared) (Q : Value → Shared → Prop) (t : Tok)
    (W : Where) (hΓ : W.ctx.In (ktrTop dp un gd cn cs L a ccd cl outer)) (tab : Array Value) (KX : KnowIn w s.heap) (htab : s.heap.get? 46 = some (tableObj tab))
    (B : Below A₀ base outer h₀) (F : Fr h₀ L s.heap m) (XB : (kmk.heap_1 w.params).In base) (p0 : Program) (lo0 : List Str) (TB : Top p0 lo0 mean mg mb base) (hk : cs.kind = .function)
    (hdp : dp + 1 < recursionLimit) (hu : un + 8 < cLine)
    (k : ∀ l h' tk' t1 t2 t3 t4 t5 t6 c, CvKeep ((envX cn cs L a ccd cl :: outer).filterMap (·.frame)) s.heap h' → s.heap.get? l = none → h'.get? l = some (listOf (verArr 3 t1 t2 t3 t4 t5 t6) c) → Q (.ref l) { s with heap := h', toks := tk' }) :
    wpG (model prog w) W.ctx (call (.ref 44) [.str (Str.ofString "1.2-pl") t]) Q noE s := by
  refine wpG_call fun p => ?_
  have hB : (W.ctx.enter (.call (.ref 44) ⟨[.str (Str.ofString "1.2-pl") t], []⟩) none p).Below (ktrTop dp un gd cn cs L a ccd cl outer) := hΓ.enter _ none p (by simp)
  have X : (kmk.heap_1 w.params).In h₀ := XB.keeps B.stays
  have T : Top p0 lo0 mean mg mb h₀ := TB.keeps B.stays
  k_dflt (refine' okC_here rfl ?kΓ ?k1 ?k2 ?k3 ?k5 ?kA ?kF ?kK ?k6 ?k7 ?k8 ?k9 ?kB ?_ ?c2 ?c3 ?c4 ?c5; (case kΓ => assumption); (case kA => exact rfl); (case kF => exact rfl); (case kK => assumption); (case k1 => k_asm); (case k2 => k_asm); (case k3 => k_asm); (case k5 => k_asm); (case k6 => k_is); (case k7 => k_is); (case k8 => ktr_room); (case k9 => exact BindsTo.of_eq rfl); (case c5 => decide); (case kB => exact locs rfl); (case c2 => exact rfl); (case c3 => exact rfl); (case c4 => exact rfl))
  intro g L' h₁ hg F₁ N₁ B₁ X₁ T₁ hΓ₂
  clear X T B F
  refine wpG_execs_cons ?_
  refine leaf (fun f s' => IsNext f ∧ ∃ (h : Heap) (m : Str → Option Value) (tk : Nat), s' = { s with heap := h, toks := tk } ∧ Fr g L' h (fun y => if y = Str.ofString "component_re" then some (.ref 36) else if y = Str.ofString "version" then some (.str (Str.ofString "1.2-pl") t) else m y) ∧ News g L' h []) hΓ₂ ?_ ?_
  · k_steps
    exact ⟨.mk, _, _, _, rfl, fr_norm (fr_norm (by with_reducible assumption) rfl) rfl, by with_reducible assumption⟩
  rintro _ _ ⟨⟨⟩, h₂, m₂, tk₂, rfl, F₂, N₂⟩
  clear F₁ N₁
  refine wpG_execs_cons ?_
  refine leaf (fun f s' => IsNext f ∧ ∃ (R : Addr) (h : Heap) (tk : Nat), s' = { s with heap := h, toks := tk } ∧ Fr g L' h (fun y => if y = Str.ofString "result" then some (.ref R) else if y = Str.ofString "component_re" then some (.ref 36) else if y = Str.ofString "version" then some (.str (Str.ofString "1.2-pl") t) else m₂ y) ∧ News g L' h [(R, listOf #[] 0)]) hΓ₂ ?_ ?_
  · k_steps
    exact ⟨.mk, _, _, _, rfl, by with_reducible assumption, by with_reducible assumption⟩
  rintro _ _ ⟨⟨⟩, R, h₃, tk₃, rfl, F₃, N₃⟩
  clear F₂ N₂
  refine wpG_execs_cons ?_
  refine wpG_For ?_ (fun _ => rfl)
  refine leaf (fun v s' => ∃ (P : Addr) (h : Heap) (m : Str → Option Value) (tk tk₀ : Nat), v = .ref P ∧ s' = { s with heap := h, toks := tk } ∧ @LT.lt Nat _ R P ∧ Fr g L' h (fun y => if y = Str.ofString "result" then some (.ref R) else m y) ∧ News g L' h [(P, listOf #[.str (Str.ofString "") tk₀, .str (Str.ofString "1") (tk₀ + 1), .str (Str.ofString "") (tk₀ + 1 + 1), .str (Str.ofString ".") (tk₀ + 1 + 1 + 1), .str (Str.ofString "") (tk₀ + 1 + 1 + 1 + 1), .str (Str.ofString "2") (tk₀ + 1 + 1 + 1 + 1 + 1), .str (Str.ofString "") (tk₀ + 1 + 1 + 1 + 1 + 1 + 1), .str (Str.ofString "-") (tk₀ + 1 + 1 + 1 + 1 + 1 + 1 + 1), .str (Str.ofString "pl") (tk₀ + 1 + 1 + 1 + 1 + 1 + 1 + 1 + 1)] 0), (R, listOf #[] 0)]) hΓ₂ ?_ ?_
  · k_steps
    exact ⟨_, _, _, _, _, rfl, rfl, by assumption, fr_norm (by with_reducible assumption) rfl, by with_reducible assumption⟩
  rintro _ _ ⟨P, h, m', tk, tk₀, rfl, rfl, hRP, F₂, N₂⟩
  clear F₃ N₃
  generalize hoP : listOf #[.str (Str.ofString "") tk₀, .str (Str.ofString "1") (tk₀ + 1), .str (Str.ofString "") (tk₀ + 1 + 1), .str (Str.ofString ".") (tk₀ + 1 + 1 + 1), .str (Str.ofString "") (tk₀ + 1 + 1 + 1 + 1), .str (Str.ofString "2") (tk₀ + 1 + 1 + 1 + 1 + 1), .str (Str.ofString "") (tk₀ + 1 + 1 + 1 + 1 + 1 + 1), .str (Str.ofString "-") (tk₀ + 1 + 1 + 1 + 1 + 1 + 1 + 1), .str (Str.ofString "pl") (tk₀ + 1 + 1 + 1 + 1 + 1 + 1 + 1 + 1)] 0 = oP at N₂
  have hoc : oP.cls = .type "list" := hoP ▸ rfl
  have hod : oP.data = .seq #[.str (Str.ofString "") tk₀, .str (Str.ofString "1") (tk₀ + 1), .str (Str.ofString "") (tk₀ + 1 + 1), .str (Str.ofString ".") (tk₀ + 1 + 1 + 1), .str (Str.ofString "") (tk₀ + 1 + 1 + 1 + 1), .str (Str.ofString "2") (tk₀ + 1 + 1 + 1 + 1 + 1), .str (Str.ofString "") (tk₀ + 1 + 1 + 1 + 1 + 1 + 1), .str (Str.ofString "-") (tk₀ + 1 + 1 + 1 + 1 + 1 + 1 + 1), .str (Str.ofString "pl") (tk₀ + 1 + 1 + 1 + 1 + 1 + 1 + 1 + 1)] 0 := hoP ▸ rfl
  clear hoP
  refine wpG_any hΓ₂ (wpAny_pyIter_list (items := _) ⟨_, (N₂ _ (.head _)).1, hoc, 0, hod⟩ ?_)
  have hPI : @LT.lt Nat _ P h.objs.size := Heap.lt_size (N₂ _ (.head _)).1
  have F₃ := F₂.push { cls := .type "list_iterator", data := .fields #[.ref P, .int 0 0] }
  have N₃ := News.push F₂ N₂ { cls := .type "list_iterator", data := .fields #[.ref P, .int 0 0] }
  generalize hI : h.objs.size = I at hPI N₃ ⊢
  generalize ho : ({ cls := .type "list_iterator", data := .fields #[.ref P, .int 0 0] } : Obj) = oI0 at F₃ N₃ ⊢
  have hit0 : itObj oI0 P 0 := by rw [← ho]; exact ⟨rfl, rfl⟩
  generalize h.push oI0 = h₂ at F₃ N₃ ⊢
  clear ho hI F₂ N₂
  intro p₂
  refine okC_asV (W := W) hΓ₂ rfl fun V hc hΓ₃ hB₃ => ?_
  -- turn 0
  refine okC_turn hc hΓ₃ F₃ N₃ hit0 hoc hod (Nat.ne_of_lt hPI) (nn1 hRP hPI) (v := .str (Str.ofString "") (tk₀)) rfl (fun h' oI1 tk hit1 F' N' => ?_) rfl rfl
  clear F₃ N₃ hit0 oI0
  refine leaf (fun f s' => IsNext f ∧ ∃ (h : Heap) (m : Str → Option Value) (tk : Nat), s' = { s with heap := h, toks := tk } ∧ Fr g L' h (fun y => if y = Str.ofString "result" then some (.ref R) else m y) ∧ News g L' h [(I, oI1), (P, oP), (R, listOf #[] 0)]) hΓ₃ ?_ ?_
  · k_steps
    exact ⟨.mk, _, _, _, rfl, fr_norm (by with_reducible assumption) rfl, news3 (by with_reducible assumption) (by (repeat (first | exact List.Mem.head _ | apply List.Mem.tail))) (by (repeat (first | exact List.Mem.head _ | apply List.Mem.tail))) (by (repeat (first | exact List.Mem.head _ | apply List.Mem.tail)))⟩
  rintro _ _ ⟨⟨⟩, h₄, m₄, tk₄, rfl, F₃, N₃⟩
  show okC _ _ _ _
  clear F' N'
  -- turn 1
  refine okC_turn hc hΓ₃ F₃ N₃ hit1 hoc hod (Nat.ne_of_lt hPI) (nn1 hRP hPI) (v := .str (Str.ofString "1") (tk₀ + 1)) rfl (fun h' oI2 tk hit2 F' N' => ?_) rfl rfl
  clear F₃ N₃ hit1 oI1
  refine leaf (fun f s' => IsNext f ∧ ∃ (h : Heap) (m : Str → Option Value) (tk : Nat) (t1 t2 : Tok), s' = { s with heap := h, toks := tk } ∧ Fr g L' h (fun y => if y = Str.ofString "result" then some (.ref R) else m y) ∧ News g L' h [(I, oI2), (P, oP), (R, listOf #[.int 100 t1, .int 1 t2] (0 + 1))]) hΓ₃ ?_ ?_
  · k_steps
    exact ⟨.mk, _, _, _, _, _, rfl, fr_norm (by with_reducible assumption) rfl, news3 (by with_reducible assumption) (by (repeat (first | exact List.Mem.head _ | apply List.Mem.tail))) (by (repeat (first | exact List.Mem.head _ | apply List.Mem.tail))) (by (repeat (first | exact List.Mem.head _ | apply List.Mem.tail)))⟩
  rintro _ _ ⟨⟨⟩, h₄, m₄, tk₄, t1, t2, rfl, F₃, N₃⟩
  show okC _ _ _ _
  clear F' N'
  -- turn 2
  refine okC_turn hc hΓ₃ F₃ N₃ hit2 hoc hod (Nat.ne_of_lt hPI) (nn1 hRP hPI) (v := .str (Str.ofString "") (tk₀ + 1 + 1)) rfl (fun h' oI3 tk hit3 F' N' => ?_) rfl rfl
  clear F₃ N₃ hit2 oI2
  refine leaf (fun f s' => IsNext f ∧ ∃ (h : Heap) (m : Str → Option Value) (tk : Nat), s' = { s with heap := h, toks := tk } ∧ Fr g L' h (fun y => if y = Str.ofString "result" then some (.ref R) else m y) ∧ News g L' h [(I, oI3), (P, oP), (R, listOf #[.int 100 t1, .int 1 t2] (0 + 1))]) hΓ₃ ?_ ?_
  · k_steps
    exact ⟨.mk, _, _, _, rfl, fr_norm (by with_reducible assumption) rfl, news3 (by with_reducible assumption) (by (repeat (first | exact List.Mem.head _ | apply List.Mem.tail))) (by (repeat (first | exact List.Mem.head _ | apply List.Mem.tail))) (by (repeat (first | exact List.Mem.head _ | apply List.Mem.tail)))⟩
  rintro _ _ ⟨⟨⟩, h₄, m₄, tk₄, rfl, F₃, N₃⟩
  show okC _ _ _ _
  clear F' N'
  -- turn 3
  refine okC_turn hc hΓ₃ F₃ N₃ hit3 hoc hod (Nat.ne_of_lt hPI) (nn1 hRP hPI) (v := .str (Str.ofString ".") (tk₀ + 1 + 1 + 1)) rfl (fun h' oI4 tk hit4 F' N' => ?_) rfl rfl
  clear F₃ N₃ hit3 oI3
  refine leaf (fun f s' => IsNext f ∧ ∃ (h : Heap) (m : Str → Option Value) (tk : Nat), s' = { s with heap := h, toks := tk } ∧ Fr g L' h (fun y => if y = Str.ofString "result" then some (.ref R) else m y) ∧ News g L' h [(I, oI4), (P, oP), (R, listOf #[.int 100 t1, .int 1 t2] (0 + 1))]) hΓ₃ ?_ ?_
  · k_steps
    exact ⟨.mk, _, _, _, rfl, fr_norm (by with_reducible assumption) rfl, news3 (by with_reducible assumption) (by (repeat (first | exact List.Mem.head _ | apply List.Mem.tail))) (by (repeat (first | exact List.Mem.head _ | apply List.Mem.tail))) (by (repeat (first | exact List.Mem.head _ | apply List.Mem.tail)))⟩
  rintro _ _ ⟨⟨⟩, h₄, m₄, tk₄, rfl, F₃, N₃⟩
  show okC _ _ _ _
  clear F' N'
  -- turn 4
  refine okC_turn hc hΓ₃ F₃ N₃ hit4 hoc hod (Nat.ne_of_lt hPI) (nn1 hRP hPI) (v := .str (Str.ofString "") (tk₀ + 1 + 1 + 1 + 1)) rfl (fun h' oI5 tk hit5 F' N' => ?_) rfl rfl
  clear F₃ N₃ hit4 oI4
  refine leaf (fun f s' => IsNext f ∧ ∃ (h : Heap) (m : Str → Option Value) (tk : Nat), s' = { s with heap := h, toks := tk } ∧ Fr g L' h (fun y => if y = Str.ofString "result" then some (.ref R) else m y) ∧ News g L' h [(I, oI5), (P, oP), (R, listOf #[.int 100 t1, .int 1 t2] (0 + 1))]) hΓ₃ ?_ ?_
  · k_steps
    exact ⟨.mk, _, _, _, rfl, fr_norm (by with_reducible assumption) rfl, news3 (by with_reducible assumption) (by (repeat (first | exact List.Mem.head _ | apply List.Mem.tail))) (by (repeat (first | exact List.Mem.head _ | apply List.Mem.tail))) (by (repeat (first | exact List.Mem.head _ | apply List.Mem.tail)))⟩
  rintro _ _ ⟨⟨⟩, h₄, m₄, tk₄, rfl, F₃, N₃⟩
  show okC _ _ _ _
  clear F' N'
  -- turn 5
  refine okC_turn hc hΓ₃ F₃ N₃ hit5 hoc hod (Nat.ne_of_lt hPI) (nn1 hRP hPI) (v := .str (Str.ofString "2") (tk₀ + 1 + 1 + 1 + 1 + 1)) rfl (fun h' oI6 tk hit6 F' N' => ?_) rfl rfl
  clear F₃ N₃ hit5 oI5
  refine leaf (fun f s' => IsNext f ∧ ∃ (h : Heap) (m : Str → Option Value) (tk : Nat) (t3 t4 : Tok), s' = { s with heap := h, toks := tk } ∧ Fr g L' h (fun y => if y = Str.ofString "result" then some (.ref R) else m y) ∧ News g L' h [(I, oI6), (P, oP), (R, listOf #[.int 100 t1, .int 1 t2, .int 100 t3, .int 2 t4] ((0 + 1) + 1))]) hΓ₃ ?_ ?_
  · k_steps
    exact ⟨.mk, _, _, _, _, _, rfl, fr_norm (by with_reducible assumption) rfl, news3 (by with_reducible assumption) (by (repeat (first | exact List.Mem.head _ | apply List.Mem.tail))) (by (repeat (first | exact List.Mem.head _ | apply List.Mem.tail))) (by (repeat (first | exact List.Mem.head _ | apply List.Mem.tail)))⟩
  rintro _ _ ⟨⟨⟩, h₄, m₄, tk₄, t3, t4, rfl, F₃, N₃⟩
  show okC _ _ _ _
  clear F' N'
  -- turn 6
  refine okC_turn hc hΓ₃ F₃ N₃ hit6 hoc hod (Nat.ne_of_lt hPI) (nn1 hRP hPI) (v := .str (Str.ofString "") (tk₀ + 1 + 1 + 1 + 1 + 1 + 1)) rfl (fun h' oI7 tk hit7 F' N' => ?_) rfl rfl
  clear F₃ N₃ hit6 oI6
  refine leaf (fun f s' => IsNext f ∧ ∃ (h : Heap) (m : Str → Option Value) (tk : Nat), s' = { s with heap := h, toks := tk } ∧ Fr g L' h (fun y => if y = Str.ofString "result" then some (.ref R) else m y) ∧ News g L' h [(I, oI7), (P, oP), (R, listOf #[.int 100 t1, .int 1 t2, .int 100 t3, .int 2 t4] ((0 + 1) + 1))]) hΓ₃ ?_ ?_
  · k_steps
    exact ⟨.mk, _, _, _, rfl, fr_norm (by with_reducible assumption) rfl, news3 (by with_reducible assumption) (by (repeat (first | exact List.Mem.head _ | apply List.Mem.tail))) (by (repeat (first | exact List.Mem.head _ | apply List.Mem.tail))) (by (repeat (first | exact List.Mem.head _ | apply List.Mem.tail)))⟩
  rintro _ _ ⟨⟨⟩, h₄, m₄, tk₄, rfl, F₃, N₃⟩
  show okC _ _ _ _
  clear F' N'
  -- turn 7
  refine okC_turn hc hΓ₃ F₃ N₃ hit7 hoc hod (Nat.ne_of_lt hPI) (nn1 hRP hPI) (v := .str (Str.ofString "-") (tk₀ + 1 + 1 + 1 + 1 + 1 + 1 + 1)) rfl (fun h' oI8 tk hit8 F' N' => ?_) rfl rfl
  clear F₃ N₃ hit7 oI7
  refine leaf (fun f s' => IsNext f ∧ ∃ (h : Heap) (m : Str → Option Value) (tk : Nat), s' = { s with heap := h, toks := tk } ∧ Fr g L' h (fun y => if y = Str.ofString "result" then some (.ref R) else m y) ∧ News g L' h [(I, oI8), (P, oP), (R, listOf #[.int 100 t1, .int 1 t2, .int 100 t3, .int 2 t4] ((0 + 1) + 1))]) hΓ₃ ?_ ?_
  · k_steps
    exact ⟨.mk, _, _, _, rfl, fr_norm (by with_reducible assumption) rfl, news3 (by with_reducible assumption) (by (repeat (first | exact List.Mem.head _ | apply List.Mem.tail))) (by (repeat (first | exact List.Mem.head _ | apply List.Mem.tail))) (by (repeat (first | exact List.Mem.head _ | apply List.Mem.tail)))⟩
  rintro _ _ ⟨⟨⟩, h₄, m₄, tk₄, rfl, F₃, N₃⟩
  show okC _ _ _ _
  clear F' N'
  -- turn 8: the raise
  refine okC_turn hc hΓ₃ F₃ N₃ hit8 hoc hod (Nat.ne_of_lt hPI) (nn1 hRP hPI) (v := .str (Str.ofString "pl") (tk₀ + 1 + 1 + 1 + 1 + 1 + 1 + 1 + 1)) rfl (fun h' oI9 tk hit9 F' N' => ?_) rfl rfl
  clear F₃ N₃ hit8 oI8
  refine wpG_execs_cons ?_
  refine wpG_If ?_
  refine leaf (fun b s' => b = true ∧ ∃ (h : Heap) (tk : Nat), s' = { s with heap := h, toks := tk } ∧ Fr g L' h (fun y => if y = Str.ofString "v" then some (.str (Str.ofString "pl") (tk₀ + 1 + 1 + 1 + 1 + 1 + 1 + 1 + 1)) else if y = Str.ofString "result" then some (.ref R) else m₄ y) ∧ News g L' h [(I, oI9), (P, oP), (R, listOf #[.int 100 t1, .int 1 t2, .int 100 t3, .int 2 t4] ((0 + 1) + 1))]) hΓ₃ ?_ ?_
  · k_steps
    exact ⟨rfl, _, _, rfl, by with_reducible assumption, news3 (by with_reducible assumption) (by (repeat (first | exact List.Mem.head _ | apply List.Mem.tail))) (by (repeat (first | exact List.Mem.head _ | apply List.Mem.tail))) (by (repeat (first | exact List.Mem.head _ | apply List.Mem.tail)))⟩
  rintro _ _ ⟨rfl, h₅, tk₅, rfl, F₃, N₃⟩
  clear F' N'
  rw [if_pos rfl]
  refine wpG_execs_cons ?_
  refine wpG_Try ?_
  refine wpG_execs_cons ?_
  refine wpG_Assign_Name ?_ rfl
  refine wpG_Call_type2 (ty := "int") ?_ rfl rfl
  refine leaf (fun f s' => f = .type "int" ∧ s' = { s with heap := h₅, toks := tk₅ }) hΓ₃ ?_ ?_
  · k_steps
    exact ⟨rfl, rfl⟩
  rintro _ _ ⟨rfl, rfl⟩
  refine ⟨rfl, ?_⟩
  refine leaf (fun f s' => f = .str (Str.ofString "pl") (tk₀ + 1 + 1 + 1 + 1 + 1 + 1 + 1 + 1) ∧ s' = { s with heap := h₅, toks := tk₅ }) hΓ₃ ?_ ?_
  · k_steps
    exact ⟨rfl, rfl⟩
  rintro _ _ ⟨rfl, rfl⟩
  refine leaf (fun f s' => ∃ (t' : Tok) (tk' : Nat), f = .int 10 t' ∧ s' = { s with heap := h₅, toks := tk' }) hΓ₃ ?_ ?_
  · k_steps
    exact ⟨_, _, rfl, rfl⟩
  rintro _ _ ⟨t', tk', rfl, rfl⟩
  have KX₅ : KnowIn w h₅ := fun q hq => F₃.keep _ _ (by cases hg; exact KX q hq)
  have htab₅ : h₅.get? 46 = some (tableObj tab) := F₃.keep _ _ (by cases hg; exact htab)
  refine wpG_int_raise (Or.inr rfl) KX₅ htab₅ (fun e s₆ ho => ?_)
  obtain ⟨h₆, g₆, d₆, tk₆, o₆⟩ := s₆
  have e1 := ho.gens
  have e2 := ho.drawn
  have e3 := ho.os
  dsimp only at e1 e2 e3
  subst e1 e2 e3
  refine wpG_any hΓ₃ (wpAny_mono (caught_here (x := Str.ofString "ValueError") (X := "ValueError") (T' := "ValueError") B₁ F₃ N₃ ho.keep ho.new ho.exc XB TB (by k_is) ?_ ?_ ?_ ?_ ?_ (fun h₇ g₇ T₇ F₇ N₇ B₇ X₇ P₇ => ?_) rfl rfl ?_) (fun _ s₂ x => wpG_any hΓ₃ (wpAny_mono x (fun _ s₃ y => wpG_any hΓ₃ y) fun _ _ z => z)) fun _ _ z => z)
  · exact boot_VE
  · decide
  · exact sub_VE_BE
  · exact nt_VE
  · exact sub_VE
  · clear F₃ N₃ X₁ T₁ ho
    refine wpAny_mono (Q := fun f s' => Seal (IsNext f ∧ ∃ (h : Heap) (tk : Nat) (t5 : Tok), s' = { s with heap := h, toks := tk } ∧ Fr g₇ L' h (fun y => if y = Str.ofString "t" then some (.int 200 t5) else if y = Str.ofString "v" then some (.str (Str.ofString "pl") (tk₀ + 1 + 1 + 1 + 1 + 1 + 1 + 1 + 1)) else if y = Str.ofString "result" then some (.ref R) else m₄ y) ∧ News g₇ L' h [(I, oI9), (P, oP), (R, listOf #[.int 100 t1, .int 1 t2, .int 100 t3, .int 2 t4] ((0 + 1) + 1))])) (E := noE) ?_ ?_ (fun _ _ z => z)
    · k_steps
      trace_state
      exact ⟨.mk, _, _, _, rfl, by with_reducible assumption, by with_reducible assumption⟩
    rintro _ _ ⟨⟨⟩, h₈, tk₈, t5, rfl, F₃, N₃⟩
    clear F₇ N₇
    refine wpG_execs_cons ?_
    refine leaf (fun f s' => IsNext f ∧ ∃ (h : Heap) (m : Str → Option Value) (tk : Nat) (c : Nat), s' = { s with heap := h, toks := tk } ∧ Fr g₇ L' h (fun y => if y = Str.ofString "result" then some (.ref R) else m y) ∧ News g₇ L' h [(I, oI9), (P, oP), (R, listOf #[.int 100 t1, .int 1 t2, .int 100 t3, .int 2 t4, .int 200 t5, .str (Str.ofString "pl") (tk₀ + 1 + 1 + 1 + 1 + 1 + 1 + 1 + 1)] c)]) hΓ₃ ?_ ?_
    · k_steps
      exact ⟨.mk, _, _, _, _, rfl, fr_norm (by with_reducible assumption) rfl, news3 (by with_reducible assumption) (by (repeat (first | exact List.Mem.head _ | apply List.Mem.tail))) (by (repeat (first | exact List.Mem.head _ | apply List.Mem.tail))) (by (repeat (first | exact List.Mem.head _ | apply List.Mem.tail)))⟩
    rintro _ _ ⟨⟨⟩, h₉, m₉, tk₉, c₉, rfl, F₉, N₉⟩
    clear F₃ N₃
    refine wpG_execs_nil ?_
    refine wpG_execs_nil ?_
    show okC _ _ _ _
    refine okC_turns_end hc hΓ₃ hB₃ rfl F₉ N₉ hit9 hoc hod (nn1 hRP hPI) rfl (fun h₁₀ F₁₀ N₁₀ => ?_)
    clear F₉ N₉
    show wpG _ _ _ _ _ _
    refine wpG_execs_cons ?_
    refine leaf (fun f s' => f = .ret (.ref R) ∧ s' = { s with heap := h₁₀, toks := tk₉ }) hΓ₂ ?_ ?_
    · k_steps
      exact ⟨rfl, rfl⟩
    rintro _ _ ⟨rfl, rfl⟩
    refine k R h₁₀ tk₉ _ _ _ _ _ _ _ ⟨fun b o e n => F₁₀.keep _ _ (T₇.other b o (by cases hg; exact e) n), fun b o e n => ?_⟩ ?_ (N₁₀ _ (.head _)).1
    · obtain ⟨sl, e'⟩ := T₇.frame b o (by cases hg; exact e) n
      exact ⟨sl, F₁₀.keep _ _ e'⟩
    · have := (N₁₀ _ (.head _)).2.2
      cases q : s.heap.get? R with
      | none => rfl
      | some o =>
        obtain ⟨sl, e'⟩ := T₇.up (b := R) (o := o) (by cases hg; exact q)
        rw [e'] at this; cases this
  · decide
end Mine
end
/- KTold2 -/
section
open PySem PySem.W PySem.W.X PyProof.Rows PySem.Calls
namespace Mine
set_option maxRecDepth 100000
set_option maxHeartbeats 8000000
theorem fillT : PySem.Challenge.rw_mr0145_01 = PySem.Challenge.rw_mr0145_01 ∧ Mine.kmk.heap_1 = Mine.kmk.heap_1 := by k_fill; exact ⟨rfl, rfl⟩
def toldStrs : List Str := [Str.ofString "Linux/", Str.ofString "Linux(::", Str.ofString " Linux ", Str.ofString "unknownLinux",
            Str.ofString "Mac OS", Str.ofString "Mac_OS;", Str.ofString " Mac OS\\", Str.ofString "Mac OS\"",
            Str.ofString "A/B", Str.ofString "A---B", Str.ofString "A:-B", Str.ofString "A\\(B)"]
def relStrs : List Str := [Str.ofString "1.2", Str.ofString "1.10", Str.ofString "1.2rc", Str.ofString "1.2-pl"]
theorem toldStrs_at {j : Nat} (h : j < 12) : toldStrs.getD j Str.empty = Str.ofString (toldText j) := by
  obtain rfl | rfl | rfl | rfl | rfl | rfl | rfl | rfl | rfl | rfl | rfl | rfl : j = 0 ∨ j = 1 ∨ j = 2 ∨ j = 3 ∨ j = 4 ∨ j = 5 ∨ j = 6 ∨ j = 7 ∨ j = 8 ∨ j = 9 ∨ j = 10 ∨ j = 11 := by omega
  all_goals rfl
theorem relStrs_at {j : Nat} (h : j < 4) : relStrs.getD j Str.empty = Str.ofString (relText j) := by
  obtain rfl | rfl | rfl | rfl : j = 0 ∨ j = 1 ∨ j = 2 ∨ j = 3 := by omega
  all_goals rfl
theorem told0 (w : World) (mean : ExcName → Option Value) (mg mb : Str → Option Value) (dp un : Nat) (gd : Option (List Code)) (cn : Str) (cs : Scope) (a : Addr) (ccd : Value) (cl : List (Str × Addr)) (outer : List Env) (A₀ : Around) (base h₀ : Heap) (L : Addr) (m : Str → Option Value) (s : Shared) (Q E : Value → Shared → Prop) (n : Int) (t : Tok)
    (B : Below A₀ base outer h₀) (F : Fr h₀ L s.heap m) (X : (kmk.heap_1 w.params).In h₀) (p0 : Program) (lo0 : List Str) (T : Top p0 lo0 mean mg mb h₀) (hk : cs.kind = .function)
    (hdp : dp + 1 < recursionLimit) (hu : un + 8 < cLine)
    (k : ∀ h' tk' t', (∀ b o, s.heap.get? b = some o → h'.get? b = some o) → Q (.str (toldStrs.getD (n.fmod 12).toNat Str.empty) t') { s with heap := h', toks := tk' }) :
    wpAny (model prog w) (ktrTop dp un gd cn cs L a ccd cl outer) (call (.ref 85) [.int n t]) Q E s := by
  refine wpAny_call ?_
  k_dflt (refine' code_here ?k1 ?k2 ?k3 ?k5 ?kA ?kF ?kK ?k6 ?k7 ?k8 ?k9 ?kB ?_ ?c2 ?c3 ?c4 ?c5; (case kA => exact rfl); (case kF => exact rfl); (case kK => assumption); (case k1 => k_asm); (case k2 => k_asm); (case k3 => k_asm); (case k5 => k_asm); (case k6 => k_is); (case k7 => k_is); (case k8 => ktr_room); (case k9 => exact BindsTo.of_eq rfl); (case c5 => decide); (case kB => exact locs rfl); (case c2 => exact rfl); (case c3 => exact rfl); (case c4 => exact rfl); k_whole; intro g' L' h' hg' F' N' B' X' T'; (try dsimp only); (try k_lift B'); (try k_fold))
  k_steps
  exact k _ _ _ (fin_keep (by with_reducible assumption) (by with_reducible assumption))
theorem rel0 (w : World) (mean : ExcName → Option Value) (mg mb : Str → Option Value) (dp un : Nat) (gd : Option (List Code)) (cn : Str) (cs : Scope) (a : Addr) (ccd : Value) (cl : List (Str × Addr)) (outer : List Env) (A₀ : Around) (base h₀ : Heap) (L : Addr) (m : Str → Option Value) (s : Shared) (Q E : Value → Shared → Prop) (n : Int) (t : Tok)
    (B : Below A₀ base outer h₀) (F : Fr h₀ L s.heap m) (X : (kmk.heap_1 w.params).In h₀) (p0 : Program) (lo0 : List Str) (T : Top p0 lo0 mean mg mb h₀) (hk : cs.kind = .function)
    (hdp : dp + 1 < recursionLimit) (hu : un + 8 < cLine)
    (k : ∀ h' tk' t', (∀ b o, s.heap.get? b = some o → h'.get? b = some o) → Q (.str (relStrs.getD ((n.fdiv 36).fmod 4).toNat Str.empty) t') { s with heap := h', toks := tk' }) :
    wpAny (model prog w) (ktrTop dp un gd cn cs L a ccd cl outer) (call (.ref 92) [.int n t]) Q E s := by
  refine wpAny_call ?_
  k_dflt (refine' code_here ?k1 ?k2 ?k3 ?k5 ?kA ?kF ?kK ?k6 ?k7 ?k8 ?k9 ?kB ?_ ?c2 ?c3 ?c4 ?c5; (case kA => exact rfl); (case kF => exact rfl); (case kK => assumption); (case k1 => k_asm); (case k2 => k_asm); (case k3 => k_asm); (case k5 => k_asm); (case k6 => k_is); (case k7 => k_is); (case k8 => ktr_room); (case k9 => exact BindsTo.of_eq rfl); (case c5 => decide); (case kB => exact locs rfl); (case c2 => exact rfl); (case c3 => exact rfl); (case c4 => exact rfl); k_whole; intro g' L' h' hg' F' N' B' X' T'; (try dsimp only); (try k_lift B'); (try k_fold))
  k_steps
  all_goals (rename_i e _; (have k' := k); rw [e] at k'; exact k' _ _ _ (fin_keep (by with_reducible assumption) (by with_reducible assumption)))
end Mine
end
/- FlA -/
section
open PySem PySem.W PySem.W.X PyProof.Rows PySem.Calls
namespace Mine
set_option maxRecDepth 100000
set_option maxHeartbeats 4000000
/-- the state of a frame, upon some ground over the base -/
def FS (A₀ : Around) (base : Heap) (outer : List Env) (L : Addr) (h : Heap) (m : Str → Option Value) (news : List (Addr × Obj)) : Prop :=
  ∃ h₀, Below A₀ base outer h₀ ∧ Fr h₀ L h m ∧ News h₀ L h news
section
variable {A₀ : Around} {base h h' : Heap} {outer : List Env} {L : Addr} {m : Str → Option Value} {news : List (Addr × Obj)}
theorem fr_keep {h₀ : Heap} (F : Fr h₀ L h m) (k : ∀ b o, h.get? b = some o → h'.get? b = some o) : Fr h₀ L h' m := ⟨F.ns.keeps k, fun b o e => k b o (F.keep b o e), F.above⟩
theorem news_keep {h₀ : Heap} (N : News h₀ L h news) (k : ∀ b o, h.get? b = some o → h'.get? b = some o) : News h₀ L h' news := fun q hq => ⟨k _ _ (N q hq).1, (N q hq).2⟩
theorem news_sub {h₀ : Heap} {news' : List (Addr × Obj)} (N : News h₀ L h news) (k : ∀ q ∈ news', q ∈ news) : News h₀ L h news' := fun q hq => N q (k q hq)
theorem kts_memX {name : Str} {scope : Scope} {L a b : Addr} {cd : Value} {cl : List (Str × Addr)} {outer : List Env} (hm : b ∈ (envX name scope L a cd cl :: outer).filterMap (·.frame)) : b = L ∨ b ∈ outer.filterMap (·.frame) := by
  obtain ⟨env, he, hf⟩ := List.mem_filterMap.mp hm
  rcases List.mem_cons.mp he with rfl | he
  · exact .inl (Option.some.inj hf).symm
  · exact .inr (List.mem_filterMap.mpr ⟨env, he, hf⟩)
/-- behind a call that caught an exception: a new ground -/
theorem cv_ground {h₀ : Heap} {cn : Str} {cs : Scope} {a : Addr} {ccd : Value} {cl : List (Str × Addr)} (B : Below A₀ base outer h₀) (F : Fr h₀ L h m) (N : News h₀ L h news) (k : CvKeep ((envX cn cs L a ccd cl :: outer).filterMap (·.frame)) h h') :
    ∃ h₀', Below A₀ base outer h₀' ∧ Fr h₀' L h' m ∧ News h₀' L h' news ∧ KtsTurn (outer.filterMap (·.frame)) h₀ h₀' := by
  have nL := kts_self F
  have mem : ∀ {b}, b ∈ outer.filterMap (·.frame) → b ∈ (envX cn cs L a ccd cl :: outer).filterMap (·.frame) := fun {b} hb => by
    obtain ⟨env, he, hf⟩ := List.mem_filterMap.mp hb
    exact List.mem_filterMap.mpr ⟨env, .tail _ he, hf⟩
  obtain ⟨T, S⟩ := kts_turn_at (h := h') (fs := outer.filterMap (·.frame)) (g := h₀)
    (fun b hb => by
      obtain ⟨_, o, ho, _⟩ := B.frames.mem hb
      exact ⟨o, ho⟩)
    (fun b o e nm => k.1 b o (F.keep b o e) (fun hm => by
      rcases kts_memX hm with z | z
      · rw [z, nL] at e; cases e
      · exact nm z))
    (fun b o e hm => k.2 b o (F.keep b o e) (mem hm))
  obtain ⟨oL, es, ep, hL, hLd, hLk, hLf⟩ := F.ns
  obtain ⟨sl, hL'⟩ := k.2 L oL hL (List.mem_filterMap.mpr ⟨_, .head _, rfl⟩)
  refine ⟨_, ⟨B.stack, fun b o e => T.other b o (B.stays b o e) (fun hm => by rw [(B.frames.mem hm).1] at e; cases e), B.frames.of_keeps fun b o e _ => ?_⟩, ⟨⟨_, es, ep, hL', hLd, hLk, hLf⟩, S, by rw [T.size]; exact F.above⟩, fun q hq => ⟨k.1 _ _ (N q hq).1 (fun hm => ?_), (N q hq).2.1, T.none_ _ (N q hq).2.2⟩, T⟩
  · obtain ⟨sl, hs⟩ := T.up e
    exact ⟨_, hs, rfl⟩
  · rcases kts_memX hm with z | z
    · exact (N q hq).2.1 z
    · obtain ⟨_, o, ho, _⟩ := B.frames.mem z
      rw [(N q hq).2.2] at ho; cases ho
end
section
variable {w : World} {s : Shared} {Q : Value → Shared → Prop}
theorem wpG_plat {W : Where} {tab : Array Value} {t : Tok} {j : Nat} (hj : j < 12) (htab : (tab = #[] ∧ j = 5) ∨ ∃ C, tab = tabB C) (KX : KnowIn w s.heap) (ht : s.heap.get? 46 = some (tableObj tab))
    (h : ∀ tk s' C, PlatOut s s' (tabB C) → Q (.str (Str.ofString (sysName (j / 4))) tk) s') : wpG (model prog w) W.ctx (call (.ref 51) [.str (Str.ofString (toldText j)) t]) Q noE s := fun p => by
  show Sem.wp _ _ (runValue (.call (.ref 51) ⟨[.str (Str.ofString (toldText j)) t], []⟩)) _ _ p s
  rw [Sem.wp_runValue]
  rcases htab with ⟨rfl, rfl⟩ | ⟨C, rfl⟩
  · obtain ⟨tk, s', C, r, D⟩ := platA (W := W) (p := p) (t := t) w KX ht
    exact ⟨_, _, r, h tk s' C D⟩
  · obtain ⟨tk, s', r, D⟩ := platB (W := W) (p := p) (t := t) w j hj KX ht
    exact ⟨_, _, r, h tk s' C D⟩
end
/-- behind a call of _platform -/
theorem plat_ground {A₀ : Around} {base h₀ : Heap} {outer : List Env} {L : Addr} {m : Str → Option Value} {news : List (Addr × Obj)} {s s' : Shared} {tab tab' : Array Value} (F : Fr h₀ L s.heap m) (N : News h₀ L s.heap ((46, tableObj tab) :: news)) (hne : ∀ q ∈ news, q.1 ≠ 46) (D : PlatOut s s' tab') :
    Fr h₀ L s'.heap m ∧ News h₀ L s'.heap ((46, tableObj tab') :: news) := by
  have n1 := N _ (.head _)
  refine ⟨⟨?_, fun b o e => D.keep b o (fun q => by rw [q, n1.2.2] at e; cases e) (F.keep b o e), F.above⟩, fun q hq => ?_⟩
  · obtain ⟨oL, es, ep, hL, r⟩ := F.ns
    exact ⟨oL, es, ep, D.keep _ _ (Ne.symm n1.2.1) hL, r⟩
  · rcases List.mem_cons.mp hq with rfl | hq
    · exact ⟨D.tab, n1.2⟩
    · exact ⟨D.keep _ _ (hne q hq) (N q (.tail _ hq)).1, (N q (.tail _ hq)).2⟩
end Mine
end
/- FlB -/
section
open PySem PySem.W PySem.W.X PyProof.Rows PySem.Calls
namespace Mine
set_option maxRecDepth 100000
set_option maxHeartbeats 400000
def kindOf (n : Int) : Nat := (n.fmod 12).toNat / 4
def multOf (n : Int) : Nat := ((n.fdiv 12).fmod 3 + 1).toNat
def relOf (n : Int) : Nat := ((n.fdiv 36).fmod 4).toNat
def nameOf (k : Nat) : Str := Str.ofString (sysName k)
def ranks (k : Nat) (done : List Int) : List Nat := done.flatMap fun n => if kindOf n = k then List.replicate (multOf n) (relOf n) else []
def addKey (ks : List Nat) (n : Int) : List Nat := if kindOf n ∈ ks then ks else ks ++ [kindOf n]
def keysOf (done : List Int) : List Nat := done.foldl addKey []
theorem fmod12 (n : Int) : (n.fmod 12).toNat < 12 := by
  have h1 := Int.fmod_nonneg_of_pos n (show (0 : Int) < 12 by decide)
  have h2 := Int.fmod_lt_of_pos n (show (0 : Int) < 12 by decide)
  omega
theorem kindOf_lt (n : Int) : kindOf n < 3 := by have := fmod12 n; unfold kindOf; omega
theorem relOf_lt (n : Int) : relOf n < 4 := by
  have h1 := Int.fmod_nonneg_of_pos (n.fdiv 36) (show (0 : Int) < 4 by decide)
  have h2 := Int.fmod_lt_of_pos (n.fdiv 36) (show (0 : Int) < 4 by decide)
  unfold relOf; omega
theorem mult_is (n : Int) : (n.fdiv 12).fmod 3 + 1 = (multOf n : Int) ∧ 1 ≤ multOf n ∧ multOf n ≤ 3 := by
  have h1 := Int.fmod_nonneg_of_pos (n.fdiv 12) (show (0 : Int) < 3 by decide)
  have h2 := Int.fmod_lt_of_pos (n.fdiv 12) (show (0 : Int) < 3 by decide)
  unfold multOf; omega
theorem nameOf_inj : ∀ {j k : Nat}, j < 3 → k < 3 → nameOf j = nameOf k → j = k := by
  intro j k hj hk
  obtain rfl | rfl | rfl : j = 0 ∨ j = 1 ∨ j = 2 := by omega
  all_goals obtain rfl | rfl | rfl : k = 0 ∨ k = 1 ∨ k = 2 := by omega
  all_goals first | (intro _; rfl) | (intro h; exact absurd h (by decide))
theorem ranks_append (k : Nat) (done : List Int) (n : Int) : ranks k (done ++ [n]) = ranks k done ++ if kindOf n = k then List.replicate (multOf n) (relOf n) else [] := by
  simp [ranks]
theorem ranks_length (k : Nat) (done : List Int) : (ranks k done).length ≤ 3 * done.length := by
  induction done with
  | nil => simp [ranks]
  | cons n l ih =>
    simp only [ranks, List.flatMap_cons, List.length_append, List.length_cons] at ih ⊢
    have := (mult_is n).2.2
    split
    · simp only [List.length_replicate]; omega
    · simp only [List.length_nil]; omega
theorem keysOf_append (done : List Int) (n : Int) : keysOf (done ++ [n]) = addKey (keysOf done) n := by simp [keysOf]
theorem keysOf_length (done : List Int) : (keysOf done).length ≤ done.length := by
  have : ∀ (l : List Int) (ks : List Nat), (l.foldl addKey ks).length ≤ ks.length + l.length := by
    intro l
    induction l with
    | nil => intro ks; simp
    | cons n l ih =>
      intro ks
      have h := ih (addKey ks n)
      have h2 : (addKey ks n).length ≤ ks.length + 1 := by unfold addKey; split <;> simp
      simp only [List.foldl_cons, List.length_cons]
      omega
  have h := this done []
  simpa [keysOf] using h
theorem keysOf_lt (done : List Int) : ∀ k ∈ keysOf done, k < 3 := by
  have : ∀ (l : List Int) (ks : List Nat), (∀ k ∈ ks, k < 3) → ∀ k ∈ l.foldl addKey ks, k < 3 := by
    intro l
    induction l with
    | nil => intro ks h; exact h
    | cons n l ih =>
      intro ks h
      refine ih _ fun k hk => ?_
      unfold addKey at hk
      split at hk
      · exact h k hk
      · rcases List.mem_append.mp hk with hk | hk
        · exact h k hk
        · rw [List.mem_singleton.mp hk]; exact kindOf_lt n
  exact this done [] fun _ h => nomatch h
inductive All2 {α β : Type} (P : α → β → Prop) : List α → List β → Prop
  | nil : All2 P [] []
  | cons {a b l r} : P a b → All2 P l r → All2 P (a :: l) (b :: r)
theorem All2.mono {α β : Type} {P P' : α → β → Prop} (h : ∀ a b, P a b → P' a b) {l : List α} {r : List β} (x : All2 P l r) : All2 P' l r := by
  induction x with
  | nil => exact .nil
  | cons p _ ih => exact .cons (h _ _ p) ih
theorem All2.append {α β : Type} {P : α → β → Prop} {l l' : List α} {r r' : List β} (x : All2 P l r) (y : All2 P l' r') : All2 P (l ++ l') (r ++ r') := by
  induction x with
  | nil => exact y
  | cons p _ ih => exact .cons p ih
theorem All2.replicate {α β : Type} {P : α → β → Prop} {a : α} {b : β} (h : P a b) : ∀ n, All2 P (List.replicate n a) (List.replicate n b)
  | 0 => .nil
  | n + 1 => .cons h (All2.replicate h n)
theorem All2.length {α β : Type} {P : α → β → Prop} {l : List α} {r : List β} (x : All2 P l r) : l.length = r.length := by
  induction x with
  | nil => rfl
  | cons _ _ ih => simp [ih]
def VerAt (rest : List (Addr × Obj)) (v : Value) (r : Nat) : Prop := ∃ a t1 t2 t3 t4 t5 t6 c, v = .ref a ∧ (a, listOf (verArr r t1 t2 t3 t4 t5 t6) c) ∈ rest
def ListAt (rest : List (Addr × Obj)) (v : Value) (rs : List Nat) : Prop := ∃ l vs c, v = .ref l ∧ (l, listOf vs.toArray c) ∈ rest ∧ All2 (VerAt rest) vs rs
theorem VerAt.mono {rest rest' : List (Addr × Obj)} (h : ∀ q ∈ rest, q ∈ rest') {v : Value} {r : Nat} (x : VerAt rest v r) : VerAt rest' v r := by
  obtain ⟨a, t1, t2, t3, t4, t5, t6, c, e, hm⟩ := x
  exact ⟨a, t1, t2, t3, t4, t5, t6, c, e, h _ hm⟩
theorem ListAt.mono {rest rest' : List (Addr × Obj)} (h : ∀ q ∈ rest, q ∈ rest') {v : Value} {rs : List Nat} (x : ListAt rest v rs) : ListAt rest' v rs := by
  obtain ⟨l, vs, c, e, hm, ha⟩ := x
  exact ⟨l, vs, c, e, h _ hm, ha.mono fun _ _ => VerAt.mono h⟩
def DescAt (rest : List (Addr × Obj)) (done : List Int) (k : Nat) : Option Value → Prop
  | none => ranks k done = []
  | some v => ListAt rest v (ranks k done)
structure Desc (rest : List (Addr × Obj)) (kvs : List (Str × Value)) (done : List Int) : Prop where
  look : ∀ k < 3, DescAt rest done k (valueAt kvs (nameOf k))
  keys : kvs.map (·.1) = (keysOf done).map nameOf
theorem valueAt_stored {kvs : List (Str × Value)} {k k' : Str} {v : Value} : valueAt (stored kvs k v) k' = if k' = k then some v else valueAt kvs k' := by
  unfold stored valueAt
  by_cases hk : k' = k
  · subst hk
    rw [if_pos rfl]
    split
    · rename_i h
      induction kvs with
      | nil => simp at h
      | cons q l ih =>
        by_cases hq : q.1 = k'
        · simp [hq]
        · have h' : (l.any fun kv => decide (kv.1 = k')) = true := by simpa [hq] using h
          have := ih h'
          simpa [hq] using this
    · rename_i h
      induction kvs with
      | nil => simp
      | cons q l ih =>
        by_cases hq : q.1 = k'
        · simp [hq] at h
        · have h' : ¬(l.any fun kv => decide (kv.1 = k')) = true := by simpa [hq] using h
          have := ih h'
          simpa [hq] using this
  · rw [if_neg hk]
    split
    · rename_i h
      clear h
      induction kvs with
      | nil => rfl
      | cons q l ih =>
        by_cases hq : q.1 = k
        · have hq' : q.1 ≠ k' := fun e => hk (e ▸ hq)
          have hk2 : ¬ k = k' := fun e => hk e.symm
          simp only [List.map_cons, hq, if_true, List.find?_cons, hk2, decide_false]
          exact ih
        · simp only [List.map_cons, hq, if_false, List.find?_cons]
          split
          · rfl
          · exact ih
    · have hk2 : ¬ k = k' := fun e => hk e.symm
      rw [List.find?_append]
      simp [hk2]
theorem stored_keys {kvs : List (Str × Value)} {k : Str} {v : Value} : (stored kvs k v).map (·.1) = if k ∈ kvs.map (·.1) then kvs.map (·.1) else kvs.map (·.1) ++ [k] := by
  unfold stored
  by_cases h : k ∈ kvs.map (·.1)
  · have h' : (kvs.any fun kv => decide (kv.1 = k)) = true := by
      obtain ⟨q, hq, e⟩ := List.mem_map.mp h
      exact List.any_eq_true.mpr ⟨q, hq, decide_eq_true e⟩
    rw [if_pos h', if_pos h, List.map_map]
    refine List.map_congr_left fun q _ => ?_
    by_cases hq : q.1 = k <;> simp [hq]
  · have h' : ¬(kvs.any fun kv => decide (kv.1 = k)) = true := fun hh => by
      obtain ⟨q, hq, e⟩ := List.any_eq_true.mp hh
      exact h (List.mem_map.mpr ⟨q, hq, of_decide_eq_true e⟩)
    rw [if_neg h', if_neg h]
    simp
theorem Desc.step {rest rest' : List (Addr × Obj)} {kvs : List (Str × Value)} {done : List Int} {n : Int} {l : Addr} {vs : List Value} {c : Nat} {v : Value} (D : Desc rest kvs done) (hsub : ∀ q ∈ rest, q ∈ rest') (hvs : All2 (VerAt rest') vs (ranks (kindOf n) done))
    (hv : VerAt rest' v (relOf n)) (hl : (l, listOf (vs ++ List.replicate (multOf n) v).toArray c) ∈ rest') : Desc rest' (stored kvs (nameOf (kindOf n)) (.ref l)) (done ++ [n]) where
  look := fun k hk => by
    rw [valueAt_stored]
    by_cases e : nameOf k = nameOf (kindOf n)
    · rw [if_pos e]
      have e' := nameOf_inj hk (kindOf_lt n) e
      subst e'
      refine ⟨l, _, c, rfl, hl, ?_⟩
      rw [ranks_append, if_pos rfl]
      exact hvs.append (All2.replicate hv _)
    · rw [if_neg e]
      have hne : ¬ kindOf n = k := fun q => e (by rw [q])
      have := D.look k hk
      cases q : valueAt kvs (nameOf k) with
      | none =>
        rw [q] at this
        show ranks k (done ++ [n]) = []
        rw [ranks_append, if_neg hne, List.append_nil]
        exact this
      | some v =>
        rw [q] at this
        show ListAt rest' v (ranks k (done ++ [n]))
        rw [ranks_append, if_neg hne, List.append_nil]
        exact ListAt.mono hsub this
  keys := by
    rw [stored_keys, D.keys, keysOf_append]
    unfold addKey
    have : nameOf (kindOf n) ∈ (keysOf done).map nameOf ↔ kindOf n ∈ keysOf done := by
      constructor
      · intro h
        obtain ⟨k, hk, e⟩ := List.mem_map.mp h
        have := nameOf_inj (keysOf_lt done k hk) (kindOf_lt n) e
        exact this ▸ hk
      · exact List.mem_map_of_mem
    by_cases h : kindOf n ∈ keysOf done
    · rw [if_pos (this.mpr h), if_pos h]
    · rw [if_neg (fun q => h (this.mp q)), if_neg h, List.map_append]
      rfl
theorem Desc.nil : Desc [] [] [] where
  look := fun _ _ => rfl
  keys := rfl
end Mine
end
/- Lt2 -/
section
open PySem PySem.W PyProof.Rows PySem.Calls
namespace Mine
set_option maxRecDepth 100000
set_option maxHeartbeats 4000000
/-- where a release stands in the order 1.2, 1.2rc, 1.2-pl, 1.10 -/
def rpos : Nat → Nat
  | 0 => 0
  | 1 => 3
  | 2 => 1
  | _ => 2
def vEq : Value → Value → Bool
  | .int a _, .int b _ => a == b
  | .str a _, .str b _ => a == b
  | _, _ => false
def vLt : Value → Value → Bool
  | .int a _, .int b _ => decide (a < b)
  | _, _ => false
/-- the first five items of a rank are whole numbers -/
theorem ver_int (r : Nat) (t1 t2 t3 t4 t5 t6 : Tok) {j : Nat} (hj : j < 5) (h : j < (verArr r t1 t2 t3 t4 t5 t6).size) : ∃ x t, (verArr r t1 t2 t3 t4 t5 t6)[j] = .int x t := by
  rcases r with _ | _ | _ | r
  all_goals (rcases j with _ | _ | _ | _ | _ | j <;> first | exact ⟨_, _, rfl⟩ | (exfalso; exact Nat.not_lt_zero _ (Nat.lt_of_add_lt_add_right (n := 4) h)) | omega)
/-- the sixth item of a rank is a text -/
theorem ver_str (r : Nat) (t1 t2 t3 t4 t5 t6 : Tok) (h : 5 < (verArr r t1 t2 t3 t4 t5 t6).size) : ∃ x t, (verArr r t1 t2 t3 t4 t5 t6)[5] = .str x t := by
  rcases r with _ | _ | _ | r
  · exact absurd (show 5 < 4 from h) (by decide)
  · exact absurd (show 5 < 4 from h) (by decide)
  · exact ⟨_, _, rfl⟩
  · exact ⟨_, _, rfl⟩
theorem ver_six (r : Nat) (t1 t2 t3 t4 t5 t6 : Tok) : (verArr r t1 t2 t3 t4 t5 t6).size ≤ 6 := by
  rcases r with _ | _ | _ | r
  · exact (show 4 ≤ 6 by decide)
  · exact (show 4 ≤ 6 by decide)
  · exact (show 6 ≤ 6 by decide)
  · exact (show 6 ≤ 6 by decide)
open PySem.SeqAt in
theorem ver_eqAt {A : Around} {s : Shared} (r1 r2 : Nat) (t1 t2 t3 t4 t5 t6 u1 u2 u3 u4 u5 u6 : Tok) (j : Nat) (h1 : j < (verArr r1 t1 t2 t3 t4 t5 t6).size) (h2 : j < (verArr r2 u1 u2 u3 u4 u5 u6).size) :
    EqAt A s (verArr r1 t1 t2 t3 t4 t5 t6)[j] (verArr r2 u1 u2 u3 u4 u5 u6)[j] (vEq ((verArr r1 t1 t2 t3 t4 t5 t6).getD j .none) ((verArr r2 u1 u2 u3 u4 u5 u6).getD j .none)) := by
  have e1 : (verArr r1 t1 t2 t3 t4 t5 t6).getD j .none = (verArr r1 t1 t2 t3 t4 t5 t6)[j] := by simp [Array.getD, h1]
  have e2 : (verArr r2 u1 u2 u3 u4 u5 u6).getD j .none = (verArr r2 u1 u2 u3 u4 u5 u6)[j] := by simp [Array.getD, h2]
  rw [e1, e2]
  clear e1 e2
  by_cases hj : j < 5
  · obtain ⟨x, t, e⟩ := ver_int r1 t1 t2 t3 t4 t5 t6 hj h1
    obtain ⟨y, u, e'⟩ := ver_int r2 u1 u2 u3 u4 u5 u6 hj h2
    rw [e, e']
    exact EqAt.int_int _ _ _ _
  · obtain rfl : j = 5 := by have := ver_six r1 t1 t2 t3 t4 t5 t6; omega
    obtain ⟨x, t, e⟩ := ver_str r1 t1 t2 t3 t4 t5 t6 h1
    obtain ⟨y, u, e'⟩ := ver_str r2 u1 u2 u3 u4 u5 u6 h2
    rw [e, e']
    exact EqAt.str_str _ _ _ _
theorem ver_lt {r1 r2 : Nat} (h1 : r1 < 4) (h2 : r2 < 4) (t1 t2 t3 t4 t5 t6 u1 u2 u3 u4 u5 u6 : Tok) :
    ltFrom (fun j => vEq ((verArr r1 t1 t2 t3 t4 t5 t6).getD j .none) ((verArr r2 u1 u2 u3 u4 u5 u6).getD j .none)) (fun j => vLt ((verArr r1 t1 t2 t3 t4 t5 t6).getD j .none) ((verArr r2 u1 u2 u3 u4 u5 u6).getD j .none))
      (verArr r1 t1 t2 t3 t4 t5 t6).size (verArr r2 u1 u2 u3 u4 u5 u6).size ((verArr r1 t1 t2 t3 t4 t5 t6).size + 1) 0 = decide (rpos r1 < rpos r2) := by
  obtain rfl | rfl | rfl | rfl : r1 = 0 ∨ r1 = 1 ∨ r1 = 2 ∨ r1 = 3 := by omega
  all_goals obtain rfl | rfl | rfl | rfl : r2 = 0 ∨ r2 = 1 ∨ r2 = 2 ∨ r2 = 3 := by omega
  all_goals rfl
theorem ver_first {r1 r2 : Nat} (t1 t2 t3 t4 t5 t6 u1 u2 u3 u4 u5 u6 : Tok) (j : Nat) (h1 : j < (verArr r1 t1 t2 t3 t4 t5 t6).size) (h2 : j < (verArr r2 u1 u2 u3 u4 u5 u6).size)
    (hp : ∀ i < j, vEq ((verArr r1 t1 t2 t3 t4 t5 t6).getD i .none) ((verArr r2 u1 u2 u3 u4 u5 u6).getD i .none) = true)
    (hn : vEq ((verArr r1 t1 t2 t3 t4 t5 t6).getD j .none) ((verArr r2 u1 u2 u3 u4 u5 u6).getD j .none) = false) :
    ∃ x t y u, (verArr r1 t1 t2 t3 t4 t5 t6)[j] = .int x t ∧ (verArr r2 u1 u2 u3 u4 u5 u6)[j] = .int y u ∧ vLt ((verArr r1 t1 t2 t3 t4 t5 t6).getD j .none) ((verArr r2 u1 u2 u3 u4 u5 u6).getD j .none) = decide (x < y) := by
  have e1 : (verArr r1 t1 t2 t3 t4 t5 t6).getD j .none = (verArr r1 t1 t2 t3 t4 t5 t6)[j] := by simp [Array.getD, h1]
  have e2 : (verArr r2 u1 u2 u3 u4 u5 u6).getD j .none = (verArr r2 u1 u2 u3 u4 u5 u6)[j] := by simp [Array.getD, h2]
  by_cases hj : j < 5
  · obtain ⟨x, t, e⟩ := ver_int r1 t1 t2 t3 t4 t5 t6 hj h1
    obtain ⟨y, u, e'⟩ := ver_int r2 u1 u2 u3 u4 u5 u6 hj h2
    refine ⟨x, t, y, u, e, e', ?_⟩
    rw [e1, e2, e, e']
    rfl
  · exfalso
    obtain rfl : j = 5 := by have := ver_six r1 t1 t2 t3 t4 t5 t6; omega
    have h4 := hp 4 (by decide)
    clear hp e1 e2
    rcases r1 with _ | _ | _ | r1
    · exact absurd (show 5 < 4 from h1) (by decide)
    · exact absurd (show 5 < 4 from h1) (by decide)
    · rcases r2 with _ | _ | _ | r2
      · exact absurd (show 5 < 4 from h2) (by decide)
      · exact absurd (show 5 < 4 from h2) (by decide)
      · exact absurd (show (Str.ofString "rc" == Str.ofString "rc") = false from hn) (by decide)
      · exact absurd (show ((50 : Int) == 200) = true from h4) (by decide)
    · rcases r2 with _ | _ | _ | r2
      · exact absurd (show 5 < 4 from h2) (by decide)
      · exact absurd (show 5 < 4 from h2) (by decide)
      · exact absurd (show ((200 : Int) == 50) = true from h4) (by decide)
      · exact absurd (show (Str.ofString "pl" == Str.ofString "pl") = false from hn) (by decide)
theorem lt_ver {prog : Program} {w : World} {A : Around} {E : Value → Shared → Prop} {s : Shared} {a b : Addr} {r1 r2 c1 c2 : Nat} {t1 t2 t3 t4 t5 t6 u1 u2 u3 u4 u5 u6 : Tok} {Q : Bool → Shared → Prop} (h1 : r1 < 4) (h2 : r2 < 4) (hu : A.units < cLine)
    (ha : s.heap.get? a = some (listOf (verArr r1 t1 t2 t3 t4 t5 t6) c1)) (hb : s.heap.get? b = some (listOf (verArr r2 u1 u2 u3 u4 u5 u6) c2)) (h : Q (decide (rpos r1 < rpos r2)) s) : wpAny (model prog w) A (keyLt' oneType' (.ref a) (.ref b)) Q E s := by
  rw [keyLt'_oneType, oneLt'_eq]
  simp only [if_true]
  refine wpAny_bind (wpAny_cRoomFor hu ?_)
  refine wpAny_bind (wpAny_callSpecialIfBound?_slot (T := "list") ⟨_, ha, rfl⟩ F.slot_list_lt (call_meets F.slot_list_lt ⟨_, ha, rfl⟩ F.entry_list_lt (F.args_list_lt_2 _ _)
    (list_ltAt a b (verArr r1 t1 t2 t3 t4 t5 t6) (verArr r2 u1 u2 u3 u4 u5 u6) c1 c2 none none #[] #[] _ _ (fun j g1 g2 => ver_first t1 t2 t3 t4 t5 t6 u1 u2 u3 u4 u5 u6 j g1 g2)) ⟨ha, hb, fun j g1 g2 => ver_eqAt r1 r2 t1 t2 t3 t4 t5 t6 u1 u2 u3 u4 u5 u6 j g1 g2, ?_⟩))
  rw [ver_lt h1 h2]
  exact wpAny_truthy_bool h
end Mine
end
/- Lt3 -/
section
open PySem PySem.W PyProof.Rows PySem.Calls
namespace Mine
set_option maxRecDepth 100000
set_option maxHeartbeats 4000000
theorem All2.get {α β : Type} {P : α → β → Prop} {l : List α} {r : List β} (x : All2 P l r) {da : α} {db : β} : ∀ i, i < l.length → P (l.getD i da) (r.getD i db) := by
  induction x with
  | nil => intro i hi; simp at hi
  | cons p _ ih =>
    intro i hi
    cases i with
    | zero => exact p
    | succ i => simpa using ih i (by simpa using hi)
theorem All2.map {α β γ : Type} {P : α → β → Prop} {f : γ → α} {g : γ → β} : ∀ {l : List γ}, (∀ x ∈ l, P (f x) (g x)) → All2 P (l.map f) (l.map g)
  | [], _ => .nil
  | x :: l, h => .cons (h x (.head _)) (All2.map fun y hy => h y (.tail _ hy))
theorem All2.mem {α β : Type} {P : α → β → Prop} {l : List α} {r : List β} (x : All2 P l r) : ∀ a ∈ l, ∃ b, P a b := by
  induction x with
  | nil => intro a ha; cases ha
  | cons p _ ih =>
    intro a ha
    rcases List.mem_cons.mp ha with rfl | ha
    · exact ⟨_, p⟩
    · exact ih a ha
/-- a list of ranks, in a heap -/
def VerH (h : Heap) (v : Value) (r : Nat) : Prop := ∃ a t1 t2 t3 t4 t5 t6 c, v = .ref a ∧ h.get? a = some (listOf (verArr r t1 t2 t3 t4 t5 t6) c)
section
variable {prog : Program} {w : World} {A : Around} {E : Value → Shared → Prop} {s : Shared} {h₀ : Heap} {L l : Addr} {m : Str → Option Value} {news : List (Addr × Obj)} {vs : List Value} {rs : List Nat} {Q : Value → Shared → Prop}
theorem sorted_vers2 (F : Fr h₀ L s.heap m) (N : News h₀ L s.heap news) (hl : s.heap.IsList l vs.toArray) (hvs : All2 (VerH h₀) vs rs) (hrs : ∀ r ∈ rs, r < 4) (h2 : 2 ≤ vs.length) (h64 : vs.length < 64) (hu : A.units + 2 < cLine)
    (k : ∀ D h' c out rs', Fr h₀ L h' m → News h₀ L h' ((D, listOf (List.toArray out) c) :: news) → (∀ q ∈ news, q.1 < D) → All2 (VerH h₀) out rs' → (∀ x ∈ out, x ∈ vs) → rs'.Perm rs → (∀ i j, i ≤ j → j < rs'.length → rpos (rs'.getD i 0) ≤ rpos (rs'.getD j 0)) → Q (.ref D) { s with heap := h' }) :
    wpAny (model prog w) A (call (.builtin "sorted") [.ref l]) Q E s := by
  have hlen := hvs.length
  refine kas_sorted (T := .type "list") F N hl h2 h64 (fun h F' N' v hv => ?_) (by decide) (fun D e1 h' F' N' lt => ?_)
  · obtain ⟨r, a, t1, t2, t3, t4, t5, t6, c, rfl, hm⟩ := hvs.mem v hv
    exact (Looks.ld (F'.keep _ _ hm)).andThen .now
  · have sp := sort_pure prog w s h2 h64 (fun i => (rpos (rs.getD i 0) : Int))
    refine trun_wp (I := fun x => x = { s with heap := h' }) (lt := fun i j => decide ((rpos (rs.getD i 0) : Int) < (rpos (rs.getD j 0) : Int))) (fun i j C s₁ hi hj hs hC => ?_) (tlt_sort (show 0 < vs.length by omega)) rfl (fun s₁ hs _ => ?_)
    · subst hs
      unfold kas_ask
      obtain ⟨a, t1, t2, t3, t4, t5, t6, c, e1, m1⟩ := hvs.get (da := Value.none) (db := 0) i hi
      obtain ⟨b, u1, u2, u3, u4, u5, u6, c', e2, m2⟩ := hvs.get (da := Value.none) (db := 0) j hj
      rw [e1, e2]
      have r1 : rs.getD i 0 < 4 := by
        have : i < rs.length := by omega
        simp [this]; exact hrs _ (List.getElem_mem _)
      have r2 : rs.getD j 0 < 4 := by
        have : j < rs.length := by omega
        simp [this]; exact hrs _ (List.getElem_mem _)
      refine lt_ver r1 r2 hu (F'.keep _ _ m1) (F'.keep _ _ m2) ?_
      have := hC _ rfl
      simpa using this
    · subst hs
      refine KasFin.intro F' N' (.head fun q hq => Nat.ne_of_lt (lt q hq)) (fun h'' c F'' N'' => ?_)
      generalize trun _ _ = pr at sp N''
      refine k D h'' c _ (pr.toList.map fun i => rs.getD i 0) F'' N'' lt (All2.map fun x hx => hvs.get x ?_) (fun y hy => ?_) ?_ (fun i j hij hj => ?_)
      · have := sp.1.mem_iff.mp hx
        exact List.mem_range.mp this
      · obtain ⟨i, hi, rfl⟩ := List.mem_map.mp hy
        have hi' := List.mem_range.mp (sp.1.mem_iff.mp hi)
        have e : vs.getD i Value.none = vs[i] := by simp [hi']
        rw [e]; exact List.getElem_mem _
      · have := sp.1.map fun i => rs.getD i 0
        refine this.trans (List.Perm.of_eq ?_)
        rw [hlen]
        apply List.ext_getElem
        · simp
        · intro i hi1 hi2
          simp at hi1 ⊢
          simp [hi1]
      · have hsz : pr.toList.length = vs.length := by have := sp.1.length_eq; simpa using this
        have hj' : j < vs.length := by simpa [hsz] using hj
        have := sp.2 i j hij hj'
        have g : ∀ i, i < vs.length → (pr.toList.map fun i => rs.getD i 0).getD i 0 = rs.getD (pr.getD i 0) 0 := fun i hi => by
          have hi' : i < pr.size := by have := hsz; simp at this; omega
          simp [Array.getD, hi']
        rw [g i (by omega), g j hj']
        exact Int.ofNat_le.mp this
theorem sorted_one {v : Value} (F : Fr h₀ L s.heap m) (N : News h₀ L s.heap news) (hl : s.heap.IsList l [v].toArray)
    (k : ∀ D h' c, Fr h₀ L h' m → News h₀ L h' ((D, listOf (List.toArray [v]) c) :: news) → (∀ q ∈ news, q.1 < D) → Q (.ref D) { s with heap := h' }) :
    wpAny (model prog w) A (call (.builtin "sorted") [.ref l]) Q E s := by
  refine Calls.call_function_entry kind_sorted plain_sorted entry_sorted (args_sorted1 _) ?_
  unfold Builtin.«sorted»
  refine wpAny_bind (m := checkCount "sorted" 1 1 _) (wpAny_pure ?_)
  refine wpAny_bind (collect_list hl ?_ (by rw [sizeLine_eq]; exact Nat.le_of_ble_eq_true rfl))
  refine wpAny_bind (wpAny_newList ?_ (by rw [sizeLine_eq]; exact Nat.le_of_ble_eq_true rfl))
  have hsz : ((s.heap.push (seqObj "list" #[] 0)).update s.heap.objs.size (Obj.mapSeq (· ++ [v].toArray))).objs.size = s.heap.objs.size + 1 := by
    rw [Heap.size_update, size_push']
  have hoL : (((s.heap.push (seqObj "list" #[] 0)).update s.heap.objs.size (Obj.mapSeq (· ++ [v].toArray))).push (seqObj "list" [v].toArray 0)).get? (s.heap.objs.size + 1) = some (seqObj "list" [v].toArray 0) := by
    rw [← hsz]; exact Heap.get?_push_size _ rfl
  have keep : ∀ b o, s.heap.get? b = some o → (((s.heap.push (seqObj "list" #[] 0)).update s.heap.objs.size (Obj.mapSeq (· ++ [v].toArray))).push (seqObj "list" [v].toArray 0)).get? b = some o := fun b o q => by
    have hlt : b < s.heap.objs.size := Heap.lt_size q
    rw [Heap.get?_push_ne _ _ _ (by rw [hsz]; exact Nat.ne_of_lt (Nat.lt_succ_of_lt hlt)), Heap.get?_update_ne _ _ _ _ (Nat.ne_of_lt hlt), Heap.get?_push_ne _ _ _ (Nat.ne_of_lt hlt)]
    exact q
  have hL : L < s.heap.objs.size := F.ns.lt
  show wpAny _ _ _ _ _ { s with heap := ((s.heap.push (seqObj "list" #[] 0)).update s.heap.objs.size (Obj.mapSeq (· ++ [v].toArray))).push (seqObj "list" [v].toArray 0) }
  rw [hsz]
  generalize ((s.heap.push (seqObj "list" #[] 0)).update s.heap.objs.size (Obj.mapSeq (· ++ [v].toArray))).push (seqObj "list" [v].toArray 0) = H at hoL keep ⊢
  refine wpAny_bind (wpAny_holding (wpAny_call_entry slot_list_sort ⟨_, hoL, rfl⟩ entry_list_sort ?body (args_list_sort _)))
  case body =>
    rw [list_sort_plain]
    have ha : s.heap.objs.size + 1 < H.objs.size := Heap.lt_size hoL
    refine wpAny_bind (listItems_at hoL rfl ?_)
    refine wpAny_bind (listUpdate_at hoL rfl ?_)
    obtain ⟨e1, ho1⟩ : ∃ e1, (H.update (s.heap.objs.size + 1) (Obj.mapSeq fun _ => #[])).get? (s.heap.objs.size + 1) = some (seqObj "list" #[] e1) := ⟨_, get?_update_seq hoL (fun _ => #[])⟩
    refine wpAny_bind (seqEpoch_at ho1 rfl ?_)
    refine wpAny_bind (wpAny_newTuple ?_)
    refine wpAny_bind (wpAny_newList ?_)
    refine wpAny_holding ?_
    have ho6 : (((H.update (s.heap.objs.size + 1) (Obj.mapSeq fun _ => #[])).push (seqObj "tuple" [v].toArray 0)).push (seqObj "list" #[] 0)).get? (s.heap.objs.size + 1) = some (seqObj "list" #[] e1) := by
      rw [Heap.get?_push_ne _ _ _ (by rw [size_push', Heap.size_update]; exact Nat.ne_of_lt (Nat.lt_succ_of_lt ha)), Heap.get?_push_ne _ _ _ (by rw [Heap.size_update]; exact Nat.ne_of_lt ha)]
      exact ho1
    show wpAny (model prog w) _ _ _ _ { s with heap := ((H.update (s.heap.objs.size + 1) (Obj.mapSeq fun _ => #[])).push (seqObj "tuple" [v].toArray 0)).push (seqObj "list" #[] 0) }
    dsimp only
    rw [if_pos (by simp), if_pos (by simp)]
    refine wpAny_bind (wpAny_pure ?_)
    rw [StateT.run_pure]
    refine wpAny_bind (wpAny_pure ?_)
    dsimp only
    refine wpAny_bind (seqEpoch_at ho6 rfl ?_)
    refine wpAny_bind (listUpdate_at ho6 rfl ?_ (hsz2 := by rw [Array.size_map]; show (pairsOf [v]).size ≤ _; rw [pairsOf_size, sizeLine_eq]; simp))
    simp only [bne_self_eq_false, Bool.false_eq_true, if_false]
    refine wpAny_pure ?_
    refine ⟨_, rfl, wpAny_pure ⟨_, rfl, ?_⟩⟩
    have keep2 : ∀ b o, s.heap.get? b = some o → ((((H.update (s.heap.objs.size + 1) (Obj.mapSeq fun _ => #[])).push (seqObj "tuple" [v].toArray 0)).push (seqObj "list" #[] 0)).update (s.heap.objs.size + 1) (Obj.mapSeq fun _ => (arrOf (SortSt.mk' general' ([v].toArray.zip [v].toArray) #[] 7 none)).map (·.2))).get? b = some o := fun b o q => by
      have hlt : b < s.heap.objs.size := Heap.lt_size q
      have hne : b ≠ s.heap.objs.size + 1 := Nat.ne_of_lt (Nat.lt_succ_of_lt hlt)
      rw [Heap.get?_update_ne _ _ _ _ hne]
      refine Heap.get?_push_of_some _ (Heap.get?_push_of_some _ ?_)
      rw [Heap.get?_update_ne _ _ _ _ hne]
      exact keep b o q
    have g2 := get?_update_seq ho6 (fun _ => (arrOf (SortSt.mk' general' ([v].toArray.zip [v].toArray) #[] 7 none)).map (·.2))
    obtain ⟨c2, g3⟩ : ∃ c2, ((((H.update (s.heap.objs.size + 1) (Obj.mapSeq fun _ => #[])).push (seqObj "tuple" [v].toArray 0)).push (seqObj "list" #[] 0)).update (s.heap.objs.size + 1) (Obj.mapSeq fun _ => (arrOf (SortSt.mk' general' ([v].toArray.zip [v].toArray) #[] 7 none)).map (·.2))).get? (s.heap.objs.size + 1) = some (listOf (List.toArray [v]) c2) := ⟨_, g2.trans (by
      have e : (arrOf (SortSt.mk' general' ([v].toArray.zip [v].toArray) #[] 7 none)).map (·.2) = List.toArray [v] := by
        show (pairsOf [v]).map (·.2) = _
        apply Array.ext'
        simp [pairsOf]
      rw [e])⟩
    refine k (s.heap.objs.size + 1) _ c2 (fr_keep F keep2) ?_ (fun q hq => Nat.lt_succ_of_lt (Heap.lt_size (N q hq).1))
    intro q hq
    rcases List.mem_cons.mp hq with rfl | hq
    · exact ⟨g3, Nat.ne_of_gt (Nat.lt_succ_of_lt hL), Heap.get?_none_of_le (Nat.le_trans F.above (Nat.le_succ_of_le (Nat.le_of_lt hL)))⟩
    · exact news_keep N keep2 q hq
/-- sorted, of a list of ranked releases -/
theorem sorted_vers (F : Fr h₀ L s.heap m) (N : News h₀ L s.heap news) (hl : s.heap.IsList l vs.toArray) (hvs : All2 (VerH h₀) vs rs) (hrs : ∀ r ∈ rs, r < 4) (h1 : 1 ≤ vs.length) (h64 : vs.length < 64) (hu : A.units + 2 < cLine)
    (k : ∀ D h' c out rs', Fr h₀ L h' m → News h₀ L h' ((D, listOf (List.toArray out) c) :: news) → (∀ q ∈ news, q.1 < D) → All2 (VerH h₀) out rs' → (∀ x ∈ out, x ∈ vs) → rs'.Perm rs → (∀ i j, i ≤ j → j < rs'.length → rpos (rs'.getD i 0) ≤ rpos (rs'.getD j 0)) → Q (.ref D) { s with heap := h' }) :
    wpAny (model prog w) A (call (.builtin "sorted") [.ref l]) Q E s := by
  by_cases h2 : 2 ≤ vs.length
  · exact sorted_vers2 F N hl hvs hrs h2 h64 hu k
  · obtain ⟨v, rfl⟩ : ∃ v, vs = [v] := by
      match vs, h1, h2 with
      | [v], _, _ => exact ⟨v, rfl⟩
      | [], h1, _ => simp at h1
      | _ :: _ :: _, _, h2 => simp at h2
    refine sorted_one F N hl (fun D h' c F' N' lt => k D h' c [v] rs F' N' lt hvs (fun _ h => h) (List.Perm.refl _) (fun i j hij hj => ?_))
    have := hvs.length
    simp at this
    have : i = j := by omega
    rw [this]; exact Nat.le_refl _
end
end Mine
end
/- Med -/
section
open PySem PySem.W PySem.W.X PyProof.Rows PySem.Calls
namespace Mine
set_option maxRecDepth 100000
set_option maxHeartbeats 8000000
/-- an item of a list, at a number that is known by its value -/
theorem sub_list {prog : Program} {w : World} {A : Around} {E : Value → Shared → Prop} {s : Shared} {l : Addr} {items : Array Value} {z : Int} {t : Tok} {i : Nat} {x : Value} {value slice : PySem.Expr} {Q : Value → Shared → Prop} (hl : s.heap.IsList l items) (hx : items[i]? = some x) (hz : z = (i : Int)) (hfit : (i : Int) < 2 ^ 63) (h : Q x s)
    (hs : subscripted slice false (.ref l) (.int z t) = operate [.ref l, .int z t] (getItem (.ref l) (.int z t)) := by with_unfolding_all rfl) (hg : ∀ r, letTemporaryGo value (.ref l) r = pure () := by intro _; with_unfolding_all rfl) :
    wpAny (model prog w) A (subscriptTail value slice (.ref l) (.int z t)) Q E s := by
  subst hz
  exact subscriptTail_builtin (T := "list") (by obtain ⟨o, ho, hc, _⟩ := hl; exact ⟨o, ho, hc⟩) F.slot_list_getitem.lookup (wpAny_getItem_list hl (by omega) hfit (by simpa using hx) h) hs hg
theorem fd2 (x : Int) : x.fdiv 2 = x / 2 := Int.fdiv_eq_ediv_of_nonneg _ (by decide)
theorem fm2 (x : Int) : x.fmod 2 = x % 2 := Int.fmod_eq_emod_of_nonneg _ (by decide)
theorem fillM : PySem.Challenge.rw_mr0145_01 = PySem.Challenge.rw_mr0145_01 ∧ Mine.kmk.heap_1 = Mine.kmk.heap_1 := by k_fill; exact ⟨rfl, rfl⟩
theorem med_low (w : World) (mean : ExcName → Option Value) (mg mb : Str → Option Value) (dp un : Nat) (gd : Option (List Code)) (cn : Str) (cs : Scope) (a : Addr) (ccd : Value) (cl : List (Str × Addr)) (outer : List Env) (A₀ : Around) (base h₀ : Heap) (L : Addr) (m : Str → Option Value) (s : Shared) (Q E : Value → Shared → Prop)
    (B : Below A₀ base outer h₀) (F : Fr h₀ L s.heap m) (X : (kmk.heap_1 w.params).In h₀) (p0 : Program) (lo0 : List Str) (T : Top p0 lo0 mean mg mb h₀) (hk : cs.kind = .function)
    (hdp : dp + 1 < recursionLimit) (hu : un + 8 < cLine) (l : Addr) (vs : List Value) (c : Nat) (rs : List Nat) (hl : s.heap.get? l = some (listOf vs.toArray c)) (hvs : All2 (VerH s.heap) vs rs) (hrs : ∀ r ∈ rs, r < 4) (h1 : 1 ≤ vs.length) (h64 : vs.length < 64)
    (k : ∀ (v : Value) (h' : Heap) (tk' : Nat) (rs' : List Nat), (∀ b o, s.heap.get? b = some o → h'.get? b = some o) → rs'.Perm rs → (∀ i j, i ≤ j → j < rs'.length → rpos (rs'.getD i 0) ≤ rpos (rs'.getD j 0)) → VerH s.heap v (rs'.getD ((rs'.length - 1) / 2) 0) → v ∈ vs → Q v { s with heap := h', toks := tk' }) :
    wpAny (model prog w) (ktrTop dp un gd cn cs L a ccd cl outer) (call (.ref 71) [.ref l]) Q E s := by
  refine wpAny_call ?_
  k_dflt (refine' code_here ?k1 ?k2 ?k3 ?k5 ?kA ?kF ?kK ?k6 ?k7 ?k8 ?k9 ?kB ?_ ?c2 ?c3 ?c4 ?c5; (case kA => exact rfl); (case kF => exact rfl); (case kK => assumption); (case k1 => k_asm); (case k2 => k_asm); (case k3 => k_asm); (case k5 => k_asm); (case k6 => k_is); (case k7 => k_is); (case k8 => ktr_room); (case k9 => exact BindsTo.of_eq rfl); (case c5 => decide); (case kB => exact locs rfl); (case c2 => exact rfl); (case c3 => exact rfl); (case c4 => exact rfl); k_whole)
  intro g L' h₁ hg F₁ N₁ B₁ X₁ T₁
  cases hg
  clear B F X T
  k_steps
  refine sorted_vers F₁ N₁ ⟨_, F₁.keep _ _ hl, rfl, c, rfl⟩ hvs hrs h1 h64 ?_ (fun D h₂ c₂ out rs' F₂ N₂ lt hout hin hperm hsort => ?_)
  · show un + 3 + 2 < cLine; omega
  clear F₁ N₁
  have hol : out.length = rs'.length := hout.length
  have hpl : rs'.length = rs.length := hperm.length_eq
  have hvl : vs.length = rs.length := hvs.length
  k_steps
  refine call_len_list (items := out.toArray) ⟨_, (by with_reducible assumption : News _ _ _ [(D, _)]) _ (.head _) |>.1, rfl, c₂, rfl⟩ ?_ ?_
  · have : out.toArray.size = rs.length := by simp; omega
    rw [this]; omega
  rw [show ((out.toArray.size : Nat) : Int) = (out.length : Int) by simp]
  k_steps
  · rename_i ho
    rw [fm2] at ho
    refine sub_list (i := (out.length - 1) / 2) (x := out.getD ((out.length - 1) / 2) .none) ⟨_, ((by with_reducible assumption : News _ _ _ [(D, _)]) _ (.head _)).1, rfl, c₂, rfl⟩ ?_ (by rw [fd2]; omega) (by omega) ?_
    · have : (out.length - 1) / 2 < out.length := by omega
      simp [this]
    refine k _ _ _ rs' (Fr.keep (by with_reducible assumption)) hperm hsort ?_ ?_
    · rw [← hol]
      exact hout.get _ (by omega)
    · have : (out.length - 1) / 2 < out.length := by omega
      have e : out.getD ((out.length - 1) / 2) .none = out[(out.length - 1) / 2] := by simp [this]
      exact hin _ (by rw [e]; exact List.getElem_mem _)
  · rename_i ho
    rw [fm2] at ho
    refine sub_list (i := (out.length - 1) / 2) (x := out.getD ((out.length - 1) / 2) .none) ⟨_, ((by with_reducible assumption : News _ _ _ [(D, _)]) _ (.head _)).1, rfl, c₂, rfl⟩ ?_ (by rw [fd2]; omega) (by omega) ?_
    · have : (out.length - 1) / 2 < out.length := by omega
      simp [this]
    refine k _ _ _ rs' (Fr.keep (by with_reducible assumption)) hperm hsort ?_ ?_
    · rw [← hol]
      exact hout.get _ (by omega)
    · have : (out.length - 1) / 2 < out.length := by omega
      have e : out.getD ((out.length - 1) / 2) .none = out[(out.length - 1) / 2] := by simp [this]
      exact hin _ (by rw [e]; exact List.getElem_mem _)
theorem med_high (w : World) (mean : ExcName → Option Value) (mg mb : Str → Option Value) (dp un : Nat) (gd : Option (List Code)) (cn : Str) (cs : Scope) (a : Addr) (ccd : Value) (cl : List (Str × Addr)) (outer : List Env) (A₀ : Around) (base h₀ : Heap) (L : Addr) (m : Str → Option Value) (s : Shared) (Q E : Value → Shared → Prop)
    (B : Below A₀ base outer h₀) (F : Fr h₀ L s.heap m) (X : (kmk.heap_1 w.params).In h₀) (p0 : Program) (lo0 : List Str) (T : Top p0 lo0 mean mg mb h₀) (hk : cs.kind = .function)
    (hdp : dp + 1 < recursionLimit) (hu : un + 8 < cLine) (l : Addr) (vs : List Value) (c : Nat) (rs : List Nat) (hl : s.heap.get? l = some (listOf vs.toArray c)) (hvs : All2 (VerH s.heap) vs rs) (hrs : ∀ r ∈ rs, r < 4) (h1 : 1 ≤ vs.length) (h64 : vs.length < 64)
    (k : ∀ (v : Value) (h' : Heap) (tk' : Nat) (rs' : List Nat), (∀ b o, s.heap.get? b = some o → h'.get? b = some o) → rs'.Perm rs → (∀ i j, i ≤ j → j < rs'.length → rpos (rs'.getD i 0) ≤ rpos (rs'.getD j 0)) → VerH s.heap v (rs'.getD (rs'.length / 2) 0) → v ∈ vs → Q v { s with heap := h', toks := tk' }) :
    wpAny (model prog w) (ktrTop dp un gd cn cs L a ccd cl outer) (call (.ref 78) [.ref l]) Q E s := by
  refine wpAny_call ?_
  k_dflt (refine' code_here ?k1 ?k2 ?k3 ?k5 ?kA ?kF ?kK ?k6 ?k7 ?k8 ?k9 ?kB ?_ ?c2 ?c3 ?c4 ?c5; (case kA => exact rfl); (case kF => exact rfl); (case kK => assumption); (case k1 => k_asm); (case k2 => k_asm); (case k3 => k_asm); (case k5 => k_asm); (case k6 => k_is); (case k7 => k_is); (case k8 => ktr_room); (case k9 => exact BindsTo.of_eq rfl); (case c5 => decide); (case kB => exact locs rfl); (case c2 => exact rfl); (case c3 => exact rfl); (case c4 => exact rfl); k_whole)
  intro g L' h₁ hg F₁ N₁ B₁ X₁ T₁
  cases hg
  clear B F X T
  k_steps
  refine sorted_vers F₁ N₁ ⟨_, F₁.keep _ _ hl, rfl, c, rfl⟩ hvs hrs h1 h64 ?_ (fun D h₂ c₂ out rs' F₂ N₂ lt hout hin hperm hsort => ?_)
  · show un + 3 + 2 < cLine; omega
  clear F₁ N₁
  have hol : out.length = rs'.length := hout.length
  have hpl : rs'.length = rs.length := hperm.length_eq
  have hvl : vs.length = rs.length := hvs.length
  k_steps
  refine call_len_list (items := out.toArray) ⟨_, (by with_reducible assumption : News _ _ _ [(D, _)]) _ (.head _) |>.1, rfl, c₂, rfl⟩ ?_ ?_
  · have : out.toArray.size = rs.length := by simp; omega
    rw [this]; omega
  rw [show ((out.toArray.size : Nat) : Int) = (out.length : Int) by simp]
  k_steps
  refine sub_list (i := out.length / 2) (x := out.getD (out.length / 2) .none) ⟨_, ((by with_reducible assumption : News _ _ _ [(D, _)]) _ (.head _)).1, rfl, c₂, rfl⟩ ?_ (by rw [fd2]; omega) (by omega) ?_
  · have : out.length / 2 < out.length := by omega
    simp [this]
  refine k _ _ _ rs' (Fr.keep (by with_reducible assumption)) hperm hsort ?_ ?_
  · rw [← hol]
    exact hout.get _ (by omega)
  · have : out.length / 2 < out.length := by omega
    have e : out.getD (out.length / 2) .none = out[out.length / 2] := by simp [this]
    exact hin _ (by rw [e]; exact List.getElem_mem _)
end Mine
end
/- Lc -/
section
open PySem PySem.W PyProof.Rows PySem.Calls
namespace Mine
set_option maxRecDepth 100000
set_option maxHeartbeats 4000000
/-- all that is not in ex is kept -/
def KeepBut (ex : List Addr) (h h' : Heap) : Prop := ∀ b o, b ∉ ex → h.get? b = some o → h'.get? b = some o
theorem KeepBut.trans {ex : List Addr} {h h' h'' : Heap} (x : KeepBut ex h h') (y : KeepBut ex h' h'') : KeepBut ex h h'' := fun b o n e => y b o n (x b o n e)
theorem All2.snoc {α β : Type} {P : α → β → Prop} {l : List α} {r : List β} (x : All2 P l r) {a : α} {b : β} (h : P a b) : All2 P (l ++ [a]) (r ++ [b]) := x.append (.cons h .nil)
section
variable {prog : Program} {w : World} {A : Around} {E : Value → Shared → Prop} {env : Env} {R : Result → Shared → Prop}
/-- the loop of a comprehension over a list: what is found may speak of the heap -/
theorem compLoop_H {s : Shared} {elt iter : PySem.Expr} {x : Str} {px : Pos} {ifs : List PySem.Expr} {scope : Scope} {pos : Pos} {I ax D : Addr} {cenv : Env} {m : Str → Option Value} {items : Array Value} (p : Value → Bool) (F : Heap → Value → Value → Prop)
    (hF : ∀ h h' v y, KeepBut [cenv.locals, D, I] h h' → F h v y → F h' v y)
    (hh : A.handled = none) (hx : cenv.kindOf x = some .local) (hp : (cenv.scope.kind == .class || (cenv.scope.kind == .module && cenv.locals != cenv.globals)) = false)
    (hDI : D ≠ I) (hDC : D ≠ cenv.locals) (hIC : I ≠ cenv.locals) (haI : ax ≠ I) (haC : ax ≠ cenv.locals) (haD : ax ≠ D)
    (hit : s.heap.IsListIter I ax 0) (hl : s.heap.IsList ax items) (hacc : s.heap.IsList D #[]) (hn : s.heap.Ns cenv.locals m) (hsz : items.size ≤ 1000)
    (htests : ∀ v s₂ m₂ E', v ∈ items → s₂.heap.Ns cenv.locals m₂ → m₂ x = some v → KeepBut [cenv.locals, D, I] s.heap s₂.heap → s₂.gens = s.gens → s₂.drawn = s.drawn → s₂.os = s.os →
      wpAny (model prog w) A (forIn ifs true fun c r => if r = true then do let ok ← isTrue c cenv (eval c cenv); pure (ForInStep.yield ok) else pure (ForInStep.yield r)) (fun ok s₃ => ok = p v ∧ ∃ h' tk, s₃ = { s₂ with heap := h', toks := tk } ∧ ∀ b o, s₂.heap.get? b = some o → h'.get? b = some o) E' s₂)
    (helt : ∀ v s₂ m₂ E', v ∈ items → p v = true → s₂.heap.Ns cenv.locals m₂ → m₂ x = some v → KeepBut [cenv.locals, D, I] s.heap s₂.heap → s₂.gens = s.gens → s₂.drawn = s.drawn → s₂.os = s.os →
      wpAny (model prog w) A (eval elt cenv) (fun y s₃ => ∃ h' tk, s₃ = { s₂ with heap := h', toks := tk } ∧ F h' v y ∧ ∀ b o, s₂.heap.get? b = some o → h'.get? b = some o) E' s₂)
    (hR : ∀ h' tk m' ys, h'.Ns cenv.locals m' → h'.IsList D ys → All2 (F h') (items.toList.filter p) ys.toList → KeepBut [cenv.locals, D, I] s.heap h' → R (.ok .next) { s with heap := h', toks := tk }) :
    codeAny (model prog w) A (.compLoop (.ListComp elt [⟨.Name x px, iter, ifs, 0⟩] scope pos) 0 (.ref I) (.ref D) cenv) R s := by
  refine codeAny_compLoop_tests (fun k s' => ∃ i h' tk m' ys, k = items.size + 1 - i ∧ i ≤ items.size ∧ s' = { s with heap := h', toks := tk } ∧ h'.IsListIter I ax i ∧ h'.IsList D ys ∧ h'.Ns cenv.locals m' ∧ All2 (F h') ((items.toList.take i).filter p) ys.toList ∧ KeepBut [cenv.locals, D, I] s.heap h') ?_ (items.size + 1) ⟨0, s.heap, s.toks, m, #[], rfl, Nat.zero_le _, rfl, hit, hacc, hn, by simpa using All2.nil, fun _ _ _ e => e⟩
  rintro k s' ⟨i, H, tk, m', ys, rfl, hi, rfl, hit', hD, hn', hA, hk⟩
  have hax : H.IsList ax items := by
    obtain ⟨o, ho, r⟩ := hl
    exact ⟨o, hk _ _ (by simp [haC, haD, haI]) ho, r⟩
  by_cases hlt : i < items.size
  · have hxi : items[i]? = some items[i] := by simp [hlt]
    refine wpAny_pyNext_list_item (items := items) hit' hax hxi fun h₁ hit₁ hs₁ => ?_
    refine wpAny_assign_Name (wpAny_storeName_local hx (hn'.sameBut hs₁ (Ne.symm hIC)) (fun h₂ hn₂ hs₂ => ?_) hp)
    have k2 : KeepBut [cenv.locals, D, I] H h₂ := fun b o n e => by
      simp at n
      exact (hs₂.2 b n.1).trans ((hs₁.2 b n.2.2).trans e)
    have hD2 : h₂.IsList D ys := by
      obtain ⟨o, ho, r⟩ := hD
      exact ⟨o, (hs₂.2 D hDC).trans ((hs₁.2 D hDI).trans ho), r⟩
    have hit2 : h₂.IsListIter I ax (i + 1) := by
      obtain ⟨o, ho, r⟩ := hit₁
      exact ⟨o, (hs₂.2 I hIC).trans ho, r⟩
    refine wpAny_mono (htests items[i] _ _ _ (Array.getElem_mem _) hn₂ (by simp) (hk.trans k2) rfl rfl rfl) (fun ok s₃ h₃ => ?_) fun _ _ e => e
    obtain ⟨rfl, h₃, tk₃, rfl, k3⟩ := h₃
    have hn3 := hn₂.keeps k3
    have hD3 : h₃.IsList D ys := by obtain ⟨o, ho, r⟩ := hD2; exact ⟨o, k3 _ _ ho, r⟩
    have hit3 : h₃.IsListIter I ax (i + 1) := by obtain ⟨o, ho, r⟩ := hit2; exact ⟨o, k3 _ _ ho, r⟩
    have k23 : KeepBut [cenv.locals, D, I] H h₃ := fun b o n e => k3 b o (k2 b o n e)
    have htake : items.toList.take (i + 1) = items.toList.take i ++ [items[i]] := by
      rw [List.take_succ]
      simp [hlt]
    cases hpv : p items[i] with
    | false =>
      simp only [Bool.false_eq_true, if_false]
      refine ⟨items.size + 1 - (i + 1), by omega, i + 1, h₃, tk₃, _, ys, rfl, hlt, rfl, hit3, hD3, hn3, ?_, hk.trans k23⟩
      rw [htake, List.filter_append]
      simpa [hpv] using hA.mono fun v y => hF H h₃ v y k23
    | true =>
      simp only [if_true]
      refine wpAny_mono (helt items[i] _ _ _ (Array.getElem_mem _) hpv hn3 (by simp) (hk.trans k23) rfl rfl rfl) (fun y s₄ h₄ => ?_) fun _ _ e => e
      obtain ⟨h₄, tk₄, rfl, hFy, k4⟩ := h₄
      have hys : ys.size ≤ sizeLine := by
        have e1 := hA.length
        have e2 : ((items.toList.take i).filter p).length ≤ (items.toList.take i).length := List.length_filter_le _ _
        have e3 : (items.toList.take i).length ≤ i := by simp; omega
        have e4 : ys.toList.length = ys.size := by simp
        rw [sizeLine_eq]
        omega
      have hD4 : h₄.IsList D ys := by obtain ⟨o, ho, r⟩ := hD3; exact ⟨o, k4 _ _ ho, r⟩
      refine wpAny_list_append hD4 (fun h₅ hl₅ hs₅ => ?_) hys
      have k5 : KeepBut [cenv.locals, D, I] h₄ h₅ := fun b o n e => by
        simp at n
        exact (hs₅.2 b n.2.1).trans e
      have k45 : KeepBut [cenv.locals, D, I] H h₅ := fun b o n e => k5 b o n (k4 b o (k23 b o n e))
      refine ⟨items.size + 1 - (i + 1), by omega, i + 1, h₅, tk₄, _, ys.push y, rfl, hlt, rfl, ?_, hl₅, (hn3.keeps k4).sameBut hs₅ (Ne.symm hDC), ?_, hk.trans k45⟩
      · obtain ⟨o, ho, r⟩ := hit3
        exact ⟨o, (hs₅.2 I (Ne.symm hDI)).trans (k4 _ _ ho), r⟩
      · rw [htake, List.filter_append]
        have e : (ys.push y).toList = ys.toList ++ [y] := by simp
        rw [e]
        have e2 : List.filter p [items[i]] = [items[i]] := by simp [hpv]
        rw [e2]
        exact (hA.mono fun v y => hF H h₅ v y k45).snoc (hF h₄ h₅ _ _ k5 hFy)
  · have hxi : items[i]? = none := by simp; omega
    refine wpAny_pyNext_list_end (items := items) hh hit' hax hxi fun h₁ hs₁ => ?_
    have ei : i = items.size := by omega
    subst ei
    have k1 : KeepBut [cenv.locals, D, I] H h₁ := fun b o n e => by
      simp at n
      exact hs₁ b o n.2.2 e
    refine hR h₁ tk m' ys ?_ ?_ ?_ (hk.trans k1)
    · obtain ⟨oL, es, ep, hL, r⟩ := hn'
      exact ⟨oL, es, ep, hs₁ _ _ (Ne.symm hIC) hL, r⟩
    · obtain ⟨o, ho, r⟩ := hD
      exact ⟨o, hs₁ _ _ hDI ho, r⟩
    · have e : items.toList.take items.size = items.toList := by rw [← Array.length_toList, List.take_length]
      rw [e] at hA
      exact hA.mono fun v y => hF H h₁ v y k1
/-- new addresses for a comprehension: its locals, its list, its iterator -/
structure Fresh3 (h : Heap) (C D I : Addr) : Prop where
  c : h.get? C = none
  d : h.get? D = none
  i : h.get? I = none
  low : h.objs.size ≤ I ∧ h.objs.size ≤ D ∧ h.objs.size ≤ C
  ord : @LT.lt Nat _ I C ∧ @LT.lt Nat _ D C
theorem ListComp_H {s : Shared} {elt iter : PySem.Expr} {x : Str} {px : Pos} {ifs : List PySem.Expr} {scope : Scope} {cl : List (Str × Addr)} {pos : Pos} {Q : Value → Shared → Prop} (p : Value → Bool) (F : List Addr → Heap → Value → Value → Prop)
    (hF : ∀ ex h h' v y, KeepBut ex h h' → F ex h v y → F ex h' v y)
    (hclos : closureFor scope env = pure cl) (hcell : ∀ y ∈ scope.names, y.2 ≠ .cell) (hkind : scope.kind = .function)
    (hnames : ∀ y ∈ scope.names, y.2 = .local → scope.names.lookup y.1 = some .local) (hx : scope.names.lookup x = some .local) (hh : A.handled = none)
    (h : wpAny (model prog w) A (eval iter env) (fun xv s₁ => ∃ ax items, xv = .ref ax ∧ s₁.heap.IsList ax items ∧ items.size ≤ 1000 ∧
      (∀ C D I, Fresh3 s₁.heap C D I →
        (∀ v s₂ m₂ E', v ∈ items → s₂.heap.Ns C m₂ → m₂ x = some v → KeepBut [C, D, I] s₁.heap s₂.heap → s₂.gens = s₁.gens → s₂.drawn = s₁.drawn → s₂.os = s₁.os →
          wpAny (model prog w) A (forIn ifs true fun c r => if r = true then do let ok ← isTrue c (compEnvC scope cl C env) (eval c (compEnvC scope cl C env)); pure (ForInStep.yield ok) else pure (ForInStep.yield r)) (fun ok s₃ => ok = p v ∧ ∃ h' tk, s₃ = { s₂ with heap := h', toks := tk } ∧ ∀ b o, s₂.heap.get? b = some o → h'.get? b = some o) E' s₂) ∧
        (∀ v s₂ m₂ E', v ∈ items → p v = true → s₂.heap.Ns C m₂ → m₂ x = some v → KeepBut [C, D, I] s₁.heap s₂.heap → s₂.gens = s₁.gens → s₂.drawn = s₁.drawn → s₂.os = s₁.os →
          wpAny (model prog w) A (eval elt (compEnvC scope cl C env)) (fun y s₃ => ∃ h' tk, s₃ = { s₂ with heap := h', toks := tk } ∧ F [C, D, I] h' v y ∧ ∀ b o, s₂.heap.get? b = some o → h'.get? b = some o) E' s₂) ∧
        ∀ h' tk ys, h'.IsList D ys → All2 (F [C, D, I] h') (items.toList.filter p) ys.toList → KeepBut [C, D, I] s₁.heap h' → Q (.ref D) { s₁ with heap := h', toks := tk })) E s)
    (hs : ∀ x, foldedSetIterable iter env x = pure x := by intro _; rfl) :
    wpAny (model prog w) A (eval (.ListComp elt [⟨.Name x px, iter, ifs, 0⟩] scope pos) env) Q E s := by
  rw [eval_ListComp]
  refine wpAny_comprehension_free (use := none) rfl hs hclos hkind hnames (wpAny_mono h (fun xv s₁ h₁ => ?_) fun _ _ e => e)
  obtain ⟨ax, items, rfl, hl, hsz, h₂⟩ := h₁
  refine wpAny_pyIter_list hl ?_
  refine wpAny_newObj_type (wpAny_newFunctionEnv hcell (by intro y hy; simp at hy) (fun h₁ hns₁ hsb₁ => ?_) hkind)
  dsimp only at hns₁ hsb₁ ⊢
  have halt : ax < s₁.heap.objs.size := by obtain ⟨o, ho, _⟩ := hl; exact Heap.lt_size ho
  generalize hI : s₁.heap.objs.size = I at hns₁ hsb₁ halt ⊢
  generalize hH1 : s₁.heap.push { cls := .type "list_iterator", data := .fields #[.ref ax, .int 0 0] } = H1 at hns₁ hsb₁ ⊢
  have hs1 : H1.objs.size = I + 1 := by rw [← hH1, Heap.size_push, hI]
  have k1 : ∀ b o, s₁.heap.get? b = some o → H1.get? b = some o := fun b o e => by rw [← hH1]; exact Heap.get?_push_of_some _ e
  have gI : H1.get? I = some { cls := .type "list_iterator", data := .fields #[.ref ax, .int 0 0] } := by rw [← hH1, ← hI]; exact Heap.get?_push_size _ rfl
  rw [hs1]
  generalize hH2 : H1.push { cls := .type "list", dict := none, data := .seq ([] : List Value).toArray } = H2 at hns₁ hsb₁ ⊢
  have hs2 : H2.objs.size = I + 2 := by rw [← hH2, Heap.size_push, hs1]
  have k2 : ∀ b o, H1.get? b = some o → H2.get? b = some o := fun b o e => by rw [← hH2]; exact Heap.get?_push_of_some _ e
  have gD : H2.get? (I + 1) = some { cls := .type "list", dict := none, data := .seq ([] : List Value).toArray } := by rw [← hH2, ← hs1]; exact Heap.get?_push_size _ rfl
  rw [hs2] at hns₁ hsb₁ ⊢
  have k3 : ∀ b o, H2.get? b = some o → h₁.get? b = some o := fun b o e => hsb₁.extBut b o (by have := Heap.lt_size e; rw [hs2] at this; exact Nat.ne_of_lt this) (Heap.get?_push_of_some _ e)
  have fresh : ∀ a, I ≤ a → s₁.heap.get? a = none := fun a ha => by
    cases e : s₁.heap.get? a with
    | none => rfl
    | some o' => exact absurd (Heap.lt_size e) (by rw [hI]; exact Nat.not_lt.mpr ha)
  obtain ⟨ht, he, hR⟩ := h₂ (I + 2) (I + 1) I ⟨fresh _ (by omega), fresh _ (by omega), fresh _ (Nat.le_refl _), by omega, by omega⟩
  have kk : KeepBut [I + 2, I + 1, I] s₁.heap h₁ := fun b o _ e => k3 b o (k2 b o (k1 b o e))
  have loop : ∀ s₃ : Shared, s₃ = { s₁ with heap := h₁, toks := s₁.toks + ([] : List (Str × Value)).length } → codeAny (model prog w) A (.compLoop (.ListComp elt [⟨.Name x px, iter, ifs, 0⟩] scope pos) 0 (.ref I) (.ref (I + 1)) (compEnvC scope cl (I + 2) env))
      (compPost (model prog w) A E none Q (.ref (I + 1)) (I + 2)) s₃ := by
    rintro s₃ rfl
    refine compLoop_H (cenv := compEnvC scope cl (I + 2) env) (ax := ax) (items := items) p (F [I + 2, I + 1, I]) (fun h h' v y k f => hF _ h h' v y k f) hh (lookup_relabel_local hx) (by simp [compEnvC, relabel, hkind]) (Nat.succ_ne_self I) (show I + 1 ≠ I + 2 from Nat.ne_of_lt (Nat.lt_succ_self (I + 1))) (show I ≠ I + 2 from Nat.ne_of_lt (Nat.lt_add_of_pos_right (by decide))) (Nat.ne_of_lt halt) (show ax ≠ I + 2 from Nat.ne_of_lt (Nat.lt_of_lt_of_le halt (Nat.le_add_right I 2))) (show ax ≠ I + 1 from Nat.ne_of_lt (Nat.lt_succ_of_lt halt))
      ⟨_, k3 _ _ (k2 _ _ gI), rfl, rfl⟩ ?_ ⟨_, k3 _ _ gD, rfl, _, rfl⟩ hns₁ hsz ?_ ?_ ?_
    · obtain ⟨o, ho, r⟩ := hl
      exact ⟨o, k3 _ _ (k2 _ _ (k1 _ _ ho)), r⟩
    · intro v s₂ m₂ E' hv hn hm k g1 g2 g3
      exact ht v s₂ m₂ E' hv hn hm (kk.trans k) g1 g2 g3
    · intro v s₂ m₂ E' hv hpv hn hm k g1 g2 g3
      exact he v s₂ m₂ E' hv hpv hn hm (kk.trans k) g1 g2 g3
    · intro h' tk m' ys hn hd ha k
      refine ⟨m', hn, fun h'' hs'' => ?_⟩
      have k4 : KeepBut [I + 2, I + 1, I] h' h'' := fun b o n e => by
        simp at n
        exact (hs''.2 b n.1).trans e
      refine hR h'' tk ys ?_ (ha.mono fun v y => hF _ h' h'' v y k4) ((kk.trans k).trans k4)
      obtain ⟨o, ho, r⟩ := hd
      exact ⟨o, (hs''.2 (I + 1) (Nat.ne_of_lt (Nat.lt_succ_self (I + 1)))).trans ho, r⟩
  exact codeAny_compStart_list (loop _ rfl) (wpAny_pyIter_listiter ⟨_, k3 _ _ (k2 _ _ gI), rfl, rfl⟩ (loop _ rfl))
end
end Mine
end
/- FlD -/
section
open PySem PySem.W PySem.W.X PyProof.Rows PySem.Calls
namespace Mine
set_option maxRecDepth 100000
set_option maxHeartbeats 4000000
section
variable {prog : Program} {w : World} {A : Around} {E : Value → Shared → Prop} {s : Shared} {h₀ : Heap} {L l : Addr} {m : Str → Option Value} {news : List (Addr × Obj)} {vs : List Value} {Q : Value → Shared → Prop}
def strLt (ss : List Str) (i j : Nat) : Bool := decide ((ss.getD i Str.empty).cps.toList < (ss.getD j Str.empty).cps.toList)
theorem sorted_strs (ss : List Str) (pr : Array Nat) (hpr : trun (strLt ss) (kas_sort vs.length) = pr) (F : Fr h₀ L s.heap m) (N : News h₀ L s.heap news) (hl : s.heap.IsList l vs.toArray) (hss : ∀ i < vs.length, ∃ t, vs.getD i .none = .str (ss.getD i Str.empty) t) (h2 : 2 ≤ vs.length) (h64 : vs.length < 64)
    (k : ∀ D h' c, Fr h₀ L h' m → News h₀ L h' ((D, listOf (List.toArray (pr.toList.map fun i => vs.getD i .none)) c) :: news) → (∀ q ∈ news, q.1 < D) → Q (.ref D) { s with heap := h' }) :
    wpAny (model prog w) A (call (.builtin "sorted") [.ref l]) Q E s := by
  refine kas_sorted (T := .type "str") F N hl h2 h64 (fun h F' N' v hv => ?_) (by decide) (fun D e1 h' F' N' lt => ?_)
  · obtain ⟨i, hi, rfl⟩ := List.mem_iff_getElem.mp hv
    obtain ⟨t, e⟩ := hss i hi
    have : vs[i] = vs.getD i .none := by simp [hi]
    rw [this, e]
    exact .now
  · refine trun_wp (I := fun x => x = { s with heap := h' }) (lt := strLt ss) (fun i j C s₁ hi hj hs hC => ?_) (tlt_sort (show 0 < vs.length by omega)) rfl (fun s₁ hs _ => ?_)
    · subst hs
      unfold kas_ask
      obtain ⟨t, e⟩ := hss i hi
      obtain ⟨u, e'⟩ := hss j hj
      rw [e, e']
      exact kas_lt_str (hC _ rfl)
    · subst hs
      rw [hpr]
      exact KasFin.intro F' N' (.head fun q hq => Nat.ne_of_lt (lt q hq)) (fun h'' c F'' N'' => k D h'' c F'' N'' lt)
end
theorem order2 : trun (strLt [nameOf 1, nameOf 0]) (kas_sort 2) = #[1, 0] := by kernel_rfl
theorem order3 : trun (strLt [nameOf 1, nameOf 0, nameOf 2]) (kas_sort 3) = #[2, 1, 0] := by kernel_rfl
/-- a median of ranked releases -/
def IsMed (low : Bool) (rs : List Nat) (r : Nat) : Prop := ∃ rs' : List Nat, rs'.Perm rs ∧ (∀ i j, i ≤ j → j < rs'.length → rpos (rs'.getD i 0) ≤ rpos (rs'.getD j 0)) ∧ r = rs'.getD (if low then (rs'.length - 1) / 2 else rs'.length / 2) 0
/-- a list of ranks that lies outside ex -/
def VerX (ex : List Addr) (h : Heap) (v : Value) (r : Nat) : Prop := ∃ a t1 t2 t3 t4 t5 t6 c, v = .ref a ∧ a ∉ ex ∧ h.get? a = some (listOf (verArr r t1 t2 t3 t4 t5 t6) c)
/-- what _law_fleets tells of one system -/
def TupOf (ns : List Int) (ex : List Addr) (h : Heap) (v y : Value) : Prop := ∃ k t tp n lo hi rl rh, k < 3 ∧ v = .str (nameOf k) t ∧ y = .ref tp ∧ tp ∉ ex ∧ h.get? tp = some { cls := .type "tuple", data := .seq #[.str (nameOf k) t, lo, hi] n } ∧
  VerX ex h lo rl ∧ VerX ex h hi rh ∧ IsMed true (ranks k ns) rl ∧ IsMed false (ranks k ns) rh
theorem VerX.keep {ex : List Addr} {h h' : Heap} {v : Value} {r : Nat} (k : KeepBut ex h h') (x : VerX ex h v r) : VerX ex h' v r := by
  obtain ⟨a, t1, t2, t3, t4, t5, t6, c, e, n, g⟩ := x
  exact ⟨a, t1, t2, t3, t4, t5, t6, c, e, n, k _ _ n g⟩
theorem TupOf.keep {ns : List Int} (ex : List Addr) (h h' : Heap) (v y : Value) (k : KeepBut ex h h') (x : TupOf ns ex h v y) : TupOf ns ex h' v y := by
  obtain ⟨kk, t, tp, n, lo, hi, rl, rh, k3, e1, e2, n1, g, v1, v2, m1, m2⟩ := x
  exact ⟨kk, t, tp, n, lo, hi, rl, rh, k3, e1, e2, n1, k _ _ n1 g, v1.keep k, v2.keep k, m1, m2⟩
end Mine
end
/- FlE -/
section
open PySem PySem.W PySem.W.X PyProof.Rows PySem.Calls
namespace Mine
set_option maxRecDepth 100000
set_option maxHeartbeats 4000000
theorem keys_of_three (r : List Int) : keysOf (5 :: 24 :: 40 :: r) = [1, 0] ∨ keysOf (5 :: 24 :: 40 :: r) = [1, 0, 2] := by
  have h3 : ∀ l : List Int, l.foldl addKey [1, 0, 2] = [1, 0, 2] := by
    intro l
    induction l with
    | nil => rfl
    | cons n l ih =>
      have e : addKey [1, 0, 2] n = [1, 0, 2] := by
        unfold addKey
        have := kindOf_lt n
        rw [if_pos]
        simp
        omega
      rw [List.foldl_cons, e]; exact ih
  have h2 : ∀ l : List Int, l.foldl addKey [1, 0] = [1, 0] ∨ l.foldl addKey [1, 0] = [1, 0, 2] := by
    intro l
    induction l with
    | nil => exact .inl rfl
    | cons n l ih =>
      rw [List.foldl_cons]
      have := kindOf_lt n
      by_cases hk : kindOf n = 2
      · have e : addKey [1, 0] n = [1, 0, 2] := by
          unfold addKey
          rw [hk, if_neg (by decide)]
          rfl
        rw [e]; exact .inr (h3 l)
      · have e : addKey [1, 0] n = [1, 0] := by
          unfold addKey
          rw [if_pos]
          simp
          omega
        rw [e]; exact ih
  have e : keysOf (5 :: 24 :: 40 :: r) = r.foldl addKey [1, 0] := by
    show List.foldl addKey (addKey (addKey (addKey [] 5) 24) 40) r = _
    have : addKey (addKey (addKey [] 5) 24) 40 = [1, 0] := by decide
    rw [this]
  rw [e]; exact h2 r
theorem key_used {ns : List Int} {k : Nat} (h : k ∈ keysOf ns) : ranks k ns ≠ [] := by
  have : ∀ (l : List Int) (ks : List Nat), k ∈ l.foldl addKey ks → k ∈ ks ∨ ∃ n ∈ l, kindOf n = k := by
    intro l
    induction l with
    | nil => intro ks h; exact .inl h
    | cons n l ih =>
      intro ks h
      rcases ih _ h with h | ⟨n', hn, e⟩
      · unfold addKey at h
        split at h
        · exact .inl h
        · rcases List.mem_append.mp h with h | h
          · exact .inl h
          · exact .inr ⟨n, .head _, (List.mem_singleton.mp h).symm⟩
      · exact .inr ⟨n', .tail _ hn, e⟩
  rcases this ns [] h with h | ⟨n, hn, e⟩
  · cases h
  · intro he
    have : relOf n ∈ ranks k ns := by
      unfold ranks
      refine List.mem_flatMap.mpr ⟨n, hn, ?_⟩
      rw [if_pos e]
      have := (mult_is n).2.1
      exact List.mem_replicate.mpr ⟨by omega, rfl⟩
    rw [he] at this; cases this
theorem ranks_lt {ns : List Int} {k : Nat} : ∀ r ∈ ranks k ns, r < 4 := fun r hr => by
  obtain ⟨n, _, hr⟩ := List.mem_flatMap.mp hr
  split at hr
  · rw [(List.mem_replicate.mp hr).2]; exact relOf_lt n
  · cases hr
theorem valueAt_key {kvs : List (Str × Value)} {s : Str} (h : s ∈ kvs.map (·.1)) : ∃ v, valueAt kvs s = some v := by
  obtain ⟨q, hq, rfl⟩ := List.mem_map.mp h
  unfold valueAt
  cases e : kvs.find? (fun kv => decide (kv.1 = q.1)) with
  | none => exact absurd (List.find?_eq_none.mp e q hq) (by simp)
  | some p => exact ⟨p.2, rfl⟩
theorem All2.memR {α β : Type} {P : α → β → Prop} {l : List α} {r : List β} (x : All2 P l r) : ∀ a ∈ l, ∃ b, b ∈ r ∧ P a b := by
  induction x with
  | nil => intro a ha; cases ha
  | cons p _ ih =>
    intro a ha
    rcases List.mem_cons.mp ha with rfl | ha
    · exact ⟨_, .head _, p⟩
    · obtain ⟨b, hb, h⟩ := ih a ha
      exact ⟨b, .tail _ hb, h⟩
def skeys (ks : List Nat) : List Nat := if 2 ∈ ks then [2, 0, 1] else [0, 1]
theorem skeys_sub {ks : List Nat} (h : ks = [1, 0] ∨ ks = [1, 0, 2]) : ∀ k ∈ skeys ks, k ∈ ks := by
  rcases h with rfl | rfl <;> decide
theorem wpAny_of_G {α : Type} {M : Model} {A : Around} {t : Sem α} {Q : α → Shared → Prop} {E : Value → Shared → Prop} {s : Shared} (h : ∀ Γ, Ctx.In Γ A → wpG M Γ t Q E s) : wpAny M A t Q E s := fun Γ p hΓ => h Γ hΓ p
abbrev NameIs (v : Value) (k : Nat) : Prop := ∃ t, v = .str (nameOf k) t
theorem sorted_keys {prog : Program} {w : World} {A : Around} {E : Value → Shared → Prop} {s : Shared} {h₀ : Heap} {L l : Addr} {m : Str → Option Value} {news : List (Addr × Obj)} {vs : List Value} {Q : Value → Shared → Prop} {ks : List Nat} (hks : ks = [1, 0] ∨ ks = [1, 0, 2])
    (F : Fr h₀ L s.heap m) (N : News h₀ L s.heap news) (hl : s.heap.IsList l vs.toArray) (hvs : All2 NameIs vs ks)
    (k : ∀ D h' c out, Fr h₀ L h' m → News h₀ L h' ((D, listOf (List.toArray out) c) :: news) → (∀ q ∈ news, q.1 < D) → All2 NameIs out (skeys ks) → Q (.ref D) { s with heap := h' }) :
    wpAny (model prog w) A (call (.builtin "sorted") [.ref l]) Q E s := by
  rcases hks with rfl | rfl
  · cases hvs with
    | @cons v1 _ _ _ h1 r => cases r with
      | @cons v0 _ _ _ h0 r =>
        cases r
        obtain ⟨t1, rfl⟩ := h1
        obtain ⟨t0, rfl⟩ := h0
        refine sorted_strs (vs := [.str (nameOf 1) t1, .str (nameOf 0) t0]) [nameOf 1, nameOf 0] #[1, 0] order2 F N hl (fun i hi => ?_) (by simp) (by simp) (fun D h' c F' N' lt => k D h' c _ F' N' lt (.cons ⟨t0, rfl⟩ (.cons ⟨t1, rfl⟩ .nil)))
        match i, hi with
        | 0, _ => exact ⟨t1, rfl⟩
        | 1, _ => exact ⟨t0, rfl⟩
  · cases hvs with
    | @cons v1 _ _ _ h1 r => cases r with
      | @cons v0 _ _ _ h0 r => cases r with
        | @cons v2 _ _ _ h2 r =>
          cases r
          obtain ⟨t1, rfl⟩ := h1
          obtain ⟨t0, rfl⟩ := h0
          obtain ⟨t2, rfl⟩ := h2
          refine sorted_strs (vs := [.str (nameOf 1) t1, .str (nameOf 0) t0, .str (nameOf 2) t2]) [nameOf 1, nameOf 0, nameOf 2] #[2, 1, 0] order3 F N hl (fun i hi => ?_) (by simp) (by simp) (fun D h' c F' N' lt => k D h' c _ F' N' lt (.cons ⟨t2, rfl⟩ (.cons ⟨t0, rfl⟩ (.cons ⟨t1, rfl⟩ .nil))))
          match i, hi with
          | 0, _ => exact ⟨t1, rfl⟩
          | 1, _ => exact ⟨t0, rfl⟩
          | 2, _ => exact ⟨t2, rfl⟩
/-- the keys of the dict, as a list -/
theorem names_of {prog : Program} {w : World} {kvs : List (Str × Value)} {vs : List Value} {ks : List Nat} (hk : kvs.map (·.1) = ks.map nameOf) (hl : vs.length = kvs.length) (hv : ∀ (j : Nat) (v : Value), vs[j]? = some v → ∃ k x, kvs[j]? = some (k, x) ∧ (PySem.strKind prog w).is k v = true) : All2 NameIs vs ks := by
  induction kvs generalizing vs ks with
  | nil =>
    cases vs with
    | nil => cases ks with
      | nil => exact .nil
      | cons => cases hk
    | cons => simp at hl
  | cons q kvs ih =>
    cases vs with
    | nil => simp at hl
    | cons v vs => cases ks with
      | nil => cases hk
      | cons k ks =>
        simp only [List.map_cons, List.cons.injEq] at hk
        obtain ⟨k', x, e, hi⟩ := hv 0 v rfl
        simp at e
        subst e
        obtain ⟨t, rfl⟩ := Value.isStrOf_shape hi
        refine .cons ⟨t, by rw [← hk.1]⟩ (ih hk.2 (by simpa using hl) fun j v e => ?_)
        exact hv (j + 1) v (by simpa using e)
end Mine
end
/- Lc2 -/
section
open PySem PySem.W PyProof.Rows PySem.Calls
namespace Mine
set_option maxRecDepth 100000
set_option maxHeartbeats 4000000
section
variable {prog : Program} {w : World} {A : Around} {E : Value → Shared → Prop} {env : Env} {R : Result → Shared → Prop}
/-- the loop of a comprehension over a list, whatever its target; P holds between the turns, G behind the assignment -/
theorem compLoop_T {s : Shared} {elt target iter : PySem.Expr} {scope : Scope} {pos : Pos} {I ax D : Addr} {cenv : Env} {items : Array Value} (ex : List Addr) (F : Heap → Value → Value → Prop) (P : Heap → Prop) (G : Heap → Value → Prop)
    (hF : ∀ h h' v y, KeepBut ex h h' → F h v y → F h' v y) (hP : ∀ h h', P h → (∀ b o, b ≠ D → b ≠ I → h.get? b = some o → h'.get? b = some o) → P h')
    (hDx : D ∈ ex) (hIx : I ∈ ex) (hax : ax ∉ ex) (hh : A.handled = none) (hDI : D ≠ I)
    (hit : s.heap.IsListIter I ax 0) (hl : s.heap.IsList ax items) (hacc : s.heap.IsList D #[]) (hp0 : P s.heap) (hsz : items.size ≤ 1000)
    (hgo : ∀ v s₂ E' (Q' : Unit → Shared → Prop) i, v ∈ items → s₂.heap.IsListIter I ax i → Q' () s₂ → wpAny (model prog w) A (letOwnedTupleGo target (.ref I) v) Q' E' s₂)
    (hasg : ∀ v s₂ E', v ∈ items → P s₂.heap → KeepBut ex s.heap s₂.heap → s₂.gens = s.gens → s₂.drawn = s.drawn → s₂.os = s.os →
      wpAny (model prog w) A (assign target cenv v) (fun _ s₃ => ∃ h' tk, s₃ = { s₂ with heap := h', toks := tk } ∧ P h' ∧ G h' v ∧ KeepBut ex s₂.heap h' ∧ (∀ o, s₂.heap.get? D = some o → h'.get? D = some o) ∧ ∀ o, s₂.heap.get? I = some o → h'.get? I = some o) E' s₂)
    (helt : ∀ v s₂ E', v ∈ items → P s₂.heap → G s₂.heap v → KeepBut ex s.heap s₂.heap → s₂.gens = s.gens → s₂.drawn = s.drawn → s₂.os = s.os →
      wpAny (model prog w) A (eval elt cenv) (fun y s₃ => ∃ h' tk, s₃ = { s₂ with heap := h', toks := tk } ∧ F h' v y ∧ ∀ b o, s₂.heap.get? b = some o → h'.get? b = some o) E' s₂)
    (hR : ∀ h' tk ys, P h' → h'.IsList D ys → All2 (F h') items.toList ys.toList → KeepBut ex s.heap h' → R (.ok .next) { s with heap := h', toks := tk }) :
    codeAny (model prog w) A (.compLoop (.ListComp elt [⟨target, iter, [], 0⟩] scope pos) 0 (.ref I) (.ref D) cenv) R s := by
  have step : ∀ (J : Nat → Shared → Prop), (∀ n s₁, J n s₁ → wpAny (model prog w) A (pyNext (.ref I)) (fun r s₂ => match r with
      | none => R (.ok .next) s₂
      | some v => wpAny (model prog w) A (letOwnedTupleGo target (.ref I) v) (fun _ s₂' => wpAny (model prog w) A (assign target cenv v) (fun _ s₃ => wpAny (model prog w) A (eval elt cenv) (fun x s₄ =>
          wpAny (model prog w) A (call (.builtin "list.append") [.ref D, x]) (fun _ s₅ => ∃ m, m < n ∧ J m s₅) (notedBy (model prog w) A cenv fun e s' => R (.error e) s') s₄)
          (notedBy (model prog w) A cenv fun e s' => R (.error e) s') s₃) (notedBy (model prog w) A cenv fun e s' => R (.error e) s') s₂') (notedBy (model prog w) A cenv fun e s' => R (.error e) s') s₂) (notedBy (model prog w) A cenv fun e s' => R (.error e) s') s₁) →
      ∀ n, J n s → codeAny (model prog w) A (.compLoop (.ListComp elt [⟨target, iter, [], 0⟩] scope pos) 0 (.ref I) (.ref D) cenv) R s := by
    intro J turn n h
    refine codeAny_loop rfl J (fun n s₁ hJ => ?_) n h
    show wpAny _ _ ((compTurn (.ListComp elt [⟨target, iter, [], 0⟩] scope pos) 0 (.ref I) (.ref D) cenv).onRaise (fun x => do noteFrame x cenv; theTreesLotGoes x)) _ _ s₁
    refine wpAny_noted ?_
    rw [compTurn_list1]
    refine wpAny_bind (wpAny_standAt (wpAny_bind (wpAny_mono (turn n s₁ hJ) (fun r s₂ h₂ => ?_) fun _ _ h' => h')))
    cases r with
    | none => exact wpAny_pure h₂
    | some v =>
      exact wpAny_bind (wpAny_mono h₂ (fun _ s₂' h₂' => wpAny_bind (wpAny_mono h₂' (fun _ s₃ h₃ => wpAny_bind (wpAny_bind (wpAny_mono h₃ (fun x s₄ h₄ => wpAny_bind (wpAny_mono h₄
        (fun _ s₅ h₅ => wpAny_pure (wpAny_pure ⟨rfl, h₅⟩)) fun _ _ h' => h')) fun _ _ h' => h'))) fun _ _ h' => h')) fun _ _ h' => h')
  refine step (fun k s' => ∃ i h' tk ys, k = items.size + 1 - i ∧ i ≤ items.size ∧ s' = { s with heap := h', toks := tk } ∧ h'.IsListIter I ax i ∧ h'.IsList D ys ∧ P h' ∧ All2 (F h') (items.toList.take i) ys.toList ∧ KeepBut ex s.heap h') ?_ (items.size + 1) ⟨0, s.heap, s.toks, #[], rfl, Nat.zero_le _, rfl, hit, hacc, hp0, by simpa using All2.nil, fun _ _ _ e => e⟩
  rintro k s' ⟨i, H, tk, ys, rfl, hi, rfl, hit', hD, hp', hA, hk⟩
  have haxl : H.IsList ax items := by
    obtain ⟨o, ho, r⟩ := hl
    exact ⟨o, hk _ _ hax ho, r⟩
  by_cases hlt : i < items.size
  · have hxi : items[i]? = some items[i] := by simp [hlt]
    refine wpAny_pyNext_list_item (items := items) hit' haxl hxi fun h₁ hit₁ hs₁ => ?_
    have k1 : KeepBut ex H h₁ := fun b o n e => (hs₁.2 b (fun q => n (q ▸ hIx))).trans e
    have hp1 : P h₁ := hP H h₁ hp' fun b o _ n e => (hs₁.2 b n).trans e
    have hD1 : h₁.IsList D ys := by
      obtain ⟨o, ho, r⟩ := hD
      exact ⟨o, (hs₁.2 D hDI).trans ho, r⟩
    refine hgo items[i] _ _ _ _ (Array.getElem_mem _) hit₁ ?_
    refine wpAny_mono (hasg items[i] _ _ (Array.getElem_mem _) hp1 (hk.trans k1) rfl rfl rfl) (fun _ s₃ h₃ => ?_) fun _ _ e => e
    obtain ⟨h₃, tk₃, rfl, hp3, hG3, k3, d3, i3⟩ := h₃
    have hD3 : h₃.IsList D ys := by obtain ⟨o, ho, r⟩ := hD1; exact ⟨o, d3 _ ho, r⟩
    have hit3 : h₃.IsListIter I ax (i + 1) := by obtain ⟨o, ho, r⟩ := hit₁; exact ⟨o, i3 _ ho, r⟩
    have k13 := k1.trans k3
    have htake : items.toList.take (i + 1) = items.toList.take i ++ [items[i]] := by
      rw [List.take_succ]
      simp [hlt]
    refine wpAny_mono (helt items[i] _ _ (Array.getElem_mem _) hp3 hG3 (hk.trans k13) rfl rfl rfl) (fun y s₄ h₄ => ?_) fun _ _ e => e
    obtain ⟨h₄, tk₄, rfl, hFy, k4⟩ := h₄
    have hys : ys.size ≤ sizeLine := by
      have e1 := hA.length
      have e3 : (items.toList.take i).length ≤ i := by simp; omega
      have e4 : ys.toList.length = ys.size := by simp
      rw [sizeLine_eq]
      omega
    have hD4 : h₄.IsList D ys := by obtain ⟨o, ho, r⟩ := hD3; exact ⟨o, k4 _ _ ho, r⟩
    refine wpAny_list_append hD4 (fun h₅ hl₅ hs₅ => ?_) hys
    have k5 : KeepBut ex h₄ h₅ := fun b o n e => (hs₅.2 b (fun q => n (q ▸ hDx))).trans e
    have k45 : KeepBut ex H h₅ := fun b o n e => k5 b o n (k4 b o (k13 b o n e))
    refine ⟨items.size + 1 - (i + 1), by omega, i + 1, h₅, tk₄, ys.push y, rfl, hlt, rfl, ?_, hl₅, ?_, ?_, hk.trans k45⟩
    · obtain ⟨o, ho, r⟩ := hit3
      exact ⟨o, (hs₅.2 I (Ne.symm hDI)).trans (k4 _ _ ho), r⟩
    · exact hP h₃ h₅ hp3 fun b o n _ e => (hs₅.2 b n).trans (k4 b o e)
    · rw [htake]
      have e : (ys.push y).toList = ys.toList ++ [y] := by simp
      rw [e]
      exact (hA.mono fun v y => hF H h₅ v y k45).snoc (hF h₄ h₅ _ _ k5 hFy)
  · have hxi : items[i]? = none := by simp; omega
    refine wpAny_pyNext_list_end (items := items) hh hit' haxl hxi fun h₁ hs₁ => ?_
    have ei : i = items.size := by omega
    subst ei
    have k1 : KeepBut ex H h₁ := fun b o n e => hs₁ b o (fun q => n (q ▸ hIx)) e
    refine hR h₁ tk ys (hP H h₁ hp' fun b o _ n e => hs₁ b o n e) ?_ ?_ (hk.trans k1)
    · obtain ⟨o, ho, r⟩ := hD
      exact ⟨o, hs₁ _ _ hDI ho, r⟩
    · have e : items.toList.take items.size = items.toList := by rw [← Array.length_toList, List.take_length]
      rw [e] at hA
      exact hA.mono fun v y => hF H h₁ v y k1
/-- a comprehension's own objects: its locals and its one cell -/
def CompOwn (C CT : Addr) (h : Heap) : Prop := (∃ m, h.Ns C m) ∧ ∃ v, h.IsCell CT v
structure Fresh4 (h : Heap) (CT C D I : Addr) : Prop where
  ct : h.get? CT = none
  c : h.get? C = none
  d : h.get? D = none
  i : h.get? I = none
  ord : @LT.lt Nat _ I D ∧ @LT.lt Nat _ D C ∧ @LT.lt Nat _ C CT ∧ @LE.le Nat _ h.objs.size I
theorem ListComp_T {s : Shared} {elt target iter : PySem.Expr} {scope : Scope} {cl : List (Str × Addr)} {tx : Str} {pos : Pos} {Q : Value → Shared → Prop} (F : List Addr → Heap → Value → Value → Prop) (G : Addr → Addr → Heap → Value → Prop)
    (hF : ∀ ex h h' v y, KeepBut ex h h' → F ex h v y → F ex h' v y)
    (hclos : closureFor scope env = pure cl) (hcf : ∀ n, cellsFrom n scope.names cl = (tx, n) :: cl) (hpc : ∀ h, pushCells h scope.names = h.push { cls := .type "cell", data := .cell none }) (hkind : scope.kind = .function)
    (hnames : ∀ y ∈ scope.names, y.2 = .local → scope.names.lookup y.1 = some .local) (hh : A.handled = none)
    (hgo : ∀ (I ax : Addr) v s₂ E' (Q' : Unit → Shared → Prop) i, (∃ a, v = .ref a) → s₂.heap.IsListIter I ax i → Q' () s₂ → wpAny (model prog w) A (letOwnedTupleGo target (.ref I) v) Q' E' s₂)
    (h : wpAny (model prog w) A (eval iter env) (fun xv s₁ => ∃ ax items, xv = .ref ax ∧ s₁.heap.IsList ax items ∧ items.size ≤ 1000 ∧ (∀ v ∈ items, ∃ a, v = .ref a) ∧
      (∀ CT C D I, Fresh4 s₁.heap CT C D I →
        (∀ v s₂ E', v ∈ items → CompOwn C CT s₂.heap → KeepBut [CT, C, D, I] s₁.heap s₂.heap → s₂.gens = s₁.gens → s₂.drawn = s₁.drawn → s₂.os = s₁.os →
          wpAny (model prog w) A (assign target (compEnvC scope ((tx, CT) :: cl) C env) v) (fun _ s₃ => ∃ h' tk, s₃ = { s₂ with heap := h', toks := tk } ∧ CompOwn C CT h' ∧ G C CT h' v ∧ KeepBut [CT, C, D, I] s₂.heap h' ∧ (∀ o, s₂.heap.get? D = some o → h'.get? D = some o) ∧ ∀ o, s₂.heap.get? I = some o → h'.get? I = some o) E' s₂) ∧
        (∀ v s₂ E', v ∈ items → CompOwn C CT s₂.heap → G C CT s₂.heap v → KeepBut [CT, C, D, I] s₁.heap s₂.heap → s₂.gens = s₁.gens → s₂.drawn = s₁.drawn → s₂.os = s₁.os →
          wpAny (model prog w) A (eval elt (compEnvC scope ((tx, CT) :: cl) C env)) (fun y s₃ => ∃ h' tk, s₃ = { s₂ with heap := h', toks := tk } ∧ F [CT, C, D, I] h' v y ∧ ∀ b o, s₂.heap.get? b = some o → h'.get? b = some o) E' s₂) ∧
        ∀ h' tk ys, h'.IsList D ys → All2 (F [CT, C, D, I] h') items.toList ys.toList → KeepBut [CT, C, D, I] s₁.heap h' → Q (.ref D) { s₁ with heap := h', toks := tk })) E s)
    (hs : ∀ x, foldedSetIterable iter env x = pure x := by intro _; rfl) :
    wpAny (model prog w) A (eval (.ListComp elt [⟨target, iter, [], 0⟩] scope pos) env) Q E s := by
  rw [eval_ListComp]
  refine wpAny_comprehension_free (use := none) rfl hs hclos hkind hnames (wpAny_mono h (fun xv s₁ h₁ => ?_) fun _ _ e => e)
  obtain ⟨ax, items, rfl, hl, hsz, hrefs, h₂⟩ := h₁
  refine wpAny_pyIter_list hl ?_
  refine wpAny_newObj_type ?_
  have halt : ax < s₁.heap.objs.size := by obtain ⟨o, ho, _⟩ := hl; exact Heap.lt_size ho
  dsimp only
  generalize hI : s₁.heap.objs.size = I at halt ⊢
  generalize hH1 : s₁.heap.push { cls := .type "list_iterator", data := .fields #[.ref ax, .int 0 0] } = H1
  have hs1 : H1.objs.size = I + 1 := by rw [← hH1, Heap.size_push, hI]
  have k1 : ∀ b o, s₁.heap.get? b = some o → H1.get? b = some o := fun b o e => by rw [← hH1]; exact Heap.get?_push_of_some _ e
  have gI : H1.get? I = some { cls := .type "list_iterator", data := .fields #[.ref ax, .int 0 0] } := by rw [← hH1, ← hI]; exact Heap.get?_push_size _ rfl
  rw [hs1]
  generalize hH2 : H1.push { cls := .type "list", dict := none, data := .seq ([] : List Value).toArray } = H2
  have hs2 : H2.objs.size = I + 2 := by rw [← hH2, Heap.size_push, hs1]
  have k2 : ∀ b o, H1.get? b = some o → H2.get? b = some o := fun b o e => by rw [← hH2]; exact Heap.get?_push_of_some _ e
  have gD : H2.get? (I + 1) = some { cls := .type "list", dict := none, data := .seq ([] : List Value).toArray } := by rw [← hH2, ← hs1]; exact Heap.get?_push_size _ rfl
  have fresh : ∀ a, I ≤ a → s₁.heap.get? a = none := fun a ha => by
    cases e : s₁.heap.get? a with
    | none => rfl
    | some o' => exact absurd (Heap.lt_size e) (by rw [hI]; exact Nat.not_lt.mpr ha)
  obtain ⟨hasg, helt, hR⟩ := h₂ (I + 3) (I + 2) (I + 1) I ⟨fresh _ (by omega), fresh _ (by omega), fresh _ (by omega), fresh _ (Nat.le_refl _), by omega⟩
  simp only [newFunctionEnv, Option.isSome_some, if_true]
  refine wpAny_bind (wpAny_alloc ?_)
  refine wpAny_bind (wpAny_layCells _ (fun name kind cells => by cases hkc : kind == NameKind.cell <;> simp [hkc]) _ _ _ _ ?_)
  dsimp only
  rw [List.forIn_nil]
  refine wpAny_bind (wpAny_pure (wpAny_pure ?_))
  rw [hcf, hpc, hs2, show (H2.push { cls := .type "dict", data := .dict #[] }).objs.size = I + 3 by rw [Heap.size_push, hs2]]
  have gC : (H2.push { cls := .type "dict", data := .dict #[] }).get? (I + 2) = some { cls := .type "dict", data := .dict #[] } := by rw [← hs2]; exact Heap.get?_push_size _ rfl
  generalize hH3 : H2.push { cls := .type "dict", data := .dict #[] } = H3 at gC ⊢
  have hs3 : H3.objs.size = I + 3 := by rw [← hH3, Heap.size_push, hs2]
  have k3 : ∀ b o, H2.get? b = some o → H3.get? b = some o := fun b o e => by rw [← hH3]; exact Heap.get?_push_of_some _ e
  have nsC : H3.Ns (I + 2) (fun _ => none) := by rw [← hH3, ← hs2]; exact Heap.Ns.new H2 (.type "dict")
  have gT : (H3.push { cls := .type "cell", data := .cell none }).get? (I + 3) = some { cls := .type "cell", data := .cell none } := by rw [← hs3]; exact Heap.get?_push_size _ rfl
  have k4 : ∀ b o, H3.get? b = some o → (H3.push { cls := .type "cell", data := .cell none }).get? b = some o := fun b o e => Heap.get?_push_of_some _ e
  generalize H3.push { cls := .type "cell", data := .cell none } = H4 at gT k4 ⊢
  have kk : KeepBut [I + 3, I + 2, I + 1, I] s₁.heap H4 := fun b o _ e => k4 b o (k3 b o (k2 b o (k1 b o e)))
  have loop : ∀ s₃ : Shared, s₃ = { s₁ with heap := H4 } → codeAny (model prog w) A (.compLoop (.ListComp elt [⟨target, iter, [], 0⟩] scope pos) 0 (.ref I) (.ref (I + 1)) (compEnvC scope ((tx, I + 3) :: cl) (I + 2) env))
      (compPost (model prog w) A E none Q (.ref (I + 1)) (I + 2)) s₃ := by
    rintro s₃ rfl
    refine compLoop_T (cenv := compEnvC scope ((tx, I + 3) :: cl) (I + 2) env) (ax := ax) (items := items) [I + 3, I + 2, I + 1, I] (F [I + 3, I + 2, I + 1, I]) (CompOwn (I + 2) (I + 3)) (G (I + 2) (I + 3)) (fun h h' v y k f => hF _ h h' v y k f) (fun h h' x k => ?_) (by simp) (by simp) ?_ hh (Nat.succ_ne_self I)
      ⟨_, k4 _ _ (k3 _ _ (k2 _ _ gI)), rfl, rfl⟩ ?_ ⟨_, k4 _ _ (k3 _ _ gD), rfl, _, rfl⟩ ⟨⟨_, nsC.keeps k4⟩, none, _, gT, rfl⟩ hsz (fun v s₂ E' Q' i hv hi q => hgo I ax v s₂ E' Q' i (hrefs v hv) hi q) ?_ ?_ ?_
    · obtain ⟨⟨m, oL, es, ep, hL, r⟩, v, o, ho, r2⟩ := x
      have n1 : I + 2 ≠ I + 1 := Nat.succ_ne_self (I + 1)
      have n2 : I + 2 ≠ I := Nat.ne_of_gt (Nat.lt_add_of_pos_right (by decide))
      have n3 : I + 3 ≠ I + 1 := Nat.ne_of_gt (Nat.add_lt_add_left (by decide) I)
      have n4 : I + 3 ≠ I := Nat.ne_of_gt (Nat.lt_add_of_pos_right (by decide))
      exact ⟨⟨m, oL, es, ep, k _ _ n1 n2 hL, r⟩, v, o, k _ _ n3 n4 ho, r2⟩
    · intro hb
      have e1 : @LT.lt Nat _ ax I := halt
      simp only [List.mem_cons, List.not_mem_nil, or_false] at hb
      rcases hb with hb | hb | hb | hb
      · exact Nat.ne_of_lt (Nat.lt_of_lt_of_le halt (Nat.le_add_right I 3)) hb
      · exact Nat.ne_of_lt (Nat.lt_of_lt_of_le halt (Nat.le_add_right I 2)) hb
      · exact Nat.ne_of_lt (Nat.lt_succ_of_lt halt) hb
      · exact Nat.ne_of_lt halt hb
    · obtain ⟨o, ho, r⟩ := hl
      exact ⟨o, k4 _ _ (k3 _ _ (k2 _ _ (k1 _ _ ho))), r⟩
    · intro v s₂ E' hv hp k g1 g2 g3
      exact hasg v s₂ E' hv hp (kk.trans k) g1 g2 g3
    · intro v s₂ E' hv hp hg k g1 g2 g3
      exact helt v s₂ E' hv hp hg (kk.trans k) g1 g2 g3
    · intro h' tk ys hp hd ha k
      obtain ⟨⟨m', hn⟩, _⟩ := hp
      refine ⟨m', hn, fun h'' hs'' => ?_⟩
      have k5 : KeepBut [I + 3, I + 2, I + 1, I] h' h'' := fun b o n e => by
        simp at n
        exact (hs''.2 b n.2.1).trans e
      refine hR h'' tk ys ?_ (ha.mono fun v y => hF _ h' h'' v y k5) ((kk.trans k).trans k5)
      obtain ⟨o, ho, r⟩ := hd
      exact ⟨o, (hs''.2 (I + 1) (Nat.ne_of_lt (Nat.lt_succ_self (I + 1)))).trans ho, r⟩
  exact codeAny_compStart_list (loop _ rfl) (wpAny_pyIter_listiter ⟨_, k4 _ _ (k3 _ _ (k2 _ _ gI)), rfl, rfl⟩ (loop _ rfl))
end
end Mine
end
/- SumI -/
section
open PySem PySem.W PyProof.Rows PySem.Calls
namespace Mine
set_option maxRecDepth 100000
set_option maxHeartbeats 400000
abbrev IntIs (v : Value) (z : Int) : Prop := ∃ t, v = .int z t
theorem preSum_snoc (f : Nat → Int) (n : Nat) : preSum f (n + 1) = preSum f n + f n := by first | rfl | (unfold preSum; simp [List.range_succ])
theorem preSum_list (xs : List (Int × Tok)) : ∀ n, n ≤ xs.length → preSum (numAt xs.toArray) n = ((xs.take n).map (·.1)).sum := by
  intro n
  induction n with
  | zero => intro _; rfl
  | succ n ih =>
    intro hn
    rw [preSum_snoc, ih (by omega)]
    have hlt : n < xs.length := by omega
    have e : xs.take (n + 1) = xs.take n ++ [xs[n]] := by
      rw [List.take_succ]
      simp [hlt]
    rw [e, List.map_append, List.sum_append]
    simp [hlt, numAt]
theorem ints_items : ∀ {vs : List Value} {zs : List Int}, All2 IntIs vs zs → ∃ xs : List (Int × Tok), xs.map (·.1) = zs ∧ vs = xs.map fun p => .int p.1 p.2
  | _, _, .nil => ⟨[], rfl, rfl⟩
  | _, _, .cons (b := b) ⟨t, e⟩ r => by
    obtain ⟨xs, e1, e2⟩ := ints_items r
    exact ⟨(b, t) :: xs, by simp [e1], by rw [e, e2]; rfl⟩
theorem sum_ints {prog : Program} {w : World} {A : Around} {E : Value → Shared → Prop} {s : Shared} {l : Addr} {ys : Array Value} {zs : List Int} {Q : Value → Shared → Prop} (hh : A.handled = none) (hl : s.heap.IsList l ys) (hz : All2 IntIs ys.toList zs)
    (h : ∀ h' tk t', (∀ b o, s.heap.get? b = some o → h'.get? b = some o) → Q (.int zs.sum t') { s with heap := h', toks := tk }) : wpAny (model prog w) A (call (.builtin "sum") [.ref l]) Q E s := by
  obtain ⟨xs, e1, e2⟩ := ints_items hz
  have e3 : ys = intItems xs.toArray := by
    apply Array.ext'
    rw [e2]
    simp [intItems]
  refine sum_intListG (xs := xs.toArray) hh (e3 ▸ hl) (fun h' tk t' k => ?_)
  have e4 := preSum_list xs xs.length (Nat.le_refl _)
  rw [List.take_length, e1] at e4
  have e5 : xs.toArray.size = xs.length := by simp
  rw [e5, e4]
  exact h h' tk t' k
end Mine
end
/- Law -/
section
open PySem PySem.W PyProof.Rows PySem.Calls
namespace Mine
set_option maxRecDepth 100000
set_option maxHeartbeats 400000
theorem sorted_count (f : Nat → Nat) (j : Nat) : ∀ (l : List Nat), (∀ a b, a ≤ b → b < l.length → f (l.getD a 0) ≤ f (l.getD b 0)) → ∀ i, i < l.length → (f (l.getD i 0) ≤ j ↔ i < l.countP (fun x => decide (f x ≤ j)))
  | [], _, i, hi => by simp at hi
  | a :: t, hs, i, hi => by
    have ht : ∀ x y, x ≤ y → y < t.length → f (t.getD x 0) ≤ f (t.getD y 0) := fun x y hxy hy => by
      have := hs (x + 1) (y + 1) (by omega) (by simpa using hy)
      simpa using this
    by_cases ha : f a ≤ j
    · rw [List.countP_cons, if_pos (by simpa using ha)]
      cases i with
      | zero => simpa using ha
      | succ i =>
        have := sorted_count f j t ht i (by simpa using hi)
        simp only [List.getD_cons_succ]
        rw [this]
        omega
    · have hall : ∀ x ∈ a :: t, ¬ f x ≤ j := fun x hx => by
        obtain ⟨n, hn, rfl⟩ := List.mem_iff_getElem.mp hx
        have h1 := hs 0 n (Nat.zero_le _) hn
        have e : (a :: t).getD n 0 = (a :: t)[n] := by rw [List.getD_eq_getElem?_getD, List.getElem?_eq_getElem hn]; rfl
        rw [e] at h1
        simp at h1
        omega
      have h0 : (a :: t).countP (fun x => decide (f x ≤ j)) = 0 := List.countP_eq_zero.mpr fun x hx => by simpa using hall x hx
      rw [h0]
      have e : (a :: t).getD i 0 = (a :: t)[i] := by rw [List.getD_eq_getElem?_getD, List.getElem?_eq_getElem hi]; rfl
      rw [e]
      have := hall _ (List.getElem_mem hi)
      omega
theorem med_low_is {rs : List Nat} {r : Nat} (h : IsMed true rs r) (hne : rs ≠ []) (j : Nat) : rpos r ≤ j ↔ rs.length ≤ 2 * rs.countP (fun x => decide (rpos x ≤ j)) := by
  obtain ⟨rs', hp, hs, rfl⟩ := h
  have hl := hp.length_eq
  have hpos : 0 < rs.length := List.length_pos_iff.mpr hne
  have hc := hp.countP_eq (fun x => decide (rpos x ≤ j))
  simp only [if_true]
  rw [sorted_count rpos j rs' hs _ (by omega), hc]
  omega
theorem med_high_is {rs : List Nat} {r : Nat} (h : IsMed false rs r) (hne : rs ≠ []) (j : Nat) : rpos r ≤ j ↔ rs.length < 2 * rs.countP (fun x => decide (rpos x ≤ j)) := by
  obtain ⟨rs', hp, hs, rfl⟩ := h
  have hl := hp.length_eq
  have hpos : 0 < rs.length := List.length_pos_iff.mpr hne
  have hc := hp.countP_eq (fun x => decide (rpos x ≤ j))
  simp only [Bool.false_eq_true, if_false]
  rw [sorted_count rpos j rs' hs _ (by omega), hc]
  omega
/-- the order of the releases in _law_due -/
def ordRel (j : Nat) : Nat := match j with
  | 0 => 0
  | 1 => 2
  | 2 => 3
  | _ => 1
/-- how many machines of kind k have release r -/
def cnt (k r : Nat) (ns : List Int) : Nat := (ranks k ns).count r
theorem countP_pre {rs : List Nat} (h4 : ∀ r ∈ rs, r < 4) : rs.countP (fun x => decide (rpos x ≤ 0)) = rs.count 0 ∧ rs.countP (fun x => decide (rpos x ≤ 1)) = rs.count 0 + rs.count 2 ∧
    rs.countP (fun x => decide (rpos x ≤ 2)) = rs.count 0 + rs.count 2 + rs.count 3 ∧ rs.countP (fun x => decide (rpos x ≤ 3)) = rs.length ∧ rs.length = rs.count 0 + rs.count 2 + rs.count 3 + rs.count 1 := by
  induction rs with
  | nil => simp
  | cons a t ih =>
    have ha := h4 a (.head _)
    obtain ⟨i0, i1, i2, i3, i4⟩ := ih fun r hr => h4 r (.tail _ hr)
    obtain rfl | rfl | rfl | rfl : a = 0 ∨ a = 1 ∨ a = 2 ∨ a = 3 := by omega
    all_goals rw [List.countP_cons, List.countP_cons, List.countP_cons, List.countP_cons, List.count_cons, List.count_cons, List.count_cons, List.count_cons, i0, i1, i2, i3, List.length_cons]
    all_goals (refine ⟨?_, ?_, ?_, ?_, ?_⟩ <;> simp (decide := true) only [show rpos 0 = 0 from rfl, show rpos 1 = 3 from rfl, show rpos 2 = 1 from rfl, show rpos 3 = 2 from rfl, if_true, if_false, decide_true, decide_false, beq_self_eq_true, Bool.false_eq_true, Nat.add_zero] <;> omega)
theorem cnt_sum (k r : Nat) : ∀ ns : List Int, ((ns.filter fun n => decide (kindOf n = k) && decide (relOf n = r)).map fun n => (multOf n : Int)).sum = (cnt k r ns : Int)
  | [] => rfl
  | n :: ns => by
    have ih := cnt_sum k r ns
    unfold cnt ranks at ih ⊢
    rw [List.flatMap_cons, List.count_append]
    by_cases hk : kindOf n = k
    · by_cases hr : relOf n = r
      · rw [List.filter_cons_of_pos (by simp [hk, hr]), List.map_cons, List.sum_cons, ih, if_pos hk, hr, List.count_replicate_self]
        omega
      · rw [List.filter_cons_of_neg (by simp [hk, hr]), ih, if_pos hk, List.count_replicate]
        simp [hr]
    · rw [List.filter_cons_of_neg (by simp [hk]), ih, if_neg hk]
      simp
end Mine
end
/- Gl4 -/
section
open PySem PySem.W PyProof.Rows PySem.Calls
open Sem (wp)
namespace Mine
set_option maxRecDepth 100000
set_option maxHeartbeats 4000000
section
variable {prog : Program} {w : World} {Γ : Ctx} {A : Around} {s : Shared} {g : Heap} {L a I l c : Addr} {m : Str → Option Value} {name : Str} {scope : Scope} {cd : Value} {news : List (Addr × Obj)} {Q : Flow → Shared → Prop}
  {x : Str} {tp : Pos} {body : List Stmt} {i : Nat} {items : Array Value} {v : Value} {oI ol oc : Obj} {n : Nat} {cl : List (Str × Addr)} {v₀ : Option Value}
/-- a turn of a loop over a list whose target is a cell -/
theorem okC_turnC (hc : Γ.code = .forLoop (.Name x tp) (.ref I) body [] (envX name scope L a cd cl)) (hΓ : Γ.In A) (F : Fr g L s.heap m) (N : News g L s.heap ((I, oI) :: (l, ol) :: (c, oc) :: news))
    (hI : itObj oI l i) (hlc : ol.cls = .type "list") (hld : ol.data = .seq items n) (hne : l ≠ I) (hcI : c ≠ I) (hlcc : l ≠ c) (hnn : ∀ q ∈ news, q.1 ≠ I) (hcn : ∀ q ∈ news, q.1 ≠ c) (hx : items[i]? = some v) (hcell : cl.lookup x = some c) (hoc : oc.data = .cell v₀)
    (h : ∀ h' oI' oc' tk, itObj oI' l (i + 1) → oc'.data = .cell (some v) → Fr g L h' m → News g L h' ((I, oI') :: (l, ol) :: (c, oc') :: news) →
      wpG (model prog w) Γ (execs body (envX name scope L a cd cl)) (fun f s₃ => match f with
          | .next | .cont => okC (model prog w) Γ Q s₃
          | .brk => Q .next s₃
          | .ret v => Q (.ret v) s₃) noE { s with heap := h', toks := tk })
    (hk : scope.kind = .function) (hl : (envX name scope L a cd cl).kindOf x = some .cell) : okC (model prog w) Γ Q s := by
  refine okC_forTurn hc ?_ (fun v => letOwned_NameX _ v)
  have n1 := N _ (.head _)
  have n2 := N _ (.tail _ (.head _))
  refine wpG_any hΓ (wpAny_pyNext_list_item (l := l) (i := i) (items := items) ⟨oI, n1.1, hI.1, hI.2⟩ ⟨ol, n2.1, hlc, n, hld⟩ hx fun h' hit' hs => ?_)
  obtain ⟨oI', ho', hc', hd'⟩ := hit'
  have F' : Fr g L h' m := ⟨F.ns.sameBut hs (Ne.symm n1.2.1), fun b o e => (hs.2 b (fun q => by rw [q, n1.2.2] at e; cases e)).trans (F.keep b o e), F.above⟩
  have N' : News g L h' ((I, oI') :: (l, ol) :: (c, oc) :: news) := fun q hq => by
    rcases List.mem_cons.mp hq with rfl | hq
    · exact ⟨ho', n1.2⟩
    · have hqI : q.1 ≠ I := by
        rcases List.mem_cons.mp hq with rfl | hq
        · exact hne
        rcases List.mem_cons.mp hq with rfl | hq
        · exact hcI
        · exact hnn q hq
      exact ⟨(hs.2 _ hqI).trans (N q (.tail _ hq)).1, (N q (.tail _ hq)).2⟩
  have hself : Γ.goto (.forLoop (.Name x tp) (.ref I) body [] (envX name scope L a cd cl)) = Γ := by rw [← hc]; rfl
  rw [hself]
  exact wpG_any hΓ (wpAny_assign_Name (storeX_C F' N' hcell (.tail (Ne.symm hcI) (.tail hlcc (.head hcn))) hoc (fun h₂ oc' F₂ N₂ d₂ => h h₂ oI' oc' _ ⟨hc', hd'⟩ d₂ F₂ N₂) hk hl))
end
end Mine
end
/- Due2 -/
section
open PySem PySem.W PySem.W.X PyProof.Rows PySem.Calls
namespace Mine
set_option maxRecDepth 100000
set_option maxHeartbeats 1000000
/-- what the row's code finds by name -/
structure GNames (mg mb : Str → Option Value) : Prop where
  sum0 : mg (Str.ofString "sum") = none
  sum1 : mb (Str.ofString "sum") = some (.builtin "sum")
  range0 : mg (Str.ofString "range") = none
  range1 : mb (Str.ofString "range") = some (.type "range")
  rel : mg (Str.ofString "_law_release") = some (.ref 92)
/-- an environment of a function of the row -/
structure EnvOk (e : Env) : Prop where
  kind : e.scope.kind = .function
  globals : e.globals = mainGlobals
  builtins : e.builtins = builtinsNs
abbrev Keep (h h' : Heap) : Prop := ∀ b o, h.get? b = some o → h'.get? b = some o
theorem Keep.trans {h h' h'' : Heap} (x : Keep h h') (y : Keep h' h'') : Keep h h'' := fun b o e => y b o (x b o e)
theorem keep_push (h : Heap) (o : Obj) : Keep h (h.push o) := fun _ _ e => Heap.get?_push_of_some _ e
/-- the global names, in a heap -/
structure GN (mg mb : Str → Option Value) (h : Heap) : Prop where
  g : h.Ns mainGlobals mg
  b : h.Ns builtinsNs mb
theorem GN.keeps {mg mb : Str → Option Value} {h h' : Heap} (x : GN mg mb h) (k : Keep h h') : GN mg mb h' := ⟨x.g.keeps k, x.b.keeps k⟩
theorem isList_keep {h h' : Heap} {l : Addr} {ys : Array Value} (x : h.IsList l ys) (k : Keep h h') : h'.IsList l ys := by obtain ⟨o, e, r⟩ := x; exact ⟨o, k _ _ e, r⟩
theorem isCell_keep {h h' : Heap} {l : Addr} {v : Option Value} (x : h.IsCell l v) (k : Keep h h') : h'.IsCell l v := by obtain ⟨o, e, r⟩ := x; exact ⟨o, k _ _ e, r⟩
theorem isTup_keep {h h' : Heap} {l : Addr} {ys : Array Value} (x : IsTup h l ys) (k : Keep h h') : IsTup h' l ys := by obtain ⟨o, e, r⟩ := x; exact ⟨o, k _ _ e, r⟩
theorem All2.take {α β : Type} {P : α → β → Prop} {l : List α} {r : List β} (x : All2 P l r) : ∀ n, All2 P (l.take n) (r.take n) := by
  induction x with
  | nil => intro n; simpa using All2.nil
  | cons p _ ih =>
    intro n
    cases n with
    | zero => exact .nil
    | succ n => exact .cons p (ih n)
section
variable {w : World} {A : Around} {E : Value → Shared → Prop} {s : Shared} {e : Env} {mg mb : Str → Option Value} {Q : Value → Shared → Prop} {p1 p2 p3 p4 p5 p6 p7 p8 p9 p10 p11 : Pos}
theorem name_builtin {x : Str} {v : Value} {p : Pos} (K : EnvOk e) (hx : e.kindOf x = some .globalImplicit) (G : GN mg mb s.heap) (h0 : mg x = none) (h1 : mb x = some v) (h : Q v s) (hd : (x == ("__debug__" : Str)) = false := by decide) : wpAny (model prog w) A (eval (.Name x p) e) Q E s :=
  Name_function_global K.kind hx (loadGlobal_builtin (by rw [K.globals]; exact G.g) h0 (by rw [K.builtins]; exact G.b) h1 h) hd
theorem name_global {x : Str} {v : Value} {p : Pos} (K : EnvOk e) (hx : e.kindOf x = some .globalImplicit) (G : GN mg mb s.heap) (h0 : mg x = some v) (h : Q v s) (hd : (x == ("__debug__" : Str)) = false := by decide) : wpAny (model prog w) A (eval (.Name x p) e) Q E s :=
  Name_function_global K.kind hx (loadGlobal_global (by rw [K.globals]; exact G.g) h0 h) hd
theorem name_cell {x : Str} {v : Value} {c : Addr} {p : Pos} (K : EnvOk e) (hx : e.kindOf x = some .cell) (hc : e.cells.lookup x = some c) (hv : s.heap.IsCell c (some v)) (h : Q v s) (hd : (x == ("__debug__" : Str)) = false := by decide) : wpAny (model prog w) A (eval (.Name x p) e) Q E s :=
  wpAny_Name (wpAny_loadName_cell K.kind hx hc hv h) hd
theorem name_local {x : Str} {v : Value} {m : Str → Option Value} {p : Pos} (K : EnvOk e) (hx : e.kindOf x = some .local) (hn : s.heap.Ns e.locals m) (hm : m x = some v) (h : Q v s) (hd : (x == ("__debug__" : Str)) = false := by decide) : wpAny (model prog w) A (eval (.Name x p) e) Q E s :=
  wpAny_Name (wpAny_loadName_local K.kind hx hn hm h) hd
/-- sum(counts) -/
theorem sum_counts {cC CL : Addr} {ys : Array Value} {zs : List Int} (K : EnvOk e) (hs : e.kindOf (Str.ofString "sum") = some .globalImplicit) (hc : e.kindOf (Str.ofString "counts") = some .cell) (hcl : e.cells.lookup (Str.ofString "counts") = some cC) (hh : A.handled = none)
    (GG : GNames mg mb) (G : GN mg mb s.heap) (hcell : s.heap.IsCell cC (some (.ref CL))) (hl : s.heap.IsList CL ys) (hz : All2 IntIs ys.toList zs)
    (h : ∀ h' tk t, Keep s.heap h' → Q (.int zs.sum t) { s with heap := h', toks := tk }) :
    wpAny (model prog w) A (eval (.Call (.Name (Str.ofString "sum") p1) [.Name (Str.ofString "counts") p2] [] p3) e) Q E s := by
  refine Call_ (name_builtin K hs G GG.sum0 GG.sum1 ?_)
  refine PyProof.Rows.callWith_builtin1 ?_
  refine args_cons (name_cell K hc hcl hcell ?_)
  refine args_nil ?_
  exact sum_ints hh hl hz fun h' tk t k => h h' tk t k
/-- sum(counts[:j + 1]) -/
theorem sum_upto {cC CL : Addr} {ys : Array Value} {zs : List Int} {m : Str → Option Value} {j : Nat} {t : Tok} (K : EnvOk e) (hs : e.kindOf (Str.ofString "sum") = some .globalImplicit) (hc : e.kindOf (Str.ofString "counts") = some .cell) (hcl : e.cells.lookup (Str.ofString "counts") = some cC) (hj : e.kindOf (Str.ofString "j") = some .local) (hh : A.handled = none)
    (GG : GNames mg mb) (G : GN mg mb s.heap) (hcell : s.heap.IsCell cC (some (.ref CL))) (hl : s.heap.IsList CL ys) (hz : All2 IntIs ys.toList zs) (hsz : ys.size ≤ 1000) (hn : s.heap.Ns e.locals m) (hm : m (Str.ofString "j") = some (.int (j : Int) t))
    (h : ∀ h' tk t, Keep s.heap h' → Q (.int (zs.take (j + 1)).sum t) { s with heap := h', toks := tk }) :
    wpAny (model prog w) A (eval (.Call (.Name (Str.ofString "sum") p1) [.Subscript (.Name (Str.ofString "counts") p2) (.Slice none (some (.BinOp (.Name (Str.ofString "j") p3) .Add (.Constant (.int 1) 0 p4) p5)) none p6) p7] [] p8) e) Q E s := by
  refine Call_ (name_builtin K hs G GG.sum0 GG.sum1 ?_)
  refine PyProof.Rows.callWith_builtin1 ?_
  refine args_cons ?_
  refine wpAny_Subscript_Slice (T := "list") slot_list_getitem.lookup (name_cell K hc hcl hcell ?_)
  refine wpAny_Slice (evalPart_none_step (evalPart_some_step (wpAny_BinOp (name_local K hj hn hm (wpAny_Constant_int (wpAny_add_int (evalPart_none_step ?_)))))))
  dsimp only
  have k1 := keep_push s.heap { cls := .type "slice", data := .fields #[.none, .int ((j : Int) + 1) (s.toks + 1), .none] }
  refine ⟨(isList_keep hl k1).typeIs, ?_⟩
  refine wpAny_getItem_list_slice (isList_keep hl k1) (Heap.IsSliceOf.new s.heap _ _ _) .none (.int _ _) .none (by simp) ?_ (by rw [sizeLine_eq]; omega)
  dsimp only
  have e1 : slicePick ys none (some ((j : Int) + 1)) none = (ys.toList.take (j + 1)).toArray := slicePick_upto' ys (j + 1)
  rw [e1]
  refine args_nil ?_
  have k2 := keep_push (s.heap.push { cls := .type "slice", data := .fields #[.none, .int ((j : Int) + 1) (s.toks + 1), .none] }) { cls := .type "list", data := .seq (ys.toList.take (j + 1)).toArray }
  refine sum_ints (ys := (ys.toList.take (j + 1)).toArray) (zs := zs.take (j + 1)) hh ⟨_, Heap.get?_push_size _ rfl, rfl, 0, rfl⟩ (by simpa using hz.take (j + 1)) fun h' tk t k => ?_
  exact h h' tk t (k1.trans (k2.trans k))
end
end Mine
end
/- Due3 -/
section
open PySem PySem.W PySem.W.X PyProof.Rows PySem.Calls
namespace Mine
set_option maxRecDepth 100000
set_option maxHeartbeats 1000000
/-- the table of the releases, as it lies in the heap -/
structure OrderIn (h : Heap) (O : Addr) (T R : Nat → Addr) (u : Nat → Tok) : Prop where
  lst : h.IsList O #[.ref (T 0), .ref (T 1), .ref (T 2), .ref (T 3)]
  tup : ∀ j < 4, IsTup h (T j) #[.str (relStrs.getD (ordRel j) Str.empty) (u j), .ref (R j)]
  ver : ∀ j < 4, VerH h (.ref (R j)) (ordRel j)
theorem verH_keep {h h' : Heap} {v : Value} {r : Nat} (x : VerH h v r) (k : Keep h h') : VerH h' v r := by
  obtain ⟨a, t1, t2, t3, t4, t5, t6, c, e, g⟩ := x
  exact ⟨a, t1, t2, t3, t4, t5, t6, c, e, k _ _ g⟩
theorem OrderIn.keeps {h h' : Heap} {O : Addr} {T R : Nat → Addr} {u : Nat → Tok} (x : OrderIn h O T R u) (k : Keep h h') : OrderIn h' O T R u :=
  ⟨isList_keep x.lst k, fun j hj => isTup_keep (x.tup j hj) k, fun j hj => verH_keep (x.ver j hj) k⟩
section
variable {w : World} {A : Around} {E : Value → Shared → Prop} {s : Shared} {e : Env} {mg mb : Str → Option Value} {p1 p2 p3 p4 p5 p6 p7 p8 p9 p10 p11 p12 p13 p14 p15 p16 p17 p18 p19 : Pos}
/-- order[j][1] -/
theorem order_item {Q : Value → Shared → Prop} {cO O : Addr} {T R : Nat → Addr} {u : Nat → Tok} {m : Str → Option Value} {j : Nat} {t : Tok} (K : EnvOk e) (hc : e.kindOf (Str.ofString "order") = some .cell) (hcl : e.cells.lookup (Str.ofString "order") = some cO) (hj : e.kindOf (Str.ofString "j") = some .local)
    (hcell : s.heap.IsCell cO (some (.ref O))) (W : OrderIn s.heap O T R u) (hn : s.heap.Ns e.locals m) (hm : m (Str.ofString "j") = some (.int (j : Int) t)) (hj4 : j < 4)
    (h : ∀ tk, Q (.ref (R j)) { s with toks := tk }) :
    wpAny (model prog w) A (eval (.Subscript (.Subscript (.Name (Str.ofString "order") p1) (.Name (Str.ofString "j") p2) p3) (.Constant (.int 1) 0 p4) p5) e) Q E s := by
  refine Subscript_ (Subscript_ (name_cell K hc hcl hcell (name_local K hj hn hm ?_)))
  refine subscriptTail_builtin (T := "list") W.lst.typeIs slot_list_getitem.lookup ?_
  have hx : (#[.ref (T 0), .ref (T 1), .ref (T 2), .ref (T 3)] : Array Value)[((j : Int)).toNat]? = some (.ref (T j)) := by
    obtain rfl | rfl | rfl | rfl : j = 0 ∨ j = 1 ∨ j = 2 ∨ j = 3 := by omega
    all_goals rfl
  refine wpAny_getItem_list W.lst (by omega) (by omega) hx ?_
  refine wpAny_Constant_int ?_
  have ht : IsTup s.heap (T j) _ := W.tup j hj4
  refine kba_turn (value' := .Name (Str.ofString "_") p1) (fun _ => rfl) ?_
  refine subscriptTail_builtin (T := "tuple") ht.typeIs slot_tuple_getitem.lookup ?_
  exact PyProof.Rows.getItem_tuple (j := 1) ht (by decide) (by decide) rfl rfl (h _)
/-- 2 * sum(counts[:j + 1]) >= sum(counts) -/
theorem test_at {Q : Bool → Shared → Prop} {whole : Sem Value} {op : CmpOp} {f : Int → Int → Bool} {cC CL : Addr} {ys : Array Value} {zs : List Int} {m : Str → Option Value} {j : Nat} {t : Tok} (hop : ∀ {a b : Int} {t u : Tok} {s : Shared} {Q : Value → Shared → Prop} {E : Value → Shared → Prop}, Q (.bool (f a b)) s → wpAny (model prog w) A (compareOp op (.int a t) (.int b u)) Q E s)
    (hm0 : behindInMarks op (.Call (.Name (Str.ofString "sum") p12) [.Name (Str.ofString "counts") p13] [] p14) = false)
    (K : EnvOk e) (hs : e.kindOf (Str.ofString "sum") = some .globalImplicit) (hc : e.kindOf (Str.ofString "counts") = some .cell) (hcl : e.cells.lookup (Str.ofString "counts") = some cC) (hj : e.kindOf (Str.ofString "j") = some .local) (hh : A.handled = none)
    (GG : GNames mg mb) (G : GN mg mb s.heap) (hcell : s.heap.IsCell cC (some (.ref CL))) (hl : s.heap.IsList CL ys) (hz : All2 IntIs ys.toList zs) (hsz : ys.size ≤ 1000) (hn : s.heap.Ns e.locals m) (hm : m (Str.ofString "j") = some (.int (j : Int) t))
    (h : ∀ h' tk, Keep s.heap h' → Q (f (2 * (zs.take (j + 1)).sum) zs.sum) { s with heap := h', toks := tk }) :
    wpAny (model prog w) A (isTrue (.Compare (.BinOp (.Constant (.int 2) 0 p9) .Mult (.Call (.Name (Str.ofString "sum") p1) [.Subscript (.Name (Str.ofString "counts") p2) (.Slice none (some (.BinOp (.Name (Str.ofString "j") p3) .Add (.Constant (.int 1) 0 p4) p5)) none p6) p7] [] p8) p10) [op]
      [.Call (.Name (Str.ofString "sum") p12) [.Name (Str.ofString "counts") p13] [] p14] p15) e whole) Q E s := by
  refine wpAny_isTrue_Compare1 ?_ hm0
  refine wpAny_BinOp (wpAny_Constant_int ?_)
  refine sum_upto (s := { s with toks := s.toks + 1 }) K hs hc hcl hj hh GG G hcell hl hz hsz hn hm fun h1 tk1 t1 k1 => ?_
  refine PyProof.Rows.mul_int ?_ (IntMulOk.of_left (by decide))
  refine sum_counts (s := { s with heap := h1, toks := tk1 + 1 }) K hs hc hcl hh GG (G.keeps k1) (isCell_keep hcell k1) (isList_keep hl k1) hz fun h2 tk2 t2 k2 => ?_
  exact hop (wpAny_truthy_bool (h h2 tk2 (k1.trans k2)))
theorem paired_range {R : Nat → Addr} {q : Nat → Bool} {p : Value → Bool} (hp : ∀ (j : Nat) t, p (Value.int (j : Int) t) = q j) : ∀ (vs : List Value) (ys : List Value) (a n : Nat), vs.length = n → (∀ j v, vs[j]? = some v → ∃ t, v = Value.int ((a + j : Nat) : Int) t) → Paired (fun v y => ∃ (j : Nat) (t : Tok), v = Value.int (j : Int) t ∧ y = Value.ref (R j)) (vs.filter p) ys →
    ys = ((List.range' a n).filter q).map fun j => Value.ref (R j) := by
  intro vs
  induction vs with
  | nil =>
    intro ys a n hn _ hP
    subst hn
    cases hP
    rfl
  | cons v vs ih =>
    intro ys a n hn hv hP
    cases n with
    | zero => simp at hn
    | succ n =>
      obtain ⟨t, rfl⟩ := hv 0 v rfl
      have hv' : ∀ j v, vs[j]? = some v → ∃ t, v = Value.int ((a + 1 + j : Nat) : Int) t := fun j v h => by
        obtain ⟨t, e⟩ := hv (j + 1) v (by simpa using h)
        exact ⟨t, by rw [e]; congr 2; omega⟩
      rw [List.filter_cons] at hP
      have e0 : p (.int ((a + 0 : Nat) : Int) t) = q a := hp a t
      rw [e0] at hP
      rw [List.range'_succ, List.filter_cons]
      cases hq : q a with
      | false =>
        rw [hq] at hP
        simpa using ih ys (a + 1) n (by simpa using hn) hv' (by simpa using hP)
      | true =>
        rw [hq] at hP
        simp only [if_true] at hP ⊢
        cases hP with
        | cons h1 h2 =>
          obtain ⟨j, t', e1, e2⟩ := h1
          have e3 : (a : Int) = (j : Int) := by simpa using (Value.int.inj e1).1
          have e4 : a = j := by omega
          subst e4
          rw [List.map_cons, e2, ih _ (a + 1) n (by simpa using hn) hv' h2]
/-- lows = [order[j][1] for j in range(4) if ..] -/
theorem assign_rows {Q : Flow → Shared → Prop} {op : CmpOp} {f : Int → Int → Bool} {y : Str} {py pos spos px r2 r3 r4 r5 : Pos} {scope : Scope} {cl : List (Str × Addr)} {cC CL cO O : Addr} {T R : Nat → Addr} {u : Nat → Tok} {ys : Array Value} {zs : List Int} {m : Str → Option Value} (hop : ∀ {a b : Int} {t u : Tok} {s : Shared} {Q : Value → Shared → Prop} {E : Value → Shared → Prop}, Q (.bool (f a b)) s → wpAny (model prog w) A (compareOp op (.int a t) (.int b u)) Q E s)
    (hm0 : behindInMarks op (.Call (.Name (Str.ofString "sum") p12) [.Name (Str.ofString "counts") p13] [] p14) = false)
    (hscope : scope = { kind := .function, names := [(Str.ofString ".0", .local), (Str.ofString "j", .local), (Str.ofString "sum", .globalImplicit), (Str.ofString "counts", .free), (Str.ofString "order", .free)], isGenerator := false, isCoroutine := false, more := [] })
    (K : EnvOk e) (hclos : closureFor scope e = pure cl) (hclC : cl.lookup (Str.ofString "counts") = some cC) (hclO : cl.lookup (Str.ofString "order") = some cO)
    (hsw : ∀ v, swapsWith (.ListComp v [⟨.Name (Str.ofString "j") px, .Call (.Name (Str.ofString "range") p16) [.Constant (.int 4) 0 p17] [] p18, [.Compare (.BinOp (.Constant (.int 2) 0 p9) .Mult (.Call (.Name (Str.ofString "sum") p1) [.Subscript (.Name (Str.ofString "counts") p2) (.Slice none (some (.BinOp (.Name (Str.ofString "j") p3) .Add (.Constant (.int 1) 0 p4) p5)) none p6) p7] [] p8) p10) [op]
      [.Call (.Name (Str.ofString "sum") p12) [.Name (Str.ofString "counts") p13] [] p14] p15], 0⟩] scope pos) (some (.Name y py)) spos.line e = pure true)
    (hy : e.kindOf y = some .local) (hr : e.kindOf (Str.ofString "range") = some .globalImplicit) (hrel : ∀ C, (compEnvC scope cl C e).kindOf (Str.ofString "sum") = some .globalImplicit ∧ (compEnvC scope cl C e).kindOf (Str.ofString "counts") = some .cell ∧ (compEnvC scope cl C e).kindOf (Str.ofString "order") = some .cell ∧ (compEnvC scope cl C e).kindOf (Str.ofString "j") = some .local)
    (hh : A.handled = none) (GG : GNames mg mb) (G : GN mg mb s.heap) (hcell : s.heap.IsCell cC (some (.ref CL))) (hl : s.heap.IsList CL ys) (hz : All2 IntIs ys.toList zs) (hsz : ys.size ≤ 1000) (hcO : s.heap.IsCell cO (some (.ref O))) (W : OrderIn s.heap O T R u) (hn : s.heap.Ns e.locals m)
    (h : ∀ D h' tk xs, s.heap.get? D = none → h'.IsList D xs → xs.toList = ((List.range 4).filter fun j => f (2 * (zs.take (j + 1)).sum) zs.sum).map (fun j => Value.ref (R j)) → h'.Ns e.locals (fun z => if z = y then some (.ref D) else m z) →
      (∀ b o, b ≠ e.locals → s.heap.get? b = some o → h'.get? b = some o) → Q .next { s with heap := h', toks := tk }) :
    wpAny (model prog w) A (exec (.Assign [.Name y py] (.ListComp (.Subscript (.Subscript (.Name (Str.ofString "order") p19) (.Name (Str.ofString "j") r2) r3) (.Constant (.int 1) 0 r4) r5) [⟨.Name (Str.ofString "j") px, .Call (.Name (Str.ofString "range") p16) [.Constant (.int 4) 0 p17] [] p18, [.Compare (.BinOp (.Constant (.int 2) 0 p9) .Mult (.Call (.Name (Str.ofString "sum") p1) [.Subscript (.Name (Str.ofString "counts") p2) (.Slice none (some (.BinOp (.Name (Str.ofString "j") p3) .Add (.Constant (.int 1) 0 p4) p5)) none p6) p7] [] p8) p10) [op]
      [.Call (.Name (Str.ofString "sum") p12) [.Name (Str.ofString "counts") p13] [] p14] p15], 0⟩] scope pos) spos) e) Q E s := by
  have KC : ∀ C, EnvOk (compEnvC scope cl C e) := fun C => ⟨by rw [hscope]; rfl, K.globals, K.builtins⟩
  refine wpAny_Assign_ListComp_free (cl := cl) (fun v => match v with | .int j _ => f (2 * (zs.take (j.toNat + 1)).sum) zs.sum | _ => false) (fun v y => ∃ (j : Nat) (t : Tok), v = Value.int (j : Int) t ∧ y = Value.ref (R j)) (hsw _) hclos (by rw [hscope]; decide) (by rw [hscope]) (by rw [hscope]; decide) (by rw [hscope]; rfl) hy (by rw [K.kind]; rfl) ?_
  refine Call_ (name_builtin K hr G GG.range0 GG.range1 ?_)
  refine PyProof.Rows.callWith_type1 ?_
  refine args_cons (wpAny_Constant_int (args_nil ?_))
  refine call_range_1 ?_
  dsimp only
  generalize hH1 : s.heap.push { cls := .type "range", data := .fields #[.int 0 (s.toks + 1), .int 4 s.toks, .int 1 (s.toks + 1 + 1)] } = H1
  have k1 : Keep s.heap H1 := by rw [← hH1]; exact keep_push _ _
  refine wpAny_pyIter_range (a := 0) (b := 4) (c := 1) (by show IsRange H1 _ _ _ _ _ _ _; rw [← hH1]; exact IsRange.new s.heap 0 4 1 _ _ _) (by decide) ?_
  dsimp only
  generalize hH2 : H1.push { cls := .type "range_iterator", data := .fields #[rawInt 0, rawInt (Builtin.Range.rangeSize 0 4 1), rawInt 1] } = H2
  have k2 : Keep H1 H2 := by rw [← hH2]; exact keep_push _ _
  have k12 : Keep s.heap H2 := Keep.trans k1 k2
  refine ⟨H1.objs.size, [H1.objs.size], [H1.objs.size], 4, _, _, m, rfl, (Walks.range hh H1.objs.size 0 1 4).bound, by rw [sizeLine_eq]; decide, ?_, ?_, ?_, hn.keeps k12, ⟨?_, ?_⟩, ?_⟩
  · show IsRangeIter H2 _ _ _ _
    rw [← hH2]
    exact Heap.get?_push_size _ rfl
  · intro b hb
    rw [List.mem_singleton.mp hb]
    show H1.objs.size < H2.objs.size
    rw [← hH2, Heap.size_push]; exact Nat.lt_succ_self _
  · intro hb
    have := (hn.keeps k1).lt
    rw [List.mem_singleton.mp hb] at this
    exact Nat.lt_irrefl _ this
  · intro C i v s₃ m₃ E' hC hP hn3 hm3 hk htk
    obtain ⟨hi4, t, rfl⟩ := hP
    have e0 : (0 : Int) + (i : Int) * 1 = (i : Int) := by omega
    rw [e0] at hm3 ⊢
    have kk : Keep s.heap s₃.heap := fun b o e => hk b o (fun hb => by
      have h1 := Heap.lt_size (k1 b o e)
      rw [List.mem_singleton.mp hb] at h1
      exact Nat.lt_irrefl _ h1) (k12 b o e)
    refine wpAny_tests_one ?_
    refine test_at (hop := hop) hm0 (KC C) (hrel C).1 (hrel C).2.1 hclC (hrel C).2.2.2 hh GG (G.keeps kk) (isCell_keep hcell kk) (isList_keep hl kk) hz hsz hn3 hm3 fun h' tk k => ?_
    exact ⟨by simp, h', tk, rfl, k⟩
  · intro C i v s₃ m₃ E' hC hP hpv hn3 hm3 hk htk
    obtain ⟨hi4, t, rfl⟩ := hP
    have e0 : (0 : Int) + (i : Int) * 1 = (i : Int) := by omega
    rw [e0] at hm3 ⊢
    have kk : Keep s.heap s₃.heap := fun b o e => hk b o (fun hb => by
      have h1 := Heap.lt_size (k1 b o e)
      rw [List.mem_singleton.mp hb] at h1
      exact Nat.lt_irrefl _ h1) (k12 b o e)
    exact order_item (KC C) (hrel C).2.2.1 hclO (hrel C).2.2.2 (isCell_keep hcO kk) (W.keeps kk) hn3 hm3 hi4 fun tk => ⟨⟨i, t, rfl, rfl⟩, s₃.heap, tk, rfl, fun _ _ e => e⟩
  · intro D h' tk xs vs hD hl' _ hlen hP hF hn' hk
    refine h D h' tk xs ?_ hl' ?_ hn' ?_
    · cases q : s.heap.get? D with
      | none => rfl
      | some o =>
        have := k12 _ _ q
        change H2.get? D = none at hD
        rw [this] at hD; cases hD
    · have := paired_range (R := R) (q := fun j => f (2 * (zs.take (j + 1)).sum) zs.sum) (p := fun v => match v with | .int j _ => f (2 * (zs.take (j.toNat + 1)).sum) zs.sum | _ => false) (fun j t => by simp) vs xs.toList 0 4 hlen (fun j v hv => by
        obtain ⟨_, t, e⟩ := hP j v hv
        exact ⟨t, by rw [e]; congr 1; omega⟩) hF
      rw [this, List.range_eq_range']
    · intro b o hb e
      refine hk b o hb (fun hm => ?_) (k12 b o e)
      have h1 := Heap.lt_size (k1 b o e)
      rw [List.mem_singleton.mp hm] at h1
      exact Nat.lt_irrefl _ h1
end
end Mine
end
/- Due4 -/
section
open PySem PySem.W PySem.W.X PyProof.Rows PySem.Calls
namespace Mine
set_option maxRecDepth 100000
set_option maxHeartbeats 1000000
theorem kind_eq (n : Int) (k : Nat) : ((n.fmod 12).fdiv 4 == (k : Int)) = decide (kindOf n = k) := by
  have h1 := Int.fmod_nonneg_of_pos n (show (0 : Int) < 12 by decide)
  unfold kindOf
  rw [Int.fdiv_eq_ediv_of_nonneg _ (by decide)]
  generalize n.fmod 12 = x at *
  rw [Bool.eq_iff_iff]
  simp only [beq_iff_eq, decide_eq_true_eq]
  omega
theorem rel_eq (n : Int) {r : Nat} (hr : r < 4) : ((relStrs.getD (relOf n) Str.empty).cps.toList == (relStrs.getD r Str.empty).cps.toList) = decide (relOf n = r) := by
  have h := relOf_lt n
  generalize relOf n = q at *
  obtain rfl | rfl | rfl | rfl : r = 0 ∨ r = 1 ∨ r = 2 ∨ r = 3 := by omega
  all_goals obtain rfl | rfl | rfl | rfl : q = 0 ∨ q = 1 ∨ q = 2 ∨ q = 3 := by omega
  all_goals decide
theorem all2_of_get {α β : Type} {P : α → β → Prop} : ∀ {l : List α} {r : List β}, l.length = r.length → (∀ (j : Nat) a b, l[j]? = some a → r[j]? = some b → P a b) → All2 P l r
  | [], [], _, _ => .nil
  | [], _ :: _, h, _ => by simp at h
  | _ :: _, [], h, _ => by simp at h
  | a :: l, b :: r, h, hp => .cons (hp 0 a b rfl rfl) (all2_of_get (by simpa using h) fun j a b h1 h2 => hp (j + 1) a b (by simpa using h1) (by simpa using h2))
theorem paired_ints {q : Int → Bool} {p : Value → Bool} (hp : ∀ (n : Int) t, p (Value.int n t) = q n) : ∀ {vs : List Value} {ns : List Int} {ys : List Value}, All2 IntIs vs ns → Paired (fun v y => ∃ (n : Int) (t t' : Tok), v = Value.int n t ∧ y = Value.int (multOf n : Int) t') (vs.filter p) ys →
    All2 IntIs ys ((ns.filter q).map fun n => (multOf n : Int)) := by
  intro vs ns ys h
  induction h generalizing ys with
  | nil => intro hP; cases hP; exact .nil
  | cons hv _ ih =>
    rename_i v n l r _
    intro hP
    obtain ⟨t, rfl⟩ := hv
    rw [List.filter_cons, hp n t] at hP
    rw [List.filter_cons]
    cases hq : q n with
    | false => rw [hq] at hP; simpa using ih (by simpa using hP)
    | true =>
      rw [hq] at hP
      simp only [if_true] at hP ⊢
      cases hP with
      | cons h1 h2 =>
        obtain ⟨n', t1, t2, e1, e2⟩ := h1
        have e3 : n = n' := (Value.int.inj e1).1
        subst e3
        exact .cons ⟨t2, e2⟩ (ih h2)
section
variable {w : World} {A : Around} {E : Value → Shared → Prop} {s : Shared} {e : Env} {mg mb : Str → Option Value} {p1 p2 p3 p4 p5 p6 p7 p8 p9 p10 p11 p12 p13 p14 p15 p16 p17 p18 p19 : Pos}
/-- n // 12 % 3 + 1 -/
theorem elt_n {Q : Value → Shared → Prop} {m : Str → Option Value} {n : Int} {t : Tok} (K : EnvOk e) (hj : e.kindOf (Str.ofString "n") = some .local) (hn : s.heap.Ns e.locals m) (hm : m (Str.ofString "n") = some (.int n t))
    (h : ∀ tk t', Q (.int (multOf n : Int) t') { s with toks := tk }) :
    wpAny (model prog w) A (eval (.BinOp (.BinOp (.BinOp (.Name (Str.ofString "n") p1) .FloorDiv (.Constant (.int 12) 0 p2) p3) .Mod (.Constant (.int 3) 0 p4) p5) .Add (.Constant (.int 1) 0 p6) p7) e) Q E s := by
  refine wpAny_BinOp (wpAny_BinOp (wpAny_BinOp (name_local K hj hn hm (wpAny_Constant_int ?_))))
  refine PyProof.Rows.floordiv_int (by decide) ?_
  refine wpAny_Constant_int (PyProof.Rows.mod_int (by decide) ?_)
  refine wpAny_Constant_int (wpAny_add_int ?_)
  rw [(mult_is n).1]
  exact h _ _
/-- how _law_release is called -/
def RelCall (w : World) (A : Around) (h₁ : Heap) : Prop := ∀ (s : Shared) (n : Int) (t : Tok) (Q E : Value → Shared → Prop), Keep h₁ s.heap → (∀ h' tk' t', Keep s.heap h' → Q (.str (relStrs.getD (relOf n) Str.empty) t') { s with heap := h', toks := tk' }) → wpAny (model prog w) A (call (.ref 92) [.int n t]) Q E s
/-- n % 12 // 4 == k and _law_release(n) == text -/
theorem test_n {Q : Bool → Shared → Prop} {whole : Sem Value} {m : Str → Option Value} {n : Int} {t : Tok} {h₁ : Heap} {cK cT : Addr} {k r : Nat} {tk tt : Tok} (hr : r < 4) (K : EnvOk e) (hj : e.kindOf (Str.ofString "n") = some .local) (hk : e.kindOf (Str.ofString "k") = some .cell) (ht : e.kindOf (Str.ofString "text") = some .cell) (hrl : e.kindOf (Str.ofString "_law_release") = some .globalImplicit)
    (hkc : e.cells.lookup (Str.ofString "k") = some cK) (htc : e.cells.lookup (Str.ofString "text") = some cT)
    (GG : GNames mg mb) (G : GN mg mb s.heap) (RC : RelCall w A h₁) (h92 : ∃ o fd, s.heap.get? 92 = some o ∧ o.data = .func fd) (k1 : Keep h₁ s.heap) (hck : s.heap.IsCell cK (some (.int (k : Int) tk))) (hct : s.heap.IsCell cT (some (.str (relStrs.getD r Str.empty) tt)))
    (hn : s.heap.Ns e.locals m) (hm : m (Str.ofString "n") = some (.int n t))
    (h : ∀ h' tk', Keep s.heap h' → Q (decide (kindOf n = k) && decide (relOf n = r)) { s with heap := h', toks := tk' }) :
    wpAny (model prog w) A (isTrue (.BoolOp .And [.Compare (.BinOp (.BinOp (.Name (Str.ofString "n") p1) .Mod (.Constant (.int 12) 0 p2) p3) .FloorDiv (.Constant (.int 4) 0 p4) p5) [.Eq] [.Name (Str.ofString "k") p6] p7,
      .Compare (.Call (.Name (Str.ofString "_law_release") p8) [.Name (Str.ofString "n") p9] [] p10) [.Eq] [.Name (Str.ofString "text") p11] p12] p13) e whole) Q E s := by
  refine isTrue_and (wpAny_isTrue_Compare1 ?_)
  refine wpAny_BinOp (wpAny_BinOp (name_local K hj hn hm (wpAny_Constant_int ?_)))
  refine PyProof.Rows.mod_int (by decide) ?_
  refine wpAny_Constant_int (PyProof.Rows.floordiv_int (by decide) ?_)
  dsimp only
  refine name_cell (s := { s with toks := _ }) K hk hkc hck ?_
  refine wpAny_eq_int (wpAny_truthy_bool ?_)
  rw [kind_eq]
  cases hd : decide (kindOf n = k) with
  | false =>
    rw [hd] at h
    exact h _ _ (fun _ _ e => e)
  | true =>
    rw [hd] at h
    simp only [if_true, Bool.true_and] at h ⊢
    refine isTrue_and (wpAny_isTrue_Compare1 ?_)
    obtain ⟨o, fd, ho, hfd⟩ := h92
    refine Call_ (name_global (s := { s with toks := _ }) K hrl G GG.rel ?_)
    refine callWith_def (o := o) (fd := fd) hfd ?_
    refine args_cons (name_local (s := { s with toks := _ }) K hj hn hm (args_nil ⟨ho, ?_⟩))
    refine RC { s with toks := _ } n t _ _ k1 fun h' tk' t' k2 => ?_
    refine name_cell (s := { s with heap := h', toks := tk' }) K ht htc (isCell_keep hct k2) ?_
    refine P.eq_str (wpAny_truthy_bool ?_)
    rw [rel_eq n hr]
    cases hd2 : decide (relOf n = r) with
    | false =>
      rw [hd2] at h
      exact h _ _ k2
    | true =>
      rw [hd2] at h
      simp only [if_true]
      exact isTrue_and_nil (h _ _ k2)
end
end Mine
end
/- FlC0 -/
section
open PySem PySem.W PySem.W.X PyProof.Rows PySem.Calls
namespace Mine
set_option maxRecDepth 100000
set_option maxHeartbeats 4000000
section
variable {prog : Program} {w : World} {Γ : Ctx} {A₀ A : Around} {s : Shared} {base h₀ : Heap} {outer : List Env} {env : Env} {L : Addr} {m : Str → Option Value} {news : List (Addr × Obj)} {K : Frag} {p : Program} {loose : List Str} {mean : ExcName → Option Value} {mg mb : Str → Option Value}
    {Q : Flow → Shared → Prop} {name qual : Str} {params : Arguments} {body : List Stmt} {scope : Scope} {dV kV doc pm cdv ct oc : Value} {an od : Option Addr} {osl : Array (Option Value)} {f : Addr} {args : Args} {binds : List (Str × Value)}
theorem okC_def (hc : Γ.code = .call (.ref f) args) (hB : Γ.Below A) (B : Below A₀ base outer h₀) (F : Fr h₀ L s.heap m) (X₀ : K.In h₀) (N : News h₀ L s.heap news) (T : Top p loose mean mg mb h₀) (hA : A.frames = some (env :: outer)) (hf : env.frame = some L) (hke : env.scope.kind = .function)
    (ho : K.lookup f = some ⟨oc, od, .func (fnOf name qual params body scope dV kV doc pm an cdv ct), osl⟩) (hcd : codeIn K cdv qual = true) (hroom : A.depth < recursionLimit)
    (hbind : BindsTo s (fnOf name qual params body scope dV kV doc pm an cdv ct) args binds) (hloc : ∀ y ∈ binds, scope.names.lookup y.1 = some .local)
    (h : ∀ g L' h₁, Fr h₀ L g m → Fr g L' h₁ (fun y => binds.reverse.lookup y) → News g L' h₁ news → Below A base (env :: outer) g → K.In g → Top p loose mean mg mb g →
      (Γ.goto (.func body (envOf qual scope L' f cdv))).In (A.deeper (envOf qual scope L' f cdv)) →
      wpG (model prog w) (Γ.goto (.func body (envOf qual scope L' f cdv))) (execs body (envOf qual scope L' f cdv)) (fun fl s' => Q (.ret (match fl with | .ret v => v | _ => .none)) s') noE
        { s with heap := h₁, toks := s.toks + binds.length })
    (hco : scope.isCoroutine = false) (hgen : scope.isGenerator = false) (hk : scope.kind = .function)
    (hcell : ∀ x ∈ scope.names, x.2 ≠ .cell) : okC (model prog w) Γ Q s := by
  obtain ⟨FG, BG, st, _⟩ := groundX (R := fun _ _ => True) B F N hA hf hke
  refine okC_call_def (A := A) (fd := fnX name qual params body scope [] dV kV doc pm an cdv ct) (body := body) (binds := binds) hc hB hroom ((X₀.keeps F.keep) _ _ ho) rfl (T.nolimit.keeps F.keep) (codeRec_of (X₀.keeps F.keep) hcd) rfl hbind hcell hloc (fun h₁ hns hk₁ => ?_) hco hgen hk
  exact okC_func rfl (h _ s.heap.objs.size h₁ FG ⟨hns, fun b o e => hk₁ b o (of_hideAll _ e), Nat.le_of_eq (hideAll_size _ _)⟩
    (fun p hp => ⟨hk₁ _ _ (N p hp).1, Nat.ne_of_lt (Heap.lt_size (N p hp).1), hideAll_none _ (List.mem_map_of_mem hp)⟩) BG (X₀.keeps st) (T.keeps st) (hB.goto (.func body (envOf qual scope s.heap.objs.size f cdv))).in)
end
section
variable {prog : Program} {w : World} {Γ : Ctx} {A₀ A : Around} {s : Shared} {base h₀ : Heap} {outer : List Env} {env : Env} {L : Addr} {m : Str → Option Value} {news : List (Addr × Obj)} {K : Frag} {p : Program} {loose : List Str} {mean : ExcName → Option Value} {mg mb : Str → Option Value}
    {Q : Flow → Shared → Prop} {name qual : Str} {params : Arguments} {body : List Stmt} {scope : Scope} {dV kV doc pm cdv ct oc : Value} {an od : Option Addr} {osl : Array (Option Value)} {f : Addr} {args : Args} {binds : List (Str × Value)}
theorem okC_defC (hc : Γ.code = .call (.ref f) args) (hB : Γ.Below A) (B : Below A₀ base outer h₀) (F : Fr h₀ L s.heap m) (X₀ : K.In h₀) (N : News h₀ L s.heap news) (T : Top p loose mean mg mb h₀) (hA : A.frames = some (env :: outer)) (hf : env.frame = some L) (hke : env.scope.kind = .function)
    (ho : K.lookup f = some ⟨oc, od, .func (fnOf name qual params body scope dV kV doc pm an cdv ct), osl⟩) (hcd : codeIn K cdv qual = true) (hroom : A.depth < recursionLimit)
    (hbind : BindsTo s (fnOf name qual params body scope dV kV doc pm an cdv ct) args binds)
    (hkind : ∀ n, ∀ x ∈ binds, scope.names.lookup x.1 = some .local ∨ (scope.names.lookup x.1 = some .cell ∧ ((cellsFrom n scope.names []).lookup x.1).isSome = true))
    (hnd : ((cellsFrom 0 scope.names []).map (·.1)).Nodup)
    (h : ∀ g L' h₁ tk cells, Fr h₀ L g m → Fr g L' h₁ (bindL (envOfC qual scope L' f cdv).kindOf binds fun _ => none) → News g L' h₁ (cells ++ news) →
      CellsAre (bindC (envOfC qual scope L' f cdv).kindOf binds fun _ => none) (cellsFrom (L' + 1) scope.names []) cells → Below A base (env :: outer) g → K.In g → Top p loose mean mg mb g → (∀ p ∈ news, p.1 < L') → GSub s.heap g (news.map (·.1)) →
      (Γ.goto (.func body (envOfC qual scope L' f cdv))).In (A.deeper (envOfC qual scope L' f cdv)) →
      wpG (model prog w) (Γ.goto (.func body (envOfC qual scope L' f cdv))) (execs body (envOfC qual scope L' f cdv)) (fun fl s' => Q (.ret (match fl with | .ret v => v | _ => .none)) s') noE
        { s with heap := h₁, toks := tk })
    (hco : scope.isCoroutine = false) (hgen : scope.isGenerator = false) (hk : scope.kind = .function) : okC (model prog w) Γ Q s := by
  obtain ⟨FG, BG, st, _⟩ := groundX (R := fun _ _ => True) B F N hA hf hke
  have hI : Γ.In A.in1 := by have := hB.in; rw [hc] at this; exact this
  refine okC_tree ?_
  rw [hc]
  show wpG _ _ (callAny (.ref f) args) _ _ s
  simp only [callAny]
  refine wpG_bind (wpG_any hI (wpAny_load ((X₀.keeps F.keep) _ _ ho) ?_))
  obtain ⟨c, ocd, vs, tq, hc', hoc, hdc, hq⟩ := codeRec_of (X₀.keeps F.keep) hcd
  simp only [callFunction, hco, hgen, hc']
  refine wpG_bind (m := field (.ref c) 1) (wpG_any hI (wpAny_field hoc hdc hq ?_))
  refine wpG_bind (wpG_pure ?_)
  rw [← hc']
  refine wpG_bind (wpG_any hI (hbind _ _ _ _ ?_))
  refine wpG_bind (wpG_any hI (wpAny_newFunctionEnv_cells hk (hkind _) fun env' he s' x => ?_))
  subst he
  refine wpG_bind (wpG_any hI (wpAny_enterFrame ((T.nolimit.keeps F.keep).keeps x.toInCall.keep) hroom ?_))
  refine wpG_pure ⟨rfl, okC_func rfl ?_⟩
  obtain ⟨h₁, tk, rfl, _⟩ := x.done
  have hk₁ := x.toInCall.keep
  obtain ⟨cells, NC, Y⟩ := Cl.news (h₀ := s.heap) (Nat.le_refl _) fun n c hm => ⟨x.cell n c (lookup_of_mem_nodup (cellsFrom_names scope.names 0 (s.heap.objs.size + 1) [] [] rfl ▸ hnd) hm), x.above n c hm⟩
  refine h _ s.heap.objs.size h₁ tk cells FG ⟨x.toInCall.ns, fun b o e => hk₁ b o (of_hideAll _ e), Nat.le_of_eq (hideAll_size _ _)⟩ (fun p hp => ?_) Y BG (X₀.keeps st) (T.keeps st) (fun p hp => Heap.lt_size (N p hp).1) (fun b o e n => hideAll_get _ e n) (hB.goto (.func body (envOfC qual scope s.heap.objs.size f cdv))).in
  rcases List.mem_append.mp hp with hp | hp
  · refine ⟨(NC p hp).1, (NC p hp).2.1, ?_⟩
    cases q : (hideAll s.heap (news.map (·.1))).get? p.1 with
    | none => rfl
    | some o => have := of_hideAll _ q; rw [(NC p hp).2.2] at this; cases this
  · exact ⟨hk₁ _ _ (N p hp).1, Nat.ne_of_lt (Heap.lt_size (N p hp).1), hideAll_none _ (List.mem_map_of_mem hp)⟩
end
theorem okC_asW {M : Model} {Q : Flow → Shared → Prop} {s : Shared} {Γ : Ctx} {own past : Option Value} {c0 : Code} {p p₂ p3 : Pos} {bF bL : List Stmt} {eF eL : Env} {A : Around} {tgt : PySem.Expr} {it : Value} {bd oe : List Stmt} {env : Env} (hΓ : Γ.In A)
    (e : Γ = ((⟨.func bL eL, none, own, [(.builtin "claim.caller" {}, p3)], past⟩ : Ctx).enter c0 none p).goto (.func bF eF))
    (h : ∀ W : Where, W.ctx.code = .forLoop tgt it bd oe env → W.ctx.In A → W.ctx.Below A → okC M W.ctx Q s) : okC M (Γ.enter (.forLoop tgt it bd oe env) none p₂) Q s := by
  have h1 : (Γ.enter (.forLoop tgt it bd oe env) none p₂).In A := enter_for hΓ
  have h2 : (Γ.enter (.forLoop tgt it bd oe env) none p₂).Below A := hΓ.enter (.forLoop tgt it bd oe env) none p₂ (by simp)
  subst e
  exact h ⟨tgt, it, bd, oe, env, bF, eF, bL, eL, p₂, p, p3, _, _⟩ rfl h1 h2
/-- a list of whole numbers -/
structure IntList (o : Obj) (ns : List Int) : Prop where
  cls : o.cls = .type "list"
  data : ∃ items n, o.data = .seq items n ∧ items.size = ns.length ∧ ∀ i, (h : i < ns.length) → ∃ t, items[i]? = some (.int ns[i] t)
end Mine
end
/- Due5 -/
section
open PySem PySem.W PySem.W.X PyProof.Rows PySem.Calls
namespace Mine
set_option maxRecDepth 100000
set_option maxHeartbeats 1000000
theorem IntList.items {o : Obj} {ns : List Int} (x : IntList o ns) : ∃ items n, o.data = .seq items n ∧ All2 IntIs items.toList ns := by
  obtain ⟨items, n, h1, h2, h3⟩ := x.data
  refine ⟨items, n, h1, all2_of_get (by simpa using h2) fun j a b ha hb => ?_⟩
  have hj : j < ns.length := by
    cases hlt : ns[j]? with
    | none => rw [hlt] at hb; cases hb
    | some _ => exact (List.getElem?_eq_some_iff.mp hlt).1
  obtain ⟨t, ht⟩ := h3 j hj
  rw [Array.getElem?_toList, ht] at ha
  rw [List.getElem?_eq_getElem hj] at hb
  cases ha; cases hb
  exact ⟨t, rfl⟩
section
variable {w : World} {A : Around} {E : Value → Shared → Prop} {s : Shared} {e : Env} {mg mb : Str → Option Value} {p1 p2 p3 p4 p5 p6 p7 p8 p9 p10 p11 p12 p13 q1 q2 q3 q4 q5 q6 q7 : Pos}
/-- [n // 12 % 3 + 1 for n in fleet if ..] -/
theorem comp_n {Q : Value → Shared → Prop} {px pf pos : Pos} {scope : Scope} {cl : List (Str × Addr)} {h₁ : Heap} {cK cT cF dr : Addr} {items : Array Value} {ns : List Int} {k r : Nat} {tk tt : Tok} (hr : r < 4)
    (hscope : scope = { kind := .function, names := [(Str.ofString ".0", .local), (Str.ofString "n", .local), (Str.ofString "_law_release", .globalImplicit), (Str.ofString "k", .free), (Str.ofString "text", .free)], isGenerator := false, isCoroutine := false, more := [] })
    (K : EnvOk e) (hclos : closureFor scope e = pure cl) (hclK : cl.lookup (Str.ofString "k") = some cK) (hclT : cl.lookup (Str.ofString "text") = some cT)
    (hf : e.kindOf (Str.ofString "fleet") = some .cell) (hfc : e.cells.lookup (Str.ofString "fleet") = some cF)
    (hrel : ∀ C, (compEnvC scope cl C e).kindOf (Str.ofString "n") = some .local ∧ (compEnvC scope cl C e).kindOf (Str.ofString "k") = some .cell ∧ (compEnvC scope cl C e).kindOf (Str.ofString "text") = some .cell ∧ (compEnvC scope cl C e).kindOf (Str.ofString "_law_release") = some .globalImplicit)
    (hh : A.handled = none) (GG : GNames mg mb) (G : GN mg mb s.heap) (RC : RelCall w A h₁) (h92 : ∃ o fd, s.heap.get? 92 = some o ∧ o.data = .func fd) (k1 : Keep h₁ s.heap) (hck : s.heap.IsCell cK (some (.int (k : Int) tk))) (hct : s.heap.IsCell cT (some (.str (relStrs.getD r Str.empty) tt)))
    (hcf : s.heap.IsCell cF (some (.ref dr))) (hl : s.heap.IsList dr items) (hns : All2 IntIs items.toList ns) (hsz : items.size ≤ 1000)
    (h : ∀ D h' tk ys, h'.IsList D ys → All2 IntIs ys.toList ((ns.filter fun n => decide (kindOf n = k) && decide (relOf n = r)).map fun n => (multOf n : Int)) → Keep s.heap h' → Q (.ref D) { s with heap := h', toks := tk }) :
    wpAny (model prog w) A (eval (.ListComp (.BinOp (.BinOp (.BinOp (.Name (Str.ofString "n") q1) .FloorDiv (.Constant (.int 12) 0 q2) q3) .Mod (.Constant (.int 3) 0 q4) q5) .Add (.Constant (.int 1) 0 q6) q7)
      [⟨.Name (Str.ofString "n") px, .Name (Str.ofString "fleet") pf, [.BoolOp .And [.Compare (.BinOp (.BinOp (.Name (Str.ofString "n") p1) .Mod (.Constant (.int 12) 0 p2) p3) .FloorDiv (.Constant (.int 4) 0 p4) p5) [.Eq] [.Name (Str.ofString "k") p6] p7,
      .Compare (.Call (.Name (Str.ofString "_law_release") p8) [.Name (Str.ofString "n") p9] [] p10) [.Eq] [.Name (Str.ofString "text") p11] p12] p13], 0⟩] scope pos) e) Q E s := by
  have KC : ∀ C, EnvOk (compEnvC scope cl C e) := fun C => ⟨by rw [hscope]; rfl, K.globals, K.builtins⟩
  refine wpAny_ListComp_free (cl := cl) (fun v => match v with | .int n _ => decide (kindOf n = k) && decide (relOf n = r) | _ => false) (fun v y => ∃ (n : Int) (t t' : Tok), v = Value.int n t ∧ y = Value.int (multOf n : Int) t') hclos (by rw [hscope]; decide) (by rw [hscope]) (by rw [hscope]; decide) (by rw [hscope]; rfl) ?_
  refine name_cell K hf hfc hcf ?_
  refine wpAny_pyIter_list hl ?_
  dsimp only
  have hlt : dr < s.heap.objs.size := by obtain ⟨o, ho, _⟩ := hl; exact Heap.lt_size ho
  generalize hH2 : s.heap.push { cls := .type "list_iterator", data := .fields #[.ref dr, .int 0 0] } = H2
  have k2 : Keep s.heap H2 := by rw [← hH2]; exact keep_push _ _
  have get : ∀ (i : Nat) v, items[i]? = some v → ∃ n t, v = Value.int n t := fun i v hv => by
    have hm : v ∈ items.toList := by
      have : items.toList[i]? = some v := by simpa using hv
      exact List.mem_of_getElem? this
    obtain ⟨n, _, t, e⟩ := hns.memR v hm
    exact ⟨n, t, e⟩
  refine ⟨s.heap.objs.size, [s.heap.objs.size, dr], [s.heap.objs.size], items.size, _, _, rfl, Walks.list hh s.heap.objs.size dr (Nat.ne_of_lt hlt) items, by rw [sizeLine_eq]; omega, ⟨⟨({ cls := .type "list_iterator", data := .fields #[.ref dr, .int 0 0] } : Obj), ?_, rfl, rfl⟩, isList_keep hl k2⟩, ?_, ⟨?_, ?_⟩, ?_⟩
  · show H2.get? _ = _
    rw [← hH2]
    exact Heap.get?_push_size _ rfl
  · intro b hb
    show b < H2.objs.size
    rw [← hH2, Heap.size_push]
    rcases List.mem_cons.mp hb with rfl | hb
    · exact Nat.lt_succ_self _
    · rw [List.mem_singleton.mp hb]; exact Nat.lt_succ_of_lt hlt
  · intro C i v s₃ m₃ E' hC hP hn3 hm3 hk htk
    obtain ⟨n, t, rfl⟩ := get i v hP
    have kk : Keep s.heap s₃.heap := fun b o e => hk b o (fun hb => by
      have h1 := Heap.lt_size e
      rw [List.mem_singleton.mp hb] at h1
      exact Nat.lt_irrefl _ h1) (k2 b o e)
    refine wpAny_tests_one ?_
    refine test_n hr (KC C) (hrel C).1 (hrel C).2.1 (hrel C).2.2.1 (hrel C).2.2.2 hclK hclT GG (G.keeps kk) RC ?_ (k1.trans kk) (isCell_keep hck kk) (isCell_keep hct kk) hn3 hm3 fun h' tk k => ⟨rfl, h', tk, rfl, k⟩
    obtain ⟨o, fd, ho, hfd⟩ := h92
    exact ⟨o, fd, kk _ _ ho, hfd⟩
  · intro C i v s₃ m₃ E' hC hP hpv hn3 hm3 hk htk
    obtain ⟨n, t, rfl⟩ := get i v hP
    exact elt_n (KC C) (hrel C).1 hn3 hm3 fun tk t' => ⟨⟨n, t, t', rfl, rfl⟩, s₃.heap, tk, rfl, fun _ _ e => e⟩
  · intro D h' tk ys vs hD hl' _ hlen hP hF hk
    refine h D h' tk ys hl' ?_ ?_
    · have ev : vs = items.toList := by
        apply List.ext_getElem?
        intro j
        by_cases hj : j < vs.length
        · have h1 : vs[j]? = some vs[j] := List.getElem?_eq_getElem hj
          rw [h1]
          have := hP j _ h1
          simpa using this.symm
        · have h1 : vs[j]? = none := List.getElem?_eq_none (by omega)
          have h2 : items.toList[j]? = none := List.getElem?_eq_none (by simp; omega)
          rw [h1, h2]
      rw [ev] at hF
      exact paired_ints (q := fun n => decide (kindOf n = k) && decide (relOf n = r)) (fun _ _ => rfl) hns hF
    · intro b o e
      refine hk b o (fun hm => ?_) (k2 b o e)
      have h1 := Heap.lt_size e
      rw [List.mem_singleton.mp hm] at h1
      exact Nat.lt_irrefl _ h1
end
end Mine
end
/- Due6 -/
section
open PySem PySem.W PySem.W.X PyProof.Rows PySem.Calls
namespace Mine
set_option maxRecDepth 100000
set_option maxHeartbeats 1000000
/-- how many machines of kind k have each release, in the order of _law_due -/
def zsOf (k : Nat) (ns : List Int) : List Int := [(cnt k (ordRel 0) ns : Int), (cnt k (ordRel 1) ns : Int), (cnt k (ordRel 2) ns : Int), (cnt k (ordRel 3) ns : Int)]
theorem ordRel_lt (j : Nat) : ordRel j < 4 := by unfold ordRel; split <;> decide
section
variable {w : World} {A : Around} {E : Value → Shared → Prop} {s : Shared} {e : Env} {mg mb : Str → Option Value} {p1 p2 p3 p4 p5 p6 p7 p8 p9 p10 p11 p12 p13 q1 q2 q3 q4 q5 q6 q7 : Pos}
theorem counts_at {Q : Flow → Shared → Prop} {py spos pt1 pt2 pt3 po ps pi pc px pf pos : Pos} {scope iscope : Scope} {cl : List (Str × Addr)} {cK cF cO cC dr O : Addr} {T R : Nat → Addr} {u : Nat → Tok} {items : Array Value} {ns : List Int} {k : Nat} {tk : Tok} {vC : Option Value}
    (hiscope : iscope = { kind := .function, names := [(Str.ofString ".0", .local), (Str.ofString "n", .local), (Str.ofString "_law_release", .globalImplicit), (Str.ofString "k", .free), (Str.ofString "text", .free)], isGenerator := false, isCoroutine := false, more := [] })
    (hscope : scope = { kind := .function, names := [(Str.ofString ".0", .local), (Str.ofString "text", .cell), (Str.ofString "ranks", .local), (Str.ofString "sum", .globalImplicit), (Str.ofString "fleet", .free), (Str.ofString "k", .free)], isGenerator := false, isCoroutine := false, more := [] })
    (K : EnvOk e) (hclos : closureFor scope e = pure cl) (hclK : cl.lookup (Str.ofString "k") = some cK) (hclF : cl.lookup (Str.ofString "fleet") = some cF)
    (ho : e.kindOf (Str.ofString "order") = some .cell) (hoc : e.cells.lookup (Str.ofString "order") = some cO) (hc : e.kindOf (Str.ofString "counts") = some .cell) (hcc : e.cells.lookup (Str.ofString "counts") = some cC)
    (hcf : ∀ n, cellsFrom n scope.names cl = (Str.ofString "text", n) :: cl) (hpc : ∀ h, pushCells h scope.names = h.push { cls := .type "cell", data := .cell none })
    (hiclos : ∀ CT C, ∃ cl2, closureFor iscope (compEnvC scope ((Str.ofString "text", CT) :: cl) C e) = pure cl2 ∧ cl2.lookup (Str.ofString "k") = some cK ∧ cl2.lookup (Str.ofString "text") = some CT ∧
      ∀ C2, (compEnvC iscope cl2 C2 (compEnvC scope ((Str.ofString "text", CT) :: cl) C e)).kindOf (Str.ofString "n") = some .local ∧ (compEnvC iscope cl2 C2 (compEnvC scope ((Str.ofString "text", CT) :: cl) C e)).kindOf (Str.ofString "k") = some .cell ∧ (compEnvC iscope cl2 C2 (compEnvC scope ((Str.ofString "text", CT) :: cl) C e)).kindOf (Str.ofString "text") = some .cell ∧ (compEnvC iscope cl2 C2 (compEnvC scope ((Str.ofString "text", CT) :: cl) C e)).kindOf (Str.ofString "_law_release") = some .globalImplicit)
    (hrel : ∀ CT C, (compEnvC scope ((Str.ofString "text", CT) :: cl) C e).kindOf (Str.ofString "text") = some .cell ∧ (compEnvC scope ((Str.ofString "text", CT) :: cl) C e).kindOf (Str.ofString "ranks") = some .local ∧ (compEnvC scope ((Str.ofString "text", CT) :: cl) C e).kindOf (Str.ofString "sum") = some .globalImplicit ∧ (compEnvC scope ((Str.ofString "text", CT) :: cl) C e).kindOf (Str.ofString "fleet") = some .cell)
    (hsw : ∀ v, swapsWith (.ListComp v [⟨.Tuple [.Name (Str.ofString "text") pt1, .Name (Str.ofString "ranks") pt2] 0 pt3, .Name (Str.ofString "order") po, [], 0⟩] scope pos) (some (.Name (Str.ofString "counts") py)) spos.line e = pure false)
    (hh : A.handled = none) (GG : GNames mg mb) (G : GN mg mb s.heap) (RC : RelCall w A s.heap) (h92 : ∃ o fd, s.heap.get? 92 = some o ∧ o.data = .func fd) (hck : s.heap.IsCell cK (some (.int (k : Int) tk)))
    (hcF : s.heap.IsCell cF (some (.ref dr))) (hl : s.heap.IsList dr items) (hns : All2 IntIs items.toList ns) (hsz : items.size ≤ 1000)
    (hcO : s.heap.IsCell cO (some (.ref O))) (W : OrderIn s.heap O T R u) (hT : ∀ i j, i < 4 → j < 4 → T i = T j → i = j) (hcC : s.heap.IsCell cC vC)
    (h : ∀ D h' tk ys, s.heap.get? D = none → h'.IsList D ys → All2 IntIs ys.toList (zsOf k ns) → h'.IsCell cC (some (.ref D)) → (∀ b o, b ≠ cC → s.heap.get? b = some o → h'.get? b = some o) → Q .next { s with heap := h', toks := tk }) :
    wpAny (model prog w) A (exec (.Assign [.Name (Str.ofString "counts") py] (.ListComp (.Call (.Name (Str.ofString "sum") ps) [.ListComp (.BinOp (.BinOp (.BinOp (.Name (Str.ofString "n") q1) .FloorDiv (.Constant (.int 12) 0 q2) q3) .Mod (.Constant (.int 3) 0 q4) q5) .Add (.Constant (.int 1) 0 q6) q7)
      [⟨.Name (Str.ofString "n") px, .Name (Str.ofString "fleet") pf, [.BoolOp .And [.Compare (.BinOp (.BinOp (.Name (Str.ofString "n") p1) .Mod (.Constant (.int 12) 0 p2) p3) .FloorDiv (.Constant (.int 4) 0 p4) p5) [.Eq] [.Name (Str.ofString "k") p6] p7,
      .Compare (.Call (.Name (Str.ofString "_law_release") p8) [.Name (Str.ofString "n") p9] [] p10) [.Eq] [.Name (Str.ofString "text") p11] p12] p13], 0⟩] iscope pi] [] pc) [⟨.Tuple [.Name (Str.ofString "text") pt1, .Name (Str.ofString "ranks") pt2] 0 pt3, .Name (Str.ofString "order") po, [], 0⟩] scope pos) spos) e) Q E s := by
  have KC : ∀ CT C, EnvOk (compEnvC scope ((Str.ofString "text", CT) :: cl) C e) := fun CT C => ⟨by rw [hscope]; rfl, K.globals, K.builtins⟩
  refine wpAny_Assign_Name ?_ (hsw _)
  refine ListComp_T (cl := cl) (tx := Str.ofString "text") (fun _ _ v y => ∃ j, j < 4 ∧ v = Value.ref (T j) ∧ ∃ t, y = Value.int (cnt k (ordRel j) ns : Int) t) (fun _ CT h v => ∃ j, j < 4 ∧ v = Value.ref (T j) ∧ h.IsCell CT (some (.str (relStrs.getD (ordRel j) Str.empty) (u j)))) (fun _ _ _ _ _ _ x => x) hclos hcf hpc (by rw [hscope]) (by rw [hscope]; decide) hh ?_ ?_
  · rintro I ax v s₂ E' Q' i ⟨a, rfl⟩ hit hq
    exact wpAny_letOwnedTupleGo_listiter hit hq
  refine name_cell K ho hoc hcO ?_
  have nexF : ∀ {CT C D I : Addr}, Fresh4 s.heap CT C D I → ∀ b o, s.heap.get? b = some o → b ∉ [CT, C, D, I] := fun {CT C D I} fr b o e hb => by
    simp only [List.mem_cons, List.not_mem_nil, or_false] at hb
    rcases hb with rfl | rfl | rfl | rfl
    · have := fr.ct; rw [e] at this; cases this
    · have := fr.c; rw [e] at this; cases this
    · have := fr.d; rw [e] at this; cases this
    · have := fr.i; rw [e] at this; cases this
  refine ⟨O, _, rfl, W.lst, by simp, ?_, fun CT C D I fr => ?_⟩
  · intro v hv
    simp only [Array.mem_def, List.mem_cons, List.not_mem_nil, or_false] at hv
    rcases hv with rfl | rfl | rfl | rfl <;> exact ⟨_, rfl⟩
  have nex := nexF fr
  have ord := fr.ord
  refine ⟨?_, ?_, ?_⟩
  · intro v s₂ E' hv own kb g1 g2 g3
    have kk : Keep s.heap s₂.heap := fun b o e => kb b o (nex b o e) e
    obtain ⟨j, hj, rfl⟩ : ∃ j, j < 4 ∧ v = Value.ref (T j) := by
      simp only [Array.mem_def, List.mem_cons, List.not_mem_nil, or_false] at hv
      rcases hv with rfl | rfl | rfl | rfl
      · exact ⟨0, by decide, rfl⟩
      · exact ⟨1, by decide, rfl⟩
      · exact ⟨2, by decide, rfl⟩
      · exact ⟨3, by decide, rfl⟩
    refine assign_Tuple_tuple hh (isTup_keep (W.tup j hj) kk) rfl rfl fun h3 ext => ?_
    obtain ⟨⟨m, hns3⟩, vt, hct⟩ := own
    have hlt : ∀ b o, s₂.heap.get? b = some o → b ≠ s₂.heap.objs.size := fun b o e => Nat.ne_of_lt (Heap.lt_size e)
    have k3 : Keep s₂.heap h3 := fun b o e => ext b o (hlt b o e) e
    have nCT : C ≠ CT := Nat.ne_of_lt ord.2.2.1
    refine PyProof.Rows.assignInOrder_cons (wpAny_assign_Name (wpAny_storeName_cell (KC CT C).kind (hrel CT C).1 (by rfl) (isCell_keep hct k3) fun h4 hc4 s4 => ?_))
    refine PyProof.Rows.assignInOrder_cons (wpAny_assign_Name (wpAny_storeName_local (hrel CT C).2.1 ((hns3.keeps k3).sameBut s4 nCT) (fun h5 hn5 s5 => ?_) (by rw [(KC CT C).kind]; rfl)))
    refine PyProof.Rows.assignInOrder_nil ?_
    have s5' : ∀ b o, b ≠ C → h4.get? b = some o → h5.get? b = some o := fun b o n e => (s5.2 b n).trans e
    have s4' : ∀ b o, b ≠ CT → h3.get? b = some o → h4.get? b = some o := fun b o n e => (s4.2 b n).trans e
    have hc5 : h5.IsCell CT (some (.str (relStrs.getD (ordRel j) Str.empty) (u j))) := by
      obtain ⟨o, ho, r⟩ := hc4
      exact ⟨o, s5' _ _ (Ne.symm nCT) ho, r⟩
    refine ⟨h5, _, rfl, ⟨⟨_, hn5⟩, _, hc5⟩, ⟨j, hj, rfl, hc5⟩, fun b o n e => ?_, fun o e => ?_, fun o e => ?_⟩
    · simp only [List.mem_cons, List.not_mem_nil, or_false, not_or] at n
      exact s5' b o n.2.1 (s4' b o n.1 (k3 b o e))
    · exact s5' _ o (Nat.ne_of_lt ord.2.1) (s4' _ o (Nat.ne_of_lt (Nat.lt_trans ord.2.1 ord.2.2.1)) (k3 _ o e))
    · exact s5' _ o (Nat.ne_of_lt (Nat.lt_trans ord.1 ord.2.1)) (s4' _ o (Nat.ne_of_lt (Nat.lt_trans (Nat.lt_trans ord.1 ord.2.1) ord.2.2.1)) (k3 _ o e))
  · rintro v s₂ E' hv own ⟨j, hj, rfl, hct⟩ kb g1 g2 g3
    have kk : Keep s.heap s₂.heap := fun b o e => kb b o (nex b o e) e
    obtain ⟨cl2, hcl2, hk2, ht2, hrel2⟩ := hiclos CT C
    refine Call_ (name_builtin (KC CT C) (hrel CT C).2.2.1 (G.keeps kk) GG.sum0 GG.sum1 ?_)
    refine PyProof.Rows.callWith_builtin1 ?_
    refine args_cons ?_
    refine comp_n (h₁ := s.heap) (ordRel_lt j) hiscope (KC CT C) hcl2 hk2 ht2 (hrel CT C).2.2.2 (cF := cF) ?_ hrel2 hh GG (G.keeps kk) RC ?_ kk (isCell_keep hck kk) hct (isCell_keep hcF kk) (isList_keep hl kk) hns hsz fun D2 h3 tk3 ys3 hl3 hz3 k3 => ?_
    · show List.lookup (Str.ofString "fleet") ((Str.ofString "text", CT) :: cl) = some cF
      rw [List.lookup_cons, show (Str.ofString "fleet" == Str.ofString "text") = false from by decide]
      exact hclF
    · obtain ⟨o, fd, ho, hfd⟩ := h92
      exact ⟨o, fd, kk _ _ ho, hfd⟩
    refine args_nil ?_
    refine sum_ints hh hl3 hz3 fun h4 tk4 t4 k4 => ?_
    rw [cnt_sum]
    exact ⟨h4, tk4, rfl, ⟨j, hj, rfl, t4, rfl⟩, Keep.trans k3 k4⟩
  · intro h2 tk2 ys hd hal kb
    have kk : Keep s.heap h2 := fun b o e => kb b o (nex b o e) e
    have hz : All2 IntIs ys.toList (zsOf k ns) := by
      have one : ∀ (i : Nat) (y : Value), i < 4 → (∃ j, j < 4 ∧ Value.ref (T i) = Value.ref (T j) ∧ ∃ t, y = Value.int (cnt k (ordRel j) ns : Int) t) → IntIs y (cnt k (ordRel i) ns : Int) := fun i y hi x => by
        obtain ⟨j, hj, e1, t, e2⟩ := x
        have := hT i j hi hj (Value.ref.inj e1)
        subst this
        exact ⟨t, e2⟩
      have hal' : All2 (fun v y => ∃ j, j < 4 ∧ v = Value.ref (T j) ∧ ∃ t, y = Value.int (cnt k (ordRel j) ns : Int) t) [Value.ref (T 0), Value.ref (T 1), Value.ref (T 2), Value.ref (T 3)] ys.toList := hal
      generalize ys.toList = yl at hal' ⊢
      cases hal' with
      | cons a0 r => cases r with
        | cons a1 r => cases r with
          | cons a2 r => cases r with
            | cons a3 r =>
              cases r
              exact .cons (one 0 _ (by decide) a0) (.cons (one 1 _ (by decide) a1) (.cons (one 2 _ (by decide) a2) (.cons (one 3 _ (by decide) a3) .nil)))
    obtain ⟨oc, hoc', hdc⟩ := hcC
    have hcne : cC ≠ D := fun z => by have := fr.d; rw [← z, hoc'] at this; cases this
    refine wpAny_storeName_cell K.kind hc hcc ⟨oc, kk _ _ hoc', hdc⟩ fun h3 hc3 s3 => ?_
    refine h D h3 tk2 ys fr.d ?_ hz hc3 fun b o n e => (s3.2 b n).trans (kk b o e)
    obtain ⟨o, ho, r⟩ := hd
    exact ⟨o, (s3.2 D (Ne.symm hcne)).trans ho, r⟩
end
end Mine
end
/- Due7 -/
section
open PySem PySem.W PySem.W.X PyProof.Rows PySem.Calls
namespace Mine
set_option maxRecDepth 100000
set_option maxHeartbeats 1000000
section
variable {w : World} {A : Around} {E : Value → Shared → Prop} {s : Shared} {e : Env} {mg mb : Str → Option Value} {p1 p2 p3 p4 p5 p6 p7 p8 p9 p10 p11 p12 p13 p14 p15 p16 p17 p18 p19 p20 p21 p22 : Pos}
/-- x[0] -/
theorem first_item {Q : Value → Shared → Prop} {x : Str} {l : Addr} {xs : Array Value} {v : Value} {m : Str → Option Value} (K : EnvOk e) (hx : e.kindOf x = some .local) (hd : (x == ("__debug__" : Str)) = false) (hn : s.heap.Ns e.locals m) (hm : m x = some (.ref l)) (hl : s.heap.IsList l xs) (h0 : xs[0]? = some v) (h : ∀ tk, Q v { s with toks := tk }) :
    wpAny (model prog w) A (eval (.Subscript (.Name x p1) (.Constant (.int 0) 0 p2) p3) e) Q E s := by
  refine Subscript_ (name_local K hx hn hm (wpAny_Constant_int ?_) hd)
  refine subscriptTail_builtin (T := "list") hl.typeIs slot_list_getitem.lookup ?_
  exact wpAny_getItem_list (s := { s with toks := s.toks + 1 }) hl (by decide) (by decide) h0 (h _)
theorem names_k {k : Nat} (hk : k < 3) (t0 t1 t2 : Tok) : ∃ t, (#[.str (Str.ofString "Linux") t0, .str (Str.ofString "Mac_OS") t1, .str (Str.ofString "A-B") t2] : Array Value)[(k : Int).toNat]? = some (.str (nameOf k) t) := by
  obtain rfl | rfl | rfl : k = 0 ∨ k = 1 ∨ k = 2 := by omega
  · exact ⟨t0, rfl⟩
  · exact ⟨t1, rfl⟩
  · exact ⟨t2, rfl⟩
/-- if sum(counts) > 0: due.append((name, lows[0], highs[0])) -/
theorem if_due {Q : Flow → Shared → Prop} {cC CL cK Du LO HI : Addr} {ys xl xh dus : Array Value} {zs : List Int} {m : Str → Option Value} {k : Nat} {tk : Tok} {vlo vhi : Value} (K : EnvOk e) (hs : e.kindOf (Str.ofString "sum") = some .globalImplicit) (hc : e.kindOf (Str.ofString "counts") = some .cell) (hcl : e.cells.lookup (Str.ofString "counts") = some cC) (hkk : e.kindOf (Str.ofString "k") = some .cell) (hkc : e.cells.lookup (Str.ofString "k") = some cK)
    (hdu : e.kindOf (Str.ofString "due") = some .local) (hlo : e.kindOf (Str.ofString "lows") = some .local) (hhi : e.kindOf (Str.ofString "highs") = some .local) (hint : interactive e = false) (hline : (p18.endLine == p19.line) = true)
    (hh : A.handled = none) (GG : GNames mg mb) (G : GN mg mb s.heap) (hcell : s.heap.IsCell cC (some (.ref CL))) (hl : s.heap.IsList CL ys) (hz : All2 IntIs ys.toList zs) (hck : s.heap.IsCell cK (some (.int (k : Int) tk))) (hk3 : k < 3)
    (hn : s.heap.Ns e.locals m) (hmd : m (Str.ofString "due") = some (.ref Du)) (hml : m (Str.ofString "lows") = some (.ref LO)) (hmh : m (Str.ofString "highs") = some (.ref HI)) (hD : s.heap.PlainList Du dus) (hsz : dus.size ≤ 1000) (hL : s.heap.IsList LO xl) (hH : s.heap.IsList HI xh) (h0l : 0 < zs.sum → xl[0]? = some vlo) (h0h : 0 < zs.sum → xh[0]? = some vhi)
    (hno : ¬ 0 < zs.sum → ∀ h' tk, Keep s.heap h' → Q .next { s with heap := h', toks := tk })
    (hyes : 0 < zs.sum → ∀ h' tk tp t, s.heap.get? tp = none → h'.PlainList Du (dus.push (.ref tp)) → h'.IsTuple tp #[.str (nameOf k) t, vlo, vhi] → (∀ b o, b ≠ Du → s.heap.get? b = some o → h'.get? b = some o) → Q .next { s with heap := h', toks := tk }) :
    wpAny (model prog w) A (exec (.If (.Compare (.Call (.Name (Str.ofString "sum") p1) [.Name (Str.ofString "counts") p2] [] p3) [.Gt] [.Constant (.int 0) 0 p4] p5)
      [.Expr (.Call (.Attribute (.Name (Str.ofString "due") p6) (Str.ofString "append") p18) [.Tuple [.Subscript (.List [.Constant (.str (Str.ofString "Linux")) 0 p7, .Constant (.str (Str.ofString "Mac_OS")) 0 p8, .Constant (.str (Str.ofString "A-B")) 0 p9] p10) (.Name (Str.ofString "k") p11) p12,
        .Subscript (.Name (Str.ofString "lows") p13) (.Constant (.int 0) 0 p14) p15, .Subscript (.Name (Str.ofString "highs") p16) (.Constant (.int 0) 0 p17) p20] 0 p21] [] p19) p19] [] p22) e) Q E s := by
  refine wpAny_If (wpAny_isTrue_Compare1 ?_)
  refine sum_counts K hs hc hcl hh GG G hcell hl hz fun h1 tk1 t1 k1 => ?_
  refine wpAny_Constant_int (PyProof.Rows.gt_int (wpAny_truthy_bool ?_))
  by_cases hp : 0 < zs.sum
  · rw [decide_eq_true hp]
    simp only [if_true]
    refine wpAny_execs_cons (wpAny_Expr ?_ hint)
    refine wpAny_Call_method (T := "list") (id := "list.append") rfl rfl hline F.plainAttrs_list F.slot_list_append F.type_list_append ?_
    obtain ⟨nD, hDg⟩ := hD
    refine name_local (s := { s with heap := h1, toks := tk1 + 1 }) K hdu (hn.keeps k1) hmd ⟨⟨_, k1 _ _ hDg, rfl⟩, ?_, ?_⟩
    · intro a ea
      cases ea
      exact ⟨_, k1 _ _ hDg, rfl⟩
    refine callWith_builtin ?hpl ?hb
    case hpl => rfl
    refine evalArgs_plain ?_
    refine spliced_cons ?_
    refine Tuple_ (k := 0) ?_
    refine args_cons ?_
    refine Subscript_ (List_ ?_)
    refine args_cons (Constant_str (args_cons (Constant_str (args_cons (Constant_str (args_nil ?_))))))
    dsimp only
    refine wpAny_newObj_type ?_ (by show 3 ≤ sizeLine; rw [sizeLine_eq]; decide)
    dsimp only
    obtain ⟨tn, htn⟩ := names_k hk3 (tk1 + 1) (tk1 + 1 + 1) (tk1 + 1 + 1 + 1)
    generalize hH2 : h1.push _ = h2
    have k2 : Keep h1 h2 := by rw [← hH2]; exact keep_push _ _
    have hll : h2.IsList h1.objs.size #[.str (Str.ofString "Linux") (tk1 + 1), .str (Str.ofString "Mac_OS") (tk1 + 1 + 1), .str (Str.ofString "A-B") (tk1 + 1 + 1 + 1)] := by rw [← hH2]; exact ⟨_, Heap.get?_push_size _ rfl, rfl, _, rfl⟩
    refine name_cell (s := { s with heap := h2, toks := _ }) K hkk hkc (isCell_keep hck (k1.trans k2)) ?_
    refine kba_turn (value' := .Name (Str.ofString "_") p1) (fun _ => rfl) ?_
    refine subscriptTail_builtin (T := "list") (Heap.IsList.typeIs (s := { s with heap := h2, toks := _ }) hll) slot_list_getitem.lookup ?_
    refine wpAny_getItem_list (s := { s with heap := h2, toks := _ }) hll (by omega) (by omega) htn ?_
    have k12 := k1.trans k2
    refine args_cons (first_item (s := { s with heap := h2, toks := _ }) K hlo (by decide) (hn.keeps k12) hml (isList_keep hL k12) (h0l hp) fun tk3 => ?_)
    refine args_cons (first_item (s := { s with heap := h2, toks := tk3 }) K hhi (by decide) (hn.keeps k12) hmh (isList_keep hH k12) (h0h hp) fun tk4 => ?_)
    refine args_nil ?_
    refine wpAny_newObj_type ?_ (by show 3 ≤ sizeLine; rw [sizeLine_eq]; decide)
    dsimp only
    refine spliced_nil ?_
    have g3 : (h2.push { cls := .type "tuple", dict := none, data := .seq [.str (nameOf k) tn, vlo, vhi].toArray }).get? h2.objs.size = some { cls := .type "tuple", dict := none, data := .seq [.str (nameOf k) tn, vlo, vhi].toArray } := Heap.get?_push_size _ rfl
    generalize hH3 : h2.push { cls := .type "tuple", dict := none, data := .seq [.str (nameOf k) tn, vlo, vhi].toArray } = h3 at g3
    have k3 : Keep h2 h3 := by rw [← hH3]; exact keep_push _ _
    have k123 := k12.trans k3
    have hne : h2.objs.size ≠ Du := Nat.ne_of_gt (Heap.lt_size (k12 _ _ hDg))
    refine wpAny_list_append_plain (s := { s with heap := h3, toks := tk4 }) ⟨nD, k123 _ _ hDg⟩ (fun h4 hD4 s4 => ?_) (by rw [sizeLine_eq]; omega)
    show wpAny _ _ (execs [] e) _ _ _
    refine wpAny_execs_nil ?_
    refine hyes hp h4 tk4 h2.objs.size tn ?_ hD4 ⟨_, (s4.2 _ hne).trans g3, rfl, _, rfl⟩ fun b o n e => (s4.2 b n).trans (k123 b o e)
    cases q : s.heap.get? h2.objs.size with
    | none => rfl
    | some o => exact absurd (Heap.lt_size (k12 _ _ q)) (Nat.lt_irrefl _)
  · rw [decide_eq_false hp]
    simp only [Bool.false_eq_true, if_false]
    exact wpAny_execs_nil (hno hp _ _ k1)
end
end Mine
end
/- Eq1 -/
section
open PySem PySem.W PyProof.Rows PySem.Calls PySem.SeqAt
namespace Mine
set_option maxRecDepth 100000
set_option maxHeartbeats 400000
theorem ver_self (r : Nat) (t1 t2 t3 t4 t5 t6 u1 u2 u3 u4 u5 u6 : Tok) : ∀ j, j < (verArr r t1 t2 t3 t4 t5 t6).size → vEq ((verArr r t1 t2 t3 t4 t5 t6).getD j .none) ((verArr r u1 u2 u3 u4 u5 u6).getD j .none) = true := by
  intro j hj
  have h6 : j < 6 := by
    unfold verArr at hj
    split at hj <;> simp at hj <;> omega
  obtain rfl | rfl | rfl | rfl | rfl | rfl : j = 0 ∨ j = 1 ∨ j = 2 ∨ j = 3 ∨ j = 4 ∨ j = 5 := by omega
  all_goals (unfold verArr at hj ⊢; split at hj)
  all_goals first
    | (exfalso; simp at hj; done)
    | rfl
    | (simp [vEq]; done)
theorem ver_size (r : Nat) (t1 t2 t3 t4 t5 t6 u1 u2 u3 u4 u5 u6 : Tok) : (verArr r t1 t2 t3 t4 t5 t6).size = (verArr r u1 u2 u3 u4 u5 u6).size := by
  unfold verArr
  split <;> rfl
section
variable {A : Around} {s : Shared}
theorem ver_EqAt {v v' : Value} {r : Nat} (hu : A.units < cLine) (h : VerH s.heap v r) (h' : VerH s.heap v' r) : EqAt A s v v' true := by
  obtain ⟨a, t1, t2, t3, t4, t5, t6, c, rfl, g⟩ := h
  obtain ⟨b, u1, u2, u3, u4, u5, u6, c', rfl, g'⟩ := h'
  by_cases hab : a = b
  · subst hab; exact EqAt.same _
  · have := RcAt.lists (A := A) (s := s) (l := a) (b := b) (e := fun j => vEq ((verArr r t1 t2 t3 t4 t5 t6).getD j .none) ((verArr r u1 u2 u3 u4 u5 u6).getD j .none)) ⟨_, g, rfl, c, rfl⟩ ⟨_, g', rfl, c', rfl⟩ (ver_size ..) hu (fun j h1 h2 => ver_eqAt r r t1 t2 t3 t4 t5 t6 u1 u2 u3 u4 u5 u6 j h1 h2)
    have e : ((List.range (verArr r t1 t2 t3 t4 t5 t6).size).all fun j => vEq ((verArr r t1 t2 t3 t4 t5 t6).getD j .none) ((verArr r u1 u2 u3 u4 u5 u6).getD j .none)) = true :=
      List.all_eq_true.mpr fun j hj => ver_self r t1 t2 t3 t4 t5 t6 u1 u2 u3 u4 u5 u6 j (List.mem_range.mp hj)
    rw [e] at this
    exact EqAt.of_refs hab this
/-- a told system: its name and its two medians -/
def Rep (h : Heap) (v : Value) (x : Nat × Nat × Nat) : Prop := ∃ tp t lo hi, v = .ref tp ∧ h.IsTuple tp #[.str (nameOf x.1) t, lo, hi] ∧ VerH h lo x.2.1 ∧ VerH h hi x.2.2
theorem rep_EqAt {v v' : Value} {x : Nat × Nat × Nat} (hu : A.units + 1 < cLine) (h : Rep s.heap v x) (h' : Rep s.heap v' x) : EqAt A s v v' true := by
  obtain ⟨tp, t, lo, hi, rfl, g, vl, vh⟩ := h
  obtain ⟨tp', t', lo', hi', rfl, g', vl', vh'⟩ := h'
  by_cases hab : tp = tp'
  · subst hab; exact EqAt.same _
  · have := RcAt.tuples (A := A) (s := s) (e := fun _ => true) g g' (by omega) (fun j h1 h2 => by
      have hj : j < 3 := by simpa using h1
      obtain rfl | rfl | rfl : j = 0 ∨ j = 1 ∨ j = 2 := by omega
      · have := EqAt.str_str (A := A.in1) (s := s) (nameOf x.1) t (nameOf x.1) t'
        simpa using this
      · exact ver_EqAt (A := A.in1) hu vl vl'
      · exact ver_EqAt (A := A.in1) hu vh vh')
    exact EqAt.of_refs hab this
theorem reps_eq {prog : Program} {w : World} {E : Value → Shared → Prop} {Q : Value → Shared → Prop} {l b : Addr} {ys ys' : Array Value} {xs : List (Nat × Nat × Nat)} (hl : s.heap.IsList l ys) (hb : s.heap.IsList b ys') (hu : A.units + 2 < cLine) (h1 : All2 (Rep s.heap) ys.toList xs) (h2 : All2 (Rep s.heap) ys'.toList xs) (h : Q (.bool true) s) :
    wpAny (model prog w) A (compareOp .Eq (.ref l) (.ref b)) Q E s := by
  have e1 := h1.length
  have e2 := h2.length
  simp at e1 e2
  refine eq_listAt (e := fun _ => true) hl hb (by omega) (by omega) (fun j g1 g2 => ?_) ?_
  · have a1 := h1.get (da := .none) (db := (0, 0, 0)) j (by simpa using g1)
    have a2 := h2.get (da := .none) (db := (0, 0, 0)) j (by simpa using g2)
    have q1 : ys.toList.getD j .none = ys[j] := by simp [g1]
    have q2 : ys'.toList.getD j .none = ys'[j] := by simp [g2]
    rw [q1] at a1
    rw [q2] at a2
    exact rep_EqAt (A := A.in1) (show A.units + 1 + 1 < cLine by omega) a1 a2
  · have : ((List.range ys.size).all fun _ => true) = true := by simp
    rw [this]; exact h
end
end Mine
end
/- Due8 -/
section
open PySem PySem.W PySem.W.X PyProof.Rows PySem.Calls
open Sem (wp)
namespace Mine
set_option maxRecDepth 100000
set_option maxHeartbeats 1000000
section
variable {prog : Program} {w : World} {A₀ A : Around} {s : Shared} {base h₀ : Heap} {outer : List Env} {env : Env} {L : Addr} {m : Str → Option Value} {news : List (Addr × Obj)} {K : Frag} {p : Program} {loose : List Str} {mean : ExcName → Option Value} {mg mb : Str → Option Value}
    {R : Result → Shared → Prop} {name qual : Str} {params : Arguments} {body : List Stmt} {scope : Scope} {dV kV doc pm cdv ct oc : Value} {an od : Option Addr} {osl : Array (Option Value)} {f : Addr} {args : Args} {binds : List (Str × Value)}
theorem codeAny_defC (B : Below A₀ base outer h₀) (F : Fr h₀ L s.heap m) (X₀ : K.In h₀) (N : News h₀ L s.heap news) (T : Top p loose mean mg mb h₀) (hA : A.frames = some (env :: outer)) (hf : env.frame = some L) (hke : env.scope.kind = .function)
    (ho : K.lookup f = some ⟨oc, od, .func (fnOf name qual params body scope dV kV doc pm an cdv ct), osl⟩) (hcd : codeIn K cdv qual = true) (hroom : A.depth < recursionLimit)
    (hbind : BindsTo s (fnOf name qual params body scope dV kV doc pm an cdv ct) args binds)
    (hkind : ∀ n, ∀ x ∈ binds, scope.names.lookup x.1 = some .local ∨ (scope.names.lookup x.1 = some .cell ∧ ((cellsFrom n scope.names []).lookup x.1).isSome = true))
    (hnd : ((cellsFrom 0 scope.names []).map (·.1)).Nodup)
    (h : ∀ g L' h₁ tk cells, Fr h₀ L g m → Fr g L' h₁ (bindL (envOfC qual scope L' f cdv).kindOf binds fun _ => none) → News g L' h₁ (cells ++ news) →
      CellsAre (bindC (envOfC qual scope L' f cdv).kindOf binds fun _ => none) (cellsFrom (L' + 1) scope.names []) cells → Below A base (env :: outer) g → K.In g → Top p loose mean mg mb g → (∀ p ∈ news, p.1 < L') → GSub s.heap g (news.map (·.1)) →
      wpAny (model prog w) (A.deeper (envOfC qual scope L' f cdv)) (execs body (envOfC qual scope L' f cdv)) (fun fl s' => R (.ok (.ret (match fl with | .ret v => v | _ => .none))) s') noE
        { s with heap := h₁, toks := tk })
    (hco : scope.isCoroutine = false) (hgen : scope.isGenerator = false) (hk : scope.kind = .function) : codeAny (model prog w) A (.call (.ref f) args) R s := fun Γ p hc hB => by
  have := okC_defC (prog := prog) (w := w) (Q := fun fl s' => R (.ok fl) s') hc hB B F X₀ N T hA hf hke ho hcd hroom hbind hkind hnd (fun g L' h₁ tk cells a1 a2 a3 a4 a5 a6 a7 a8 a9 hIn => wpG_any hIn (h g L' h₁ tk cells a1 a2 a3 a4 a5 a6 a7 a8 a9)) hco hgen hk p
  refine wpCode_mono (fun r s' h' => ?_) this
  cases r with
  | error e => exact h'.elim
  | ok f => exact h'
end
theorem leafA {α : Type} {M : Model} {A : Around} {t : Sem α} {s : Shared} {Q : α → Shared → Prop} {E : Value → Shared → Prop} (P : α → Shared → Prop) (h : wpAny M A t (fun a s' => Seal (P a s')) noE s) (k : ∀ a s', P a s' → Q a s') : wpAny M A t Q E s :=
  wpAny_mono h (fun a s' x => k a s' x.out) fun _ _ x => x.elim
section
variable {w : World} {A : Around} {s : Shared} {e : Env} {I l c : Addr} {items : Array Value} {x : Str} {tp : Pos} {body : List Stmt} {R : Result → Shared → Prop} {J : Nat → Heap → Prop}
/-- a loop over a list whose target is a cell, with an invariant J of the heap -/
theorem codeAny_loopC (hh : A.handled = none) (K : EnvOk e) (hx : e.kindOf x = some .cell) (hcell : e.cells.lookup x = some c)
    (hJ : ∀ i h, J i h → h.IsListIter I l i ∧ h.IsList l items ∧ ∃ v0, h.IsCell c v0)
    (turn : ∀ i v h tk h', items[i]? = some v → J i h → h'.IsListIter I l (i + 1) → h'.IsCell c (some v) → (∀ b o, b ≠ I → b ≠ c → h.get? b = some o → h'.get? b = some o) →
      wpAny (model prog w) A (execs body e) (fun f s' => IsNext f ∧ ∃ h'' tk'', s' = { s with heap := h'', toks := tk'' } ∧ J (i + 1) h'') noE { s with heap := h', toks := tk })
    (fin : ∀ h h' tk, J items.size h → (∀ b o, b ≠ I → h.get? b = some o → h'.get? b = some o) → R (.ok .next) { s with heap := h', toks := tk }) :
    ∀ n i h tk, n = items.size - i → i ≤ items.size → J i h → codeAny (model prog w) A (.forLoop (.Name x tp) (.ref I) body [] e) R { s with heap := h, toks := tk } := by
  have main : ∀ n i h tk, n = items.size - i → i ≤ items.size → J i h → ∀ Γ : Ctx, Γ.code = .forLoop (.Name x tp) (.ref I) body [] e → Γ.Below A → okC (model prog w) Γ (fun f s' => R (.ok f) s') { s with heap := h, toks := tk } := by
    intro n
    induction n with
    | zero =>
      intro i h tk hn hi hj Γ hc hB
      have hI : Γ.In A := by have := hB.in; rw [hc] at this; exact this
      have ei : i = items.size := by omega
      subst ei
      refine okC_forTurn hc ?_ (fun v => letOwned_Name _ v)
      obtain ⟨j1, j2, _⟩ := hJ _ _ hj
      refine wpG_any hI (wpAny_pyNext_list_end (items := items) hh j1 j2 (by simp) fun h' hs => ?_)
      refine okC_any (A := A) (hB.goto _) (codeAny_block (wpAny_execs_nil ?_))
      exact fin h h' tk hj fun b o n e => hs b o n e
    | succ n ih =>
      intro i h tk hn hi hj Γ hc hB
      have hI : Γ.In A := by have := hB.in; rw [hc] at this; exact this
      have hlt : i < items.size := by omega
      have hxi : items[i]? = some items[i] := by simp [hlt]
      refine okC_forTurn hc ?_ (fun v => letOwned_Name _ v)
      obtain ⟨j1, j2, v0, j3⟩ := hJ _ _ hj
      have hcI : c ≠ I := fun q => by
        obtain ⟨o1, h1, h2, h3⟩ := j1
        obtain ⟨o2, g1, g2⟩ := j3
        rw [q, h1] at g1; cases g1
        rw [h3] at g2; cases g2
      refine wpG_any hI (wpAny_pyNext_list_item (items := items) j1 j2 hxi fun h' hit' hs => ?_)
      have hself : Γ.goto (.forLoop (.Name x tp) (.ref I) body [] e) = Γ := by rw [← hc]; rfl
      rw [hself]
      have hc' : h'.IsCell c v0 := by obtain ⟨o, ho, r⟩ := j3; exact ⟨o, (hs.2 c hcI).trans ho, r⟩
      refine wpG_any hI (wpAny_assign_Name (wpAny_storeName_cell K.kind hx hcell hc' fun h3 hc3 s3 => ?_))
      have hit3 : h3.IsListIter I l (i + 1) := by obtain ⟨o, ho, r⟩ := hit'; exact ⟨o, (s3.2 I (Ne.symm hcI)).trans ho, r⟩
      refine wpG_any hI (wpAny_mono (turn i _ h _ h3 hxi hj hit3 hc3 (fun b o n1 n2 e => (s3.2 b n2).trans ((hs.2 b n1).trans e))) (fun f s' q => ?_) fun _ _ x => x)
      obtain ⟨⟨⟩, h4, tk4, rfl, j4⟩ := q
      exact ih (i + 1) h4 tk4 (by omega) hlt j4 Γ hc hB
  intro n i h tk hn hi hj Γ p hc hB
  refine wpCode_mono (fun r s' h' => ?_) (main n i h tk hn hi hj Γ hc hB p)
  cases r with
  | error e => exact h'.elim
  | ok f => exact h'
end
end Mine
end
/- Due9 -/
section
open PySem PySem.W PySem.W.X PyProof.Rows PySem.Calls
namespace Mine
set_option maxRecDepth 100000
set_option maxHeartbeats 1000000
/-- the places in the order that pass a test on the counts -/
def passes (f : Int → Int → Bool) (zs : List Int) : List Nat := (List.range 4).filter fun j => f (2 * (zs.take (j + 1)).sum) zs.sum
abbrev fLow (a b : Int) : Bool := decide (b ≤ a)
abbrev fHigh (a b : Int) : Bool := decide (b < a)
/-- what is due for one system -/
def dueAt (ns : List Int) (k : Nat) : List (Nat × Nat × Nat) := if 0 < (zsOf k ns).sum then [(k, (passes fLow (zsOf k ns)).headD 0, (passes fHigh (zsOf k ns)).headD 0)] else []
/-- a due system, as it lies in the heap, outside S -/
def RepR (S : List Addr) (R : Nat → Addr) (h : Heap) (v : Value) (x : Nat × Nat × Nat) : Prop := ∃ tp t, v = .ref tp ∧ tp ∉ S ∧ x.2.1 < 4 ∧ x.2.2 < 4 ∧ h.IsTuple tp #[.str (nameOf x.1) t, .ref (R x.2.1), .ref (R x.2.2)]
theorem isTuple_at {h h' : Heap} {a : Addr} {xs : Array Value} (x : h.IsTuple a xs) (k : ∀ o, h.get? a = some o → h'.get? a = some o) : h'.IsTuple a xs := by obtain ⟨o, e, r⟩ := x; exact ⟨o, k _ e, r⟩
theorem isList_at {h h' : Heap} {a : Addr} {xs : Array Value} (x : h.IsList a xs) (k : ∀ o, h.get? a = some o → h'.get? a = some o) : h'.IsList a xs := by obtain ⟨o, e, r⟩ := x; exact ⟨o, k _ e, r⟩
theorem isCell_at {h h' : Heap} {a : Addr} {v : Option Value} (x : h.IsCell a v) (k : ∀ o, h.get? a = some o → h'.get? a = some o) : h'.IsCell a v := by obtain ⟨o, e, r⟩ := x; exact ⟨o, k _ e, r⟩
theorem isIter_at {h h' : Heap} {a l : Addr} {i : Nat} (x : h.IsListIter a l i) (k : ∀ o, h.get? a = some o → h'.get? a = some o) : h'.IsListIter a l i := by obtain ⟨o, e, r⟩ := x; exact ⟨o, k _ e, r⟩
theorem RepR.keep {S : List Addr} {R : Nat → Addr} {h h' : Heap} (k : KeepBut S h h') {v : Value} {x : Nat × Nat × Nat} (y : RepR S R h v x) : RepR S R h' v x := by
  obtain ⟨tp, t, e, n, a, b, g⟩ := y
  exact ⟨tp, t, e, n, a, b, isTuple_at g fun o => k tp o n⟩
theorem zs_nonneg {k : Nat} {ns : List Int} : 0 ≤ (zsOf k ns).sum := by
  unfold zsOf
  simp only [List.sum_cons, List.sum_nil]
  omega
theorem pass3 {f : Int → Int → Bool} {k : Nat} {ns : List Int} (hf : ∀ b : Int, 0 < b → f (2 * b) b = true) (hp : 0 < (zsOf k ns).sum) : 3 ∈ passes f (zsOf k ns) := by
  unfold passes
  refine List.mem_filter.mpr ⟨by decide, ?_⟩
  have e : (zsOf k ns).take (3 + 1) = zsOf k ns := rfl
  rw [e]
  exact hf _ hp
theorem passes_lt {f : Int → Int → Bool} {zs : List Int} : (passes f zs).headD 0 < 4 := by
  cases h : passes f zs with
  | nil => decide
  | cons j l =>
    have : j ∈ passes f zs := by rw [h]; exact .head _
    unfold passes at this
    exact List.mem_range.mp (List.mem_filter.mp this).1
theorem first_row {l : List Nat} {xs : Array Value} {R : Nat → Addr} (h : xs.toList = l.map fun j => Value.ref (R j)) {j : Nat} (hj : j ∈ l) : xs[0]? = some (.ref (R (l.headD 0))) := by
  cases l with
  | nil => cases hj
  | cons a l =>
    have : xs.toList[0]? = some (.ref (R a)) := by rw [h]; rfl
    simpa using this
/-- the environment of _law_due -/
structure DueEnv (e : Env) (cC cK cO cF : Addr) : Prop where
  ok : EnvOk e
  sum : e.kindOf (Str.ofString "sum") = some .globalImplicit
  range : e.kindOf (Str.ofString "range") = some .globalImplicit
  counts : e.kindOf (Str.ofString "counts") = some .cell
  countsC : e.cells.lookup (Str.ofString "counts") = some cC
  k : e.kindOf (Str.ofString "k") = some .cell
  kC : e.cells.lookup (Str.ofString "k") = some cK
  order : e.kindOf (Str.ofString "order") = some .cell
  orderC : e.cells.lookup (Str.ofString "order") = some cO
  due : e.kindOf (Str.ofString "due") = some .local
  lows : e.kindOf (Str.ofString "lows") = some .local
  highs : e.kindOf (Str.ofString "highs") = some .local
  inter : interactive e = false
/-- what lies below and stays -/
structure DueG (w : World) (A : Around) (e : Env) (g : Heap) (mg mb : Str → Option Value) (dr : Addr) (items : Array Value) (ns : List Int) : Prop where
  hh : A.handled = none
  GG : GNames mg mb
  G : GN mg mb g
  RC : ∀ h₁ m, Keep g h₁ → h₁.Ns e.locals m → RelCall w A h₁
  h92 : ∃ o fd, g.get? 92 = some o ∧ o.data = .func fd
  hl : g.IsList dr items
  hns : All2 IntIs items.toList ns
  hsz : items.size ≤ 1000
/-- the heap at the loop -/
structure DueH (g h : Heap) (S : List Addr) (Lc : Addr) (I KL cC cK cO cF Du O : Addr) (T R : Nat → Addr) (u : Nat → Tok) (dr : Addr) (ks : Array Value) : Prop where
  keep : Keep g h
  Sis : S = [I, cK, cC, Lc, Du]
  nod : S.Nodup
  fresh : ∀ b ∈ S, g.get? b = none
  kl : h.IsList KL ks
  nkl : KL ∉ S
  isF : h.IsCell cF (some (.ref dr))
  ncF : cF ∉ S
  isO : h.IsCell cO (some (.ref O))
  ncO : cO ∉ S
  ord : OrderIn h O T R u
  nO : O ∉ S
  nT : ∀ j < 4, T j ∉ S
  nR : ∀ j < 4, R j ∉ S
  injT : ∀ i j, i < 4 → j < 4 → T i = T j → i = j
/-- what holds in the loop -/
def DueJ (h₆ : Heap) (S : List Addr) (Lc : Addr) (I KL cC cK Du : Addr) (R : Nat → Addr) (ns : List Int) (ksn : List Nat) (i : Nat) (h : Heap) : Prop :=
  KeepBut S h₆ h ∧ h.IsListIter I KL i ∧ (∃ v, h.IsCell cK v) ∧ (∃ v, h.IsCell cC v) ∧ (∃ m, h.Ns Lc m ∧ m (Str.ofString "due") = some (.ref Du)) ∧
    ∃ dus, h.PlainList Du dus ∧ dus.size ≤ i ∧ All2 (RepR S R h) dus.toList ((ksn.take i).flatMap (dueAt ns))
theorem verH_at {h h' : Heap} {a : Addr} {r : Nat} (x : VerH h (.ref a) r) (k : ∀ o, h.get? a = some o → h'.get? a = some o) : VerH h' (.ref a) r := by
  obtain ⟨b, t1, t2, t3, t4, t5, t6, c, e, g⟩ := x
  cases e
  exact ⟨a, t1, t2, t3, t4, t5, t6, c, rfl, k _ g⟩
theorem OrderIn.but {h h' : Heap} {S : List Addr} {O : Addr} {T R : Nat → Addr} {u : Nat → Tok} (x : OrderIn h O T R u) (k : KeepBut S h h') (nO : O ∉ S) (nT : ∀ j < 4, T j ∉ S) (nR : ∀ j < 4, R j ∉ S) : OrderIn h' O T R u :=
  ⟨isList_at x.lst fun o => k O o nO, fun j hj => by obtain ⟨o, e, r⟩ := x.tup j hj; exact ⟨o, k _ _ (nT j hj) e, r⟩, fun j hj => verH_at (x.ver j hj) fun o => k _ o (nR j hj)⟩
theorem KeepBut.one {S : List Addr} {h h' : Heap} {c : Addr} (hc : c ∈ S) (k : ∀ b o, b ≠ c → h.get? b = some o → h'.get? b = some o) : KeepBut S h h' := fun b o n => k b o fun q => n (q ▸ hc)
theorem KeepBut.all {S : List Addr} {h h' : Heap} (k : Keep h h') : KeepBut S h h' := fun b o _ => k b o
theorem DueH.st {g h h' : Heap} {S : List Addr} {Lc : Addr} {I KL cC cK cO cF Du O : Addr} {T R : Nat → Addr} {u : Nat → Tok} {dr : Addr} {ks : Array Value} (X : DueH g h S Lc I KL cC cK cO cF Du O T R u dr ks) (k : KeepBut S h h') : DueH g h' S Lc I KL cC cK cO cF Du O T R u dr ks where
  keep := fun b o e => k b o (fun q => by have := X.fresh b q; rw [e] at this; cases this) (X.keep b o e)
  Sis := X.Sis
  nod := X.nod
  fresh := X.fresh
  kl := isList_at X.kl fun o => k _ o X.nkl
  nkl := X.nkl
  isF := isCell_at X.isF fun o => k _ o X.ncF
  ncF := X.ncF
  isO := isCell_at X.isO fun o => k _ o X.ncO
  ncO := X.ncO
  ord := X.ord.but k X.nO X.nT X.nR
  nO := X.nO
  nT := X.nT
  nR := X.nR
  injT := X.injT
end Mine
end
/- Due10 -/
section
open PySem PySem.W PySem.W.X PyProof.Rows PySem.Calls
namespace Mine
set_option maxRecDepth 100000
set_option maxHeartbeats 1000000
section
variable {w : World} {A : Around} {s : Shared} {e : Env} {mg mb : Str → Option Value} {a1 a2 a3 a4 a5 a6 a7 a8 a9 a10 a11 a12 a13 a14 a15 a16 a17 a18 a19 a20 a21 a22 a23 a24 a25 a26 a27 a28 a29 a30 : Pos}
  {l1 l2 l3 l4 l5 l6 l7 l8 l9 l10 l11 l12 l13 l14 l15 l16 l17 l18 l19 l20 l21 l22 l23 l24 l25 l26 l27 l28 l29 l30 : Pos}
  {h1 h2 h3 h4 h5 h6 h7 h8 h9 h10 h11 h12 h13 h14 h15 h16 h17 h18 h19 h20 h21 h22 h23 h24 h25 h26 h27 h28 h29 h30 : Pos}
  {d1 d2 d3 d4 d5 d6 d7 d8 d9 d10 d11 d12 d13 d14 d15 d16 d17 d18 d19 d20 d21 d22 d23 d24 d25 d26 d27 d28 d29 d30 : Pos}
/-- counts = [..] -/
abbrev stCounts (p1 p2 p3 p4 p5 p6 p7 p8 p9 p10 p11 p12 p13 q1 q2 q3 q4 q5 q6 q7 py spos pt1 pt2 pt3 po ps pi pc px pf pos : Pos) (scope iscope : Scope) : Stmt :=
  .Assign [.Name (Str.ofString "counts") py] (.ListComp (.Call (.Name (Str.ofString "sum") ps) [.ListComp (.BinOp (.BinOp (.BinOp (.Name (Str.ofString "n") q1) .FloorDiv (.Constant (.int 12) 0 q2) q3) .Mod (.Constant (.int 3) 0 q4) q5) .Add (.Constant (.int 1) 0 q6) q7)
      [⟨.Name (Str.ofString "n") px, .Name (Str.ofString "fleet") pf, [.BoolOp .And [.Compare (.BinOp (.BinOp (.Name (Str.ofString "n") p1) .Mod (.Constant (.int 12) 0 p2) p3) .FloorDiv (.Constant (.int 4) 0 p4) p5) [.Eq] [.Name (Str.ofString "k") p6] p7,
      .Compare (.Call (.Name (Str.ofString "_law_release") p8) [.Name (Str.ofString "n") p9] [] p10) [.Eq] [.Name (Str.ofString "text") p11] p12] p13], 0⟩] iscope pi] [] pc) [⟨.Tuple [.Name (Str.ofString "text") pt1, .Name (Str.ofString "ranks") pt2] 0 pt3, .Name (Str.ofString "order") po, [], 0⟩] scope pos) spos
/-- lows = [..], highs = [..] -/
abbrev stRows (y : Str) (op : CmpOp) (py p19 r2 r3 r4 r5 px p16 p17 p18 p9 p1 p2 p3 p4 p5 p6 p7 p8 p10 p12 p13 p14 p15 pos spos : Pos) (scope : Scope) : Stmt :=
  .Assign [.Name y py] (.ListComp (.Subscript (.Subscript (.Name (Str.ofString "order") p19) (.Name (Str.ofString "j") r2) r3) (.Constant (.int 1) 0 r4) r5) [⟨.Name (Str.ofString "j") px, .Call (.Name (Str.ofString "range") p16) [.Constant (.int 4) 0 p17] [] p18, [.Compare (.BinOp (.Constant (.int 2) 0 p9) .Mult (.Call (.Name (Str.ofString "sum") p1) [.Subscript (.Name (Str.ofString "counts") p2) (.Slice none (some (.BinOp (.Name (Str.ofString "j") p3) .Add (.Constant (.int 1) 0 p4) p5)) none p6) p7] [] p8) p10) [op]
      [.Call (.Name (Str.ofString "sum") p12) [.Name (Str.ofString "counts") p13] [] p14] p15], 0⟩] scope pos) spos
/-- if sum(counts) > 0: .. -/
abbrev stIf (p1 p2 p3 p4 p5 p6 p7 p8 p9 p10 p11 p12 p13 p14 p15 p16 p17 p18 p19 p20 p21 p22 : Pos) : Stmt :=
  .If (.Compare (.Call (.Name (Str.ofString "sum") p1) [.Name (Str.ofString "counts") p2] [] p3) [.Gt] [.Constant (.int 0) 0 p4] p5)
      [.Expr (.Call (.Attribute (.Name (Str.ofString "due") p6) (Str.ofString "append") p18) [.Tuple [.Subscript (.List [.Constant (.str (Str.ofString "Linux")) 0 p7, .Constant (.str (Str.ofString "Mac_OS")) 0 p8, .Constant (.str (Str.ofString "A-B")) 0 p9] p10) (.Name (Str.ofString "k") p11) p12,
        .Subscript (.Name (Str.ofString "lows") p13) (.Constant (.int 0) 0 p14) p15, .Subscript (.Name (Str.ofString "highs") p16) (.Constant (.int 0) 0 p17) p20] 0 p21] [] p19) p19] [] p22
abbrev scN : Scope := { kind := .function, names := [(Str.ofString ".0", .local), (Str.ofString "n", .local), (Str.ofString "_law_release", .globalImplicit), (Str.ofString "k", .free), (Str.ofString "text", .free)], isGenerator := false, isCoroutine := false, more := [] }
abbrev scT : Scope := { kind := .function, names := [(Str.ofString ".0", .local), (Str.ofString "text", .cell), (Str.ofString "ranks", .local), (Str.ofString "sum", .globalImplicit), (Str.ofString "fleet", .free), (Str.ofString "k", .free)], isGenerator := false, isCoroutine := false, more := [] }
abbrev scJ : Scope := { kind := .function, names := [(Str.ofString ".0", .local), (Str.ofString "j", .local), (Str.ofString "sum", .globalImplicit), (Str.ofString "counts", .free), (Str.ofString "order", .free)], isGenerator := false, isCoroutine := false, more := [] }
/-- what the closures of the comprehensions find -/
structure DueClos (e : Env) (cC cK cO cF : Addr) (clT clJ : List (Str × Addr)) : Prop where
  hT : closureFor scT e = pure clT
  tK : clT.lookup (Str.ofString "k") = some cK
  tF : clT.lookup (Str.ofString "fleet") = some cF
  hcf : ∀ n, cellsFrom n scT.names clT = (Str.ofString "text", n) :: clT
  hpc : ∀ h, pushCells h scT.names = h.push { cls := .type "cell", data := .cell none }
  hi : ∀ CT C, ∃ cl2, closureFor scN (compEnvC scT ((Str.ofString "text", CT) :: clT) C e) = pure cl2 ∧ cl2.lookup (Str.ofString "k") = some cK ∧ cl2.lookup (Str.ofString "text") = some CT ∧
      ∀ C2, (compEnvC scN cl2 C2 (compEnvC scT ((Str.ofString "text", CT) :: clT) C e)).kindOf (Str.ofString "n") = some .local ∧ (compEnvC scN cl2 C2 (compEnvC scT ((Str.ofString "text", CT) :: clT) C e)).kindOf (Str.ofString "k") = some .cell ∧ (compEnvC scN cl2 C2 (compEnvC scT ((Str.ofString "text", CT) :: clT) C e)).kindOf (Str.ofString "text") = some .cell ∧ (compEnvC scN cl2 C2 (compEnvC scT ((Str.ofString "text", CT) :: clT) C e)).kindOf (Str.ofString "_law_release") = some .globalImplicit
  hrT : ∀ CT C, (compEnvC scT ((Str.ofString "text", CT) :: clT) C e).kindOf (Str.ofString "text") = some .cell ∧ (compEnvC scT ((Str.ofString "text", CT) :: clT) C e).kindOf (Str.ofString "ranks") = some .local ∧ (compEnvC scT ((Str.ofString "text", CT) :: clT) C e).kindOf (Str.ofString "sum") = some .globalImplicit ∧ (compEnvC scT ((Str.ofString "text", CT) :: clT) C e).kindOf (Str.ofString "fleet") = some .cell
  hJ : closureFor scJ e = pure clJ
  jC : clJ.lookup (Str.ofString "counts") = some cC
  jO : clJ.lookup (Str.ofString "order") = some cO
  hrJ : ∀ C, (compEnvC scJ clJ C e).kindOf (Str.ofString "sum") = some .globalImplicit ∧ (compEnvC scJ clJ C e).kindOf (Str.ofString "counts") = some .cell ∧ (compEnvC scJ clJ C e).kindOf (Str.ofString "order") = some .cell ∧ (compEnvC scJ clJ C e).kindOf (Str.ofString "j") = some .local
/-- a turn of the loop of _law_due -/
theorem turn_due {g h₆ : Heap} {S : List Addr} {I KL cC cK cO cF Du O dr : Addr} {T R : Nat → Addr} {u : Nat → Tok} {ks items : Array Value} {ns : List Int} {ksn : List Nat} {clT clJ : List (Str × Addr)} {i : Nat} {h h' : Heap} {tk : Nat} {t : Tok} {k : Nat}
    (V : DueEnv e cC cK cO cF) (C : DueClos e cC cK cO cF clT clJ) (GD : DueG w A e g mg mb dr items ns) (X₆ : DueH g h₆ S e.locals I KL cC cK cO cF Du O T R u dr ks)
    (hsw1 : ∀ v, swapsWith (.ListComp v [⟨.Tuple [.Name (Str.ofString "text") a22, .Name (Str.ofString "ranks") a23] 0 a24, .Name (Str.ofString "order") a25, [], 0⟩] scT a30) (some (.Name (Str.ofString "counts") a20)) d30.line e = pure false)
    (hsw2 : ∀ v, swapsWith (.ListComp v [⟨.Name (Str.ofString "j") l6, .Call (.Name (Str.ofString "range") l7) [.Constant (.int 4) 0 l8] [] l9, [.Compare (.BinOp (.Constant (.int 2) 0 l10) .Mult (.Call (.Name (Str.ofString "sum") l11) [.Subscript (.Name (Str.ofString "counts") l12) (.Slice none (some (.BinOp (.Name (Str.ofString "j") l13) .Add (.Constant (.int 1) 0 l14) l15)) none l16) l17] [] l18) l19) [.GtE]
      [.Call (.Name (Str.ofString "sum") l20) [.Name (Str.ofString "counts") l21] [] l22] l23], 0⟩] scJ l24) (some (.Name (Str.ofString "lows") l1)) l25.line e = pure true)
    (hsw3 : ∀ v, swapsWith (.ListComp v [⟨.Name (Str.ofString "j") h6, .Call (.Name (Str.ofString "range") h7) [.Constant (.int 4) 0 h8] [] h9, [.Compare (.BinOp (.Constant (.int 2) 0 h10) .Mult (.Call (.Name (Str.ofString "sum") h11) [.Subscript (.Name (Str.ofString "counts") h12) (.Slice none (some (.BinOp (.Name (Str.ofString "j") h13) .Add (.Constant (.int 1) 0 h14) h15)) none h16) h17] [] h18) h19) [.Gt]
      [.Call (.Name (Str.ofString "sum") h20) [.Name (Str.ofString "counts") h21] [] h22] h23], 0⟩] scJ h24) (some (.Name (Str.ofString "highs") h1)) h25.line e = pure true)
    (hline : (d18.endLine == d19.line) = true) (hk3 : k < 3) (hi : i ≤ 900) (hki : ksn.take (i + 1) = ksn.take i ++ [k])
    (J : DueJ h₆ S e.locals I KL cC cK Du R ns ksn i h) (hit : h'.IsListIter I KL (i + 1)) (hck : h'.IsCell cK (some (.int (k : Int) t))) (kb : ∀ b o, b ≠ I → b ≠ cK → h.get? b = some o → h'.get? b = some o) :
    wpAny (model prog w) A (execs [stCounts a1 a2 a3 a4 a5 a6 a7 a8 a9 a10 a11 a12 a13 a14 a15 a16 a17 a18 a19 a21 a20 d30 a22 a23 a24 a25 a26 a27 a28 a29 d29 a30 scT scN,
      stRows (Str.ofString "lows") .GtE l1 l2 l3 l4 l5 l26 l6 l7 l8 l9 l10 l11 l12 l13 l14 l15 l16 l17 l18 l19 l20 l21 l22 l23 l24 l25 scJ,
      stRows (Str.ofString "highs") .Gt h1 h2 h3 h4 h5 h26 h6 h7 h8 h9 h10 h11 h12 h13 h14 h15 h16 h17 h18 h19 h20 h21 h22 h23 h24 h25 scJ,
      stIf d1 d2 d3 d4 d5 d6 d7 d8 d9 d10 d11 d12 d13 d14 d15 d16 d17 d18 d19 d20 d21 d22] e)
      (fun f s' => IsNext f ∧ ∃ h'' tk'', s' = { s with heap := h'', toks := tk'' } ∧ DueJ h₆ S e.locals I KL cC cK Du R ns ksn (i + 1) h'') noE { s with heap := h', toks := tk } := by
  obtain ⟨kS, _, _, ⟨vC, hcC⟩, ⟨m, hn, hmd⟩, dus, hD, hdz, hall⟩ := J
  have hS := X₆.Sis
  have mI : I ∈ S := by rw [hS]; simp
  have mK : cK ∈ S := by rw [hS]; simp
  have mC : cC ∈ S := by rw [hS]; simp
  have mL : e.locals ∈ S := by rw [hS]; simp
  have mD : Du ∈ S := by rw [hS]; simp
  have nod := X₆.nod
  rw [hS] at nod
  simp only [List.nodup_cons, List.mem_cons, List.not_mem_nil, or_false, not_or] at nod
  obtain ⟨⟨nIK, nIC, nIL, nID⟩, ⟨nKC, nKL, nKD⟩, ⟨nCL, nCD⟩, nLD, _⟩ := nod
  have kS' : KeepBut S h h' := fun b o n => kb b o (fun q => n (q ▸ mI)) fun q => n (q ▸ mK)
  have X1 := X₆.st (kS.trans kS')
  have hcC' := isCell_at hcC fun o => kb cC o (Ne.symm nIC) (Ne.symm nKC)
  have hn' : h'.Ns e.locals m := hn.at fun o => kb _ o (Ne.symm nIL) (Ne.symm nKL)
  have hD' : h'.PlainList Du dus := hD.at fun o => kb _ o (Ne.symm nID) (Ne.symm nKD)
  have all' := hall.mono fun v x => RepR.keep kS'
  have RC : RelCall w A h' := GD.RC h' m X1.keep hn'
  have h92 : ∃ o fd, h'.get? 92 = some o ∧ o.data = .func fd := by obtain ⟨o, fd, a, b⟩ := GD.h92; exact ⟨o, fd, X1.keep _ _ a, b⟩
  refine wpAny_execs_cons ?_
  refine counts_at (s := { s with heap := h', toks := tk }) (k := k) (T := T) (R := R) (u := u) rfl rfl V.ok C.hT C.tK C.tF V.order V.orderC V.counts V.countsC C.hcf C.hpc C.hi C.hrT hsw1 GD.hh GD.GG (GD.G.keeps X1.keep) RC h92 hck X1.isF (isList_keep GD.hl X1.keep) GD.hns GD.hsz X1.isO X1.ord X1.injT hcC' fun D1 H1 tk1 ys f1 ly zy cy k1 => ?_
  dsimp only
  have b1 : KeepBut S h' H1 := KeepBut.one mC k1
  have X2 := X1.st b1
  have hn1 : H1.Ns e.locals m := hn'.at fun o => k1 _ o (Ne.symm nCL)
  have ysz : ys.size ≤ 1000 := by have := zy.length; simp [zsOf] at this; omega
  refine wpAny_execs_cons ?_
  refine assign_rows (s := { s with heap := H1, toks := tk1 }) (f := fLow) (T := T) (R := R) (u := u) (fun hq => PyProof.Rows.ge_int hq) rfl rfl V.ok C.hJ C.jC C.jO hsw2 V.lows V.range C.hrJ GD.hh GD.GG (GD.G.keeps X2.keep) cy ly zy ysz X2.isO X2.ord hn1 fun D2 H2 tk2 xl f2 ll el hn2 k2 => ?_
  dsimp only
  have b2 : KeepBut S H1 H2 := KeepBut.one mL k2
  have X3 := X2.st b2
  have cy2 := isCell_at cy fun o => k2 _ o nCL
  have ly2 := isList_at ly fun o => k2 _ o (fun q => by
    obtain ⟨oL, _, _, hL, _⟩ := hn'
    rw [q, show h'.get? e.locals = _ from hL] at f1; cases f1)
  refine wpAny_execs_cons ?_
  refine assign_rows (s := { s with heap := H2, toks := tk2 }) (f := fHigh) (T := T) (R := R) (u := u) (fun hq => PyProof.Rows.gt_int hq) rfl rfl V.ok C.hJ C.jC C.jO hsw3 V.highs V.range C.hrJ GD.hh GD.GG (GD.G.keeps X3.keep) cy2 ly2 zy ysz X3.isO X3.ord hn2 fun D3 H3 tk3 xh f3 lh eh hn3 k3 => ?_
  dsimp only
  have b3 : KeepBut S H2 H3 := KeepBut.one mL k3
  have X4 := X3.st b3
  have cy3 := isCell_at cy2 fun o => k3 _ o nCL
  have ly3 := isList_at ly2 fun o => k3 _ o (fun q => by
    obtain ⟨oL, _, _, hL, _⟩ := hn'
    rw [q, show h'.get? e.locals = _ from hL] at f1; cases f1)
  have ll3 := isList_at ll fun o => k3 _ o (fun q => by
    obtain ⟨oL, _, _, hL, _⟩ := hn1
    rw [q, show H1.get? e.locals = _ from hL] at f2; cases f2)
  have b03 : KeepBut S h' H3 := (b1.trans b2).trans b3
  have hck3 := isCell_at (isCell_at (isCell_at hck fun o => k1 _ o nKC) fun o => k2 _ o nKL) fun o => k3 _ o nKL
  have hit3 := isIter_at (isIter_at (isIter_at hit fun o => k1 _ o nIC) fun o => k2 _ o nIL) fun o => k3 _ o nIL
  have hD3 : H3.PlainList Du dus := ((hD'.at fun o => k1 _ o (Ne.symm nCD)).at fun o => k2 _ o (Ne.symm nLD)).at fun o => k3 _ o (Ne.symm nLD)
  have all3 := all'.mono fun v x => RepR.keep b03
  have hm3 : (fun z => if z = Str.ofString "highs" then some (.ref D3) else if z = Str.ofString "lows" then some (.ref D2) else m z) (Str.ofString "due") = some (.ref Du) := by
    dsimp only
    rw [if_neg (by decide), if_neg (by decide)]; exact hmd
  have pl : 0 < (zsOf k ns).sum → xl[0]? = some (.ref (R ((passes fLow (zsOf k ns)).headD 0))) := fun hp => first_row el (pass3 (fun b hb => by unfold fLow; exact decide_eq_true (by omega)) hp)
  have ph : 0 < (zsOf k ns).sum → xh[0]? = some (.ref (R ((passes fHigh (zsOf k ns)).headD 0))) := fun hp => first_row eh (pass3 (fun b hb => by unfold fHigh; exact decide_eq_true (by omega)) hp)
  have nx : ∀ b ∈ S, ∃ o, H3.get? b = some o := fun b hb => by
    rw [hS] at hb
    simp only [List.mem_cons, List.not_mem_nil, or_false] at hb
    rcases hb with rfl | rfl | rfl | rfl | rfl
    · obtain ⟨o, ho, _⟩ := hit3; exact ⟨o, ho⟩
    · obtain ⟨o, ho, _⟩ := hck3; exact ⟨o, ho⟩
    · obtain ⟨o, ho, _⟩ := cy3; exact ⟨o, ho⟩
    · obtain ⟨o, _, _, ho, _⟩ := hn3; exact ⟨o, ho⟩
    · obtain ⟨n, ho⟩ := hD3; exact ⟨_, ho⟩
  have kAll := (kS.trans kS').trans b03
  refine wpAny_execs_cons ?_
  refine if_due (s := { s with heap := H3, toks := tk3 }) (Q := _) (k := k) (ys := ys) (zs := zsOf k ns) V.ok V.sum V.counts V.countsC V.k V.kC V.due V.lows V.highs V.inter hline GD.hh GD.GG (GD.G.keeps X4.keep) cy3 ly3 zy hck3 hk3 hn3 hm3 (by rw [if_neg (by decide), if_pos rfl]) (by rw [if_pos rfl]) hD3 (by omega) ll3 lh pl ph (fun hno H4 tk4 k4 => ?_) fun hyes H4 tk4 tp tt ftp hD4 htup k4 => ?_
  · refine wpAny_execs_nil ⟨.mk, H4, tk4, rfl, kAll.trans (KeepBut.all k4), isIter_at hit3 (k4 _), ⟨_, isCell_at hck3 (k4 _)⟩, ⟨_, isCell_at cy3 (k4 _)⟩, ⟨_, hn3.keeps k4, hm3⟩, dus, hD3.at (k4 _), by omega, ?_⟩
    rw [hki, List.flatMap_append]
    have e0 : List.flatMap (dueAt ns) [k] = [] := by simp [dueAt, hno]
    rw [e0, List.append_nil]
    exact all3.mono fun v x => RepR.keep (KeepBut.all k4)
  · refine wpAny_execs_nil ⟨.mk, H4, tk4, rfl, kAll.trans (KeepBut.one mD k4), isIter_at hit3 fun o => k4 _ o nID, ⟨_, isCell_at hck3 fun o => k4 _ o nKD⟩, ⟨_, isCell_at cy3 fun o => k4 _ o nCD⟩, ⟨_, hn3.at fun o => k4 _ o nLD, hm3⟩, dus.push (.ref tp), hD4, by rw [Array.size_push]; omega, ?_⟩
    rw [hki, List.flatMap_append]
    have e0 : List.flatMap (dueAt ns) [k] = [(k, (passes fLow (zsOf k ns)).headD 0, (passes fHigh (zsOf k ns)).headD 0)] := by simp [dueAt, hyes]
    rw [e0, Array.toList_push]
    refine (all3.mono fun v x => RepR.keep (KeepBut.one mD k4)).append (.cons ⟨tp, tt, rfl, fun hm => ?_, passes_lt, passes_lt, htup⟩ .nil)
    obtain ⟨o, ho⟩ := nx tp hm
    rw [show H3.get? tp = _ from ftp] at ho; cases ho
end
end Mine
end
/- Due11 -/
section
open PySem PySem.W PySem.W.X PyProof.Rows PySem.Calls
namespace Mine
set_option maxRecDepth 100000
set_option maxHeartbeats 8000000
theorem fillD : PySem.Challenge.rw_mr0145_01 = PySem.Challenge.rw_mr0145_01 ∧ Mine.kmk.heap_1 = Mine.kmk.heap_1 := by k_fill; exact ⟨rfl, rfl⟩
theorem gnames {P : Params} {p0 : Program} {lo0 : List Str} {mean : ExcName → Option Value} {mg mb : Str → Option Value} {h : Heap} (X : (kmk.heap_1 P).In h) (T : Top p0 lo0 mean mg mb h) : GNames mg mb where
  sum0 := mg_none_of X T.g (by k_is)
  sum1 := (T.builtins _ (by decide)).trans rfl
  range0 := mg_none_of X T.g (by k_is)
  range1 := (T.builtins _ (by decide)).trans rfl
  rel := mg_of X T.g (by k_is)
def dueOf (ns : List Int) : List (Nat × Nat × Nat) := [2, 0, 1].flatMap (dueAt ns)
def toRel (x : Nat × Nat × Nat) : Nat × Nat × Nat := (x.1, ordRel x.2.1, ordRel x.2.2)
theorem reps_out {S : List Addr} {R : Nat → Addr} {h : Heap} {vs : List Value} {xs : List (Nat × Nat × Nat)} (hv : ∀ j < 4, VerH h (.ref (R j)) (ordRel j)) (x : All2 (RepR S R h) vs xs) : All2 (Rep h) vs (xs.map toRel) := by
  induction x with
  | nil => exact .nil
  | cons p _ ih =>
    obtain ⟨tp, t, e, n, a, b, g⟩ := p
    exact .cons ⟨tp, t, _, _, e, g, hv _ a, hv _ b⟩ ih
def pick4 {α : Type} (a b c d : α) (j : Nat) : α := match j with
  | 0 => a
  | 1 => b
  | 2 => c
  | _ => d
theorem pick4_notin {S : List Addr} {a b c d : Addr} (ha : a ∉ S) (hb : b ∉ S) (hc : c ∉ S) (hd : d ∉ S) : ∀ j < 4, pick4 a b c d j ∉ S := fun j hj => by
  obtain rfl | rfl | rfl | rfl : j = 0 ∨ j = 1 ∨ j = 2 ∨ j = 3 := by omega
  · exact ha
  · exact hb
  · exact hc
  · exact hd
theorem pick4_inj {a b c d : Nat} (h1 : a < b) (h2 : b < c) (h3 : c < d) : ∀ i j, i < 4 → j < 4 → pick4 a b c d i = pick4 a b c d j → i = j := fun i j hi hj h => by
  obtain rfl | rfl | rfl | rfl : i = 0 ∨ i = 1 ∨ i = 2 ∨ i = 3 := by omega
  all_goals obtain rfl | rfl | rfl | rfl : j = 0 ∨ j = 1 ∨ j = 2 ∨ j = 3 := by omega
  all_goals simp only [pick4] at h
  all_goals omega
theorem out5 {a b c d e x : Nat} (ha : x ≠ a) (hb : x ≠ b) (hc : x ≠ c) (hd : x ≠ d) (he : x ≠ e) : x ∉ [a, b, c, d, e] := fun h => by
  rcases List.mem_cons.mp h with h | h
  · exact ha h
  rcases List.mem_cons.mp h with h | h
  · exact hb h
  rcases List.mem_cons.mp h with h | h
  · exact hc h
  rcases List.mem_cons.mp h with h | h
  · exact hd h
  rcases List.mem_cons.mp h with h | h
  · exact he h
  · cases h
/-- an address between the cells and the due list is none of the five that change -/
theorem mid5 {Lc Du I x : Nat} (h1 : Lc + 1 + 1 + 1 + 1 < x) (h2 : x < Du) (h3 : Du < I) : x ∉ [I, Lc + 1 + 1 + 1, Lc + 1 + 1 + 1 + 1, Lc, Du] :=
  out5 (by omega) (by omega) (by omega) (by omega) (by omega)
/-- the places of the objects of _law_due -/
structure Places (Lc R0 T0 R1 T1 R2 T2 R3 T3 O Du KL I : Nat) : Prop where
  nod : [I, Lc + 1 + 1 + 1, Lc + 1 + 1 + 1 + 1, Lc, Du].Nodup
  kl : KL ∉ [I, Lc + 1 + 1 + 1, Lc + 1 + 1 + 1 + 1, Lc, Du]
  c1 : Lc + 1 ∉ [I, Lc + 1 + 1 + 1, Lc + 1 + 1 + 1 + 1, Lc, Du]
  c2 : Lc + 1 + 1 ∉ [I, Lc + 1 + 1 + 1, Lc + 1 + 1 + 1 + 1, Lc, Du]
  o : O ∉ [I, Lc + 1 + 1 + 1, Lc + 1 + 1 + 1 + 1, Lc, Du]
  t : ∀ j < 4, pick4 T0 T1 T2 T3 j ∉ [I, Lc + 1 + 1 + 1, Lc + 1 + 1 + 1 + 1, Lc, Du]
  r : ∀ j < 4, pick4 R0 R1 R2 R3 j ∉ [I, Lc + 1 + 1 + 1, Lc + 1 + 1 + 1 + 1, Lc, Du]
  inj : ∀ i j, i < 4 → j < 4 → pick4 T0 T1 T2 T3 i = pick4 T0 T1 T2 T3 j → i = j
theorem places {Lc R0 T0 R1 T1 R2 T2 R3 T3 O Du KL I : Nat} (l0 : Lc + 1 + 1 + 1 + 1 < R0) (l1 : R0 < T0) (l2 : T0 < R1) (l3 : R1 < T1) (l4 : T1 < R2) (l5 : R2 < T2) (l6 : T2 < R3) (l7 : R3 < T3) (l8 : T3 < O) (l9 : O < Du) (l10 : Du < KL) (l11 : KL < I) : Places Lc R0 T0 R1 T1 R2 T2 R3 T3 O Du KL I := by
  have dI := Nat.lt_trans l10 l11
  have a1 := Nat.lt_trans l0 l1
  have a2 := Nat.lt_trans a1 l2
  have a3 := Nat.lt_trans a2 l3
  have a4 := Nat.lt_trans a3 l4
  have a5 := Nat.lt_trans a4 l5
  have a6 := Nat.lt_trans a5 l6
  have a7 := Nat.lt_trans a6 l7
  have a8 := Nat.lt_trans a7 l8
  have a9 := Nat.lt_trans a8 l9
  have b8 := Nat.lt_trans l8 l9
  have b7 := Nat.lt_trans l7 b8
  have b6 := Nat.lt_trans l6 b7
  have b5 := Nat.lt_trans l5 b6
  have b4 := Nat.lt_trans l4 b5
  have b3 := Nat.lt_trans l3 b4
  have b2 := Nat.lt_trans l2 b3
  have b1 := Nat.lt_trans l1 b2
  refine ⟨?_, ?_, ?_, ?_, mid5 a8 l9 dI, pick4_notin (mid5 a1 b2 dI) (mid5 a3 b4 dI) (mid5 a5 b6 dI) (mid5 a7 b8 dI), pick4_notin (mid5 l0 b1 dI) (mid5 a2 b3 dI) (mid5 a4 b5 dI) (mid5 a6 b7 dI), pick4_inj (Nat.lt_trans l2 l3) (Nat.lt_trans l4 l5) (Nat.lt_trans l6 l7)⟩
  · clear l0 l1 l2 l3 l4 l5 l6 l7 l8 l9 a1 a2 a3 a4 a5 a6 a7 a8 b8 b7 b6 b5 b4 b3 b2 b1
    simp only [List.nodup_cons, List.mem_cons, List.not_mem_nil, or_false, not_or, List.nodup_nil, and_true, not_false_eq_true]
    omega
  · clear l0 l1 l2 l3 l4 l5 l6 l7 l8 l9 a1 a2 a3 a4 a5 a6 a7 a8 b8 b7 b6 b5 b4 b3 b2 b1
    exact out5 (by omega) (by omega) (by omega) (by omega) (by omega)
  · clear l0 l1 l2 l3 l4 l5 l6 l7 l8 l9 a1 a2 a3 a4 a5 a6 a7 a8 b8 b7 b6 b5 b4 b3 b2 b1
    exact out5 (by omega) (by omega) (by omega) (by omega) (by omega)
  · clear l0 l1 l2 l3 l4 l5 l6 l7 l8 l9 a1 a2 a3 a4 a5 a6 a7 a8 b8 b7 b6 b5 b4 b3 b2 b1
    exact out5 (by omega) (by omega) (by omega) (by omega) (by omega)
theorem fnAt_92' {P : Params} {h : Heap} (H : (kmk.heap_1 P).In h) : ∃ o fd, h.get? 92 = some o ∧ o.data = .func fd := ⟨_, _, H 92 _ rfl, rfl⟩
theorem due (w : World) (mean : ExcName → Option Value) (mg mb : Str → Option Value) (dp un : Nat) (gd : Option (List Code)) (cn : Str) (cs : Scope) (a : Addr) (ccd : Value) (cl : List (Str × Addr)) (outer : List Env) (A₀ : Around) (base h₀ : Heap) (L : Addr) (m : Str → Option Value) (s : Shared) (Q E : Value → Shared → Prop)
    (B : Below A₀ base outer h₀) (F : Fr h₀ L s.heap m) (X : (kmk.heap_1 w.params).In h₀) (p0 : Program) (lo0 : List Str) (T : Top p0 lo0 mean mg mb h₀) (hk : cs.kind = .function)
    (hdp : dp + 2 < recursionLimit) (hu : un + 16 < cLine) (dr : Addr) (items : Array Value) (ns : List Int) (hl : s.heap.IsList dr items) (hns : All2 IntIs items.toList ns) (hsz : items.size ≤ 1000)
    (k : ∀ res h' tk' ys, Keep s.heap h' → h'.IsList res ys → All2 (Rep h') ys.toList ((dueOf ns).map toRel) → Q (.ref res) { s with heap := h', toks := tk' }) :
    wpAny (model prog w) (ktrTop dp un gd cn cs L a ccd cl outer) (call (.ref 102) [.ref dr]) Q E s := by
  have N : News h₀ L s.heap [] := News.nil
  refine wpAny_call ?_
  k_dflt (refine' codeAny_defC ?k1 ?k2 ?k3 ?k4 ?k5 ?kA ?kF ?kK ?k6 ?k7 ?k8 ?k9 ?kB ?kN ?_ ?c2 ?c3 ?c4; (case kA => exact rfl); (case kF => exact rfl); (case kK => assumption); (case k1 => k_asm); (case k2 => k_asm); (case k3 => k_asm); (case k4 => k_asm); (case k5 => k_asm); (case k6 => k_is); (case k7 => k_is); (case k8 => ktr_room); (case k9 => exact BindsTo.of_eq rfl); (case kN => decide); (case kB => exact kindsX rfl); (case c2 => exact rfl); (case c3 => exact rfl); (case c4 => exact rfl))
  intro g L' h₁ tk₁ cells FG F₁ N₁ Y B₁ X₁ T₁ _ hgs
  have hg : Keep s.heap g := fun b o e => hgs b o e (fun h => nomatch h)
  clear hgs X T N
  obtain ⟨o1, o2, o3, o4, rfl, ho1, ho2, ho3, ho4⟩ := CellsAre.four Y
  clear Y
  have N₂ : News g L' h₁ [(L' + 1 + 1 + 1 + 1, o1), (L' + 1 + 1 + 1, o2), (L' + 1 + 1, o3), (L' + 1, o4)] := N₁
  clear N₁
  generalize hm₁ : bindL _ _ _ = m₁ at F₁
  clear hm₁
  have ho1' : o1.data = .cell none := ho1
  have ho2' : o2.data = .cell none := ho2
  have ho3' : o3.data = .cell none := ho3
  have ho4' : o4.data = .cell (some (.ref dr)) := ho4
  clear ho1 ho2 ho3 ho4
  refine wpAny_execs_cons ?_
  refine @leafA Flow (model prog w) _ _ _ _ _ (fun f s' => IsNext f ∧ ∃ (O T0 T1 T2 T3 R0 R1 R2 R3 : Addr) (oo : Obj) (h : Heap) (m : Str → Option Value) (tk : Nat) (u0 u1 u2 u3 u4 u5 u6 u7 u8 u9 u10 u11 u12 u13 u14 u15 u16 u17 u18 u19 u20 u21 u22 u23 : Tok), s' = { s with heap := h, toks := tk } ∧ (@LT.lt Nat _ (L' + 1 + 1 + 1 + 1) R0 ∧ @LT.lt Nat _ R0 T0 ∧ @LT.lt Nat _ T0 R1 ∧ @LT.lt Nat _ R1 T1 ∧ @LT.lt Nat _ T1 R2 ∧ @LT.lt Nat _ R2 T2 ∧ @LT.lt Nat _ T2 R3 ∧ @LT.lt Nat _ R3 T3 ∧ @LT.lt Nat _ T3 O) ∧ oo.data = .cell (some (.ref O)) ∧ Fr g L' h m ∧ News g L' h [(O, listOf #[.ref T0, .ref T1, .ref T2, .ref T3] 0), (T3, { cls := .type "tuple", data := .seq #[.str (Str.ofString "1.10") u19, .ref R3] }), (R3, listOf #[.int 100 u20, .int 1 u21, .int 100 u22, .int 10 u23] 0), (T2, { cls := .type "tuple", data := .seq #[.str (Str.ofString "1.2-pl") u12, .ref R2] }), (R2, listOf #[.int 100 u13, .int 1 u14, .int 100 u15, .int 2 u16, .int 200 u17, .str (Str.ofString "pl") u18] 0), (T1, { cls := .type "tuple", data := .seq #[.str (Str.ofString "1.2rc") u5, .ref R1] }), (R1, listOf #[.int 100 u6, .int 1 u7, .int 100 u8, .int 2 u9, .int 50 u10, .str (Str.ofString "rc") u11] 0), (T0, { cls := .type "tuple", data := .seq #[.str (Str.ofString "1.2") u0, .ref R0] }), (R0, listOf #[.int 100 u1, .int 1 u2, .int 100 u3, .int 2 u4] 0), (L' + 1 + 1 + 1 + 1, o1), (L' + 1 + 1 + 1, o2), (L' + 1 + 1, oo), (L' + 1, o4)]) ?_ ?_
  · k_steps
    refine ⟨.mk, _, _, _, _, _, _, _, _, _, _, _, _, _, _, _, _, _, _, _, _, _, _, _, _, _, _, _, _, _, _, _, _, _, _, _, _, _, rfl, ?_, by assumption, by with_reducible assumption, by with_reducible assumption⟩
    refine ⟨?_, ?_, ?_, ?_, ?_, ?_, ?_, ?_, ?_⟩ <;> omega
  rintro _ _ ⟨⟨⟩, O, T0, T1, T2, T3, R0, R1, R2, R3, oo, h₃, m₃, tk₃, u0, u1, u2, u3, u4, u5, u6, u7, u8, u9, u10, u11, u12, u13, u14, u15, u16, u17, u18, u19, u20, u21, u22, u23, rfl, ⟨l0, l1, l2, l3, l4, l5, l6, l7, l8⟩, hoo, F₃, N₃⟩
  clear F₁ N₂ ho3'
  refine wpAny_execs_cons ?_
  refine @leafA Flow (model prog w) _ _ _ _ _ (fun f s' => IsNext f ∧ ∃ (Du : Addr) (h : Heap) (m : Str → Option Value) (tk : Nat), s' = { s with heap := h, toks := tk } ∧ @LT.lt Nat _ O Du ∧ Fr g L' h (fun y => if y = Str.ofString "due" then some (.ref Du) else m y) ∧ News g L' h [(Du, listOf #[] 0), (O, listOf #[.ref T0, .ref T1, .ref T2, .ref T3] 0), (T3, { cls := .type "tuple", data := .seq #[.str (Str.ofString "1.10") u19, .ref R3] }), (R3, listOf #[.int 100 u20, .int 1 u21, .int 100 u22, .int 10 u23] 0), (T2, { cls := .type "tuple", data := .seq #[.str (Str.ofString "1.2-pl") u12, .ref R2] }), (R2, listOf #[.int 100 u13, .int 1 u14, .int 100 u15, .int 2 u16, .int 200 u17, .str (Str.ofString "pl") u18] 0), (T1, { cls := .type "tuple", data := .seq #[.str (Str.ofString "1.2rc") u5, .ref R1] }), (R1, listOf #[.int 100 u6, .int 1 u7, .int 100 u8, .int 2 u9, .int 50 u10, .str (Str.ofString "rc") u11] 0), (T0, { cls := .type "tuple", data := .seq #[.str (Str.ofString "1.2") u0, .ref R0] }), (R0, listOf #[.int 100 u1, .int 1 u2, .int 100 u3, .int 2 u4] 0), (L' + 1 + 1 + 1 + 1, o1), (L' + 1 + 1 + 1, o2), (L' + 1 + 1, oo), (L' + 1, o4)]) ?_ ?_
  · k_steps
    refine ⟨.mk, _, _, _, _, rfl, ?_, by with_reducible assumption, by with_reducible assumption⟩
    omega
  rintro _ _ ⟨⟨⟩, Du, h₄, m₄, tk₄, rfl, l9, F₄, N₄⟩
  clear F₃ N₃
  refine wpAny_execs_cons ?_
  refine wpAny_For ?_ (fun _ => rfl)
  refine @leafA Value (model prog w) _ _ _ _ _ (fun v s' => ∃ (KL : Addr) (h : Heap) (tk : Nat) (k0 k1 k2 : Tok), v = .ref KL ∧ s' = { s with heap := h, toks := tk } ∧ @LT.lt Nat _ Du KL ∧ Fr g L' h (fun y => if y = Str.ofString "due" then some (.ref Du) else m₄ y) ∧ News g L' h ((KL, listOf #[.int 2 k0, .int 0 k1, .int 1 k2] 0) :: [(Du, listOf #[] 0), (O, listOf #[.ref T0, .ref T1, .ref T2, .ref T3] 0), (T3, { cls := .type "tuple", data := .seq #[.str (Str.ofString "1.10") u19, .ref R3] }), (R3, listOf #[.int 100 u20, .int 1 u21, .int 100 u22, .int 10 u23] 0), (T2, { cls := .type "tuple", data := .seq #[.str (Str.ofString "1.2-pl") u12, .ref R2] }), (R2, listOf #[.int 100 u13, .int 1 u14, .int 100 u15, .int 2 u16, .int 200 u17, .str (Str.ofString "pl") u18] 0), (T1, { cls := .type "tuple", data := .seq #[.str (Str.ofString "1.2rc") u5, .ref R1] }), (R1, listOf #[.int 100 u6, .int 1 u7, .int 100 u8, .int 2 u9, .int 50 u10, .str (Str.ofString "rc") u11] 0), (T0, { cls := .type "tuple", data := .seq #[.str (Str.ofString "1.2") u0, .ref R0] }), (R0, listOf #[.int 100 u1, .int 1 u2, .int 100 u3, .int 2 u4] 0), (L' + 1 + 1 + 1 + 1, o1), (L' + 1 + 1 + 1, o2), (L' + 1 + 1, oo), (L' + 1, o4)])) ?_ ?_
  · k_steps
    refine ⟨_, _, _, _, _, _, rfl, rfl, ?_, by with_reducible assumption, by with_reducible assumption⟩
    omega
  rintro _ _ ⟨KL, h₅, tk₅, k0, k1, k2, rfl, rfl, l10, F₅, N₅⟩
  clear F₄ N₄
  refine wpAny_pyIter_list (items := _) ⟨_, (N₅ _ (.head _)).1, rfl, 0, rfl⟩ ?_
  dsimp only
  have hKI : @LT.lt Nat _ KL h₅.objs.size := Heap.lt_size (N₅ _ (.head _)).1
  have F₆ := F₅.push { cls := .type "list_iterator", data := .fields #[.ref KL, .int 0 0] }
  have N₆ := News.push F₅ N₅ { cls := .type "list_iterator", data := .fields #[.ref KL, .int 0 0] }
  generalize hI : h₅.objs.size = I at hKI N₆ ⊢
  generalize ho : ({ cls := .type "list_iterator", data := .fields #[.ref KL, .int 0 0] } : Obj) = oI at F₆ N₆ ⊢
  have hit : oI.cls = .type "list_iterator" ∧ oI.data = .fields #[.ref KL, .int 0 0] := by rw [← ho]; exact ⟨rfl, rfl⟩
  generalize h₅.push oI = h₆ at F₆ N₆ ⊢
  clear ho hI F₅ N₅
  have GD : ∀ e : Env, e.locals = L' → ∀ A : Around, A.handled = none → (∀ h m, Keep g h → h.Ns L' m → RelCall w A h) → DueG w A e g mg mb dr items ns := fun e he A hA hR => ⟨hA, gnames X₁ T₁, ⟨T₁.g, T₁.b⟩, fun h m k n => hR h m k (he ▸ n), fnAt_92' X₁, isList_keep hl hg, hns, hsz⟩
  have PL := places l0 l1 l2 l3 l4 l5 l6 l7 l8 l9 l10 hKI
  have X₆ : DueH g h₆ [I, L' + 1 + 1 + 1, L' + 1 + 1 + 1 + 1, L', Du] L' I KL (L' + 1 + 1 + 1 + 1) (L' + 1 + 1 + 1) (L' + 1 + 1) (L' + 1) Du O (pick4 T0 T1 T2 T3) (pick4 R0 R1 R2 R3) (pick4 u0 u5 u12 u19) dr #[.int 2 k0, .int 0 k1, .int 1 k2] := {
    keep := F₆.keep
    Sis := rfl
    nod := PL.nod
    fresh := by
      intro b hb
      simp only [List.mem_cons, List.not_mem_nil, or_false] at hb
      rcases hb with rfl | rfl | rfl | rfl | rfl
      · exact (N₆ _ (.head _)).2.2
      · exact (N₆ (_, o2) (by simp)).2.2
      · exact (N₆ (_, o1) (by simp)).2.2
      · exact kts_self F₆
      · exact (N₆ _ (.tail _ (.tail _ (.head _)))).2.2
    kl := ⟨_, (N₆ _ (.tail _ (.head _))).1, rfl, 0, rfl⟩
    nkl := PL.kl
    isF := ⟨_, (N₆ (_, o4) (by simp)).1, ho4'⟩
    ncF := PL.c1
    isO := ⟨_, (N₆ (_, oo) (by simp)).1, hoo⟩
    ncO := PL.c2
    ord := ⟨⟨_, (N₆ _ (.tail _ (.tail _ (.tail _ (.head _))))).1, rfl, 0, rfl⟩, fun j hj => by
        obtain rfl | rfl | rfl | rfl : j = 0 ∨ j = 1 ∨ j = 2 ∨ j = 3 := by omega
        · exact ⟨_, (N₆ (T0, _) (by (repeat (first | exact List.Mem.head _ | apply List.Mem.tail)))).1, rfl, _, rfl⟩
        · exact ⟨_, (N₆ (T1, _) (by (repeat (first | exact List.Mem.head _ | apply List.Mem.tail)))).1, rfl, _, rfl⟩
        · exact ⟨_, (N₆ (T2, _) (by (repeat (first | exact List.Mem.head _ | apply List.Mem.tail)))).1, rfl, _, rfl⟩
        · exact ⟨_, (N₆ (T3, _) (by (repeat (first | exact List.Mem.head _ | apply List.Mem.tail)))).1, rfl, _, rfl⟩, fun j hj => by
        obtain rfl | rfl | rfl | rfl : j = 0 ∨ j = 1 ∨ j = 2 ∨ j = 3 := by omega
        · exact ⟨R0, u1, u2, u3, u4, 0, 0, 0, rfl, (N₆ (R0, _) (by (repeat (first | exact List.Mem.head _ | apply List.Mem.tail)))).1⟩
        · exact ⟨R1, u6, u7, u8, u9, u10, u11, 0, rfl, (N₆ (R1, _) (by (repeat (first | exact List.Mem.head _ | apply List.Mem.tail)))).1⟩
        · exact ⟨R2, u13, u14, u15, u16, u17, u18, 0, rfl, (N₆ (R2, _) (by (repeat (first | exact List.Mem.head _ | apply List.Mem.tail)))).1⟩
        · exact ⟨R3, u20, u21, u22, u23, 0, 0, 0, rfl, (N₆ (R3, _) (by (repeat (first | exact List.Mem.head _ | apply List.Mem.tail)))).1⟩⟩
    nO := PL.o
    nT := PL.t
    nR := PL.r
    injT := PL.inj }
  have J0 : DueJ h₆ [I, L' + 1 + 1 + 1, L' + 1 + 1 + 1 + 1, L', Du] L' I KL (L' + 1 + 1 + 1 + 1) (L' + 1 + 1 + 1) Du (pick4 R0 R1 R2 R3) ns [2, 0, 1] 0 h₆ :=
    ⟨fun _ _ _ e => e, ⟨_, (N₆ _ (.head _)).1, hit.1, hit.2⟩, ⟨_, _, (N₆ (_, o2) (by simp)).1, ho2'⟩, ⟨_, _, (N₆ (_, o1) (by simp)).1, ho1'⟩, ⟨_, F₆.ns, if_pos rfl⟩, #[], ⟨0, (N₆ _ (.tail _ (.tail _ (.head _)))).1⟩, Nat.le_refl _, All2.nil⟩
  clear N₆ hit
  refine codeAny_loopC (w := w) (s := s) (items := #[.int 2 k0, .int 0 k1, .int 1 k2]) (l := KL) (I := I) (c := L' + 1 + 1 + 1) (J := DueJ h₆ [I, L' + 1 + 1 + 1, L' + 1 + 1 + 1 + 1, L', Du] L' I KL (L' + 1 + 1 + 1 + 1) (L' + 1 + 1 + 1) Du (pick4 R0 R1 R2 R3) ns [2, 0, 1]) rfl ⟨rfl, rfl, rfl⟩ rfl rfl ?hJ ?turn ?fin 3 0 h₆ tk₅ rfl (Nat.zero_le _) J0
  case hJ => exact fun i h j => ⟨j.2.1, (X₆.st j.1).kl, j.2.2.1⟩
  case turn =>
    intro i v h tk h' hx hj hit hck kb
    have hi : i < 3 := by
      by_cases q : i < 3
      · exact q
      · rw [Array.getElem?_eq_none (by simp; omega)] at hx; cases hx
    obtain ⟨t, hv⟩ : ∃ t, v = .int (([2, 0, 1].getD i 0 : Nat) : Int) t := by
      obtain rfl | rfl | rfl : i = 0 ∨ i = 1 ∨ i = 2 := by omega
      · cases hx; exact ⟨_, rfl⟩
      · cases hx; exact ⟨_, rfl⟩
      · cases hx; exact ⟨_, rfl⟩
    subst hv
    refine turn_due (w := w) (s := s) (T := pick4 T0 T1 T2 T3) (R := pick4 R0 R1 R2 R3) (u := pick4 u0 u5 u12 u19) (g := g) (h₆ := h₆) (k := [2, 0, 1].getD i 0) (clT := [(Str.ofString "k", L' + 1 + 1 + 1), (Str.ofString "fleet", L' + 1)]) (clJ := [(Str.ofString "order", L' + 1 + 1), (Str.ofString "counts", L' + 1 + 1 + 1 + 1)]) (cO := L' + 1 + 1) (cF := L' + 1) (O := O) (dr := dr) (items := items) (mg := mg) (mb := mb) (KL := KL) (ks := #[.int 2 k0, .int 0 k1, .int 1 k2]) ?V ?C ?GD ?X6 ?s1 ?s2 ?s3 ?li ?k3 ?i9 ?ki hj hit hck kb
    case V => exact ⟨⟨rfl, rfl, rfl⟩, rfl, rfl, rfl, rfl, rfl, rfl, rfl, rfl, rfl, rfl, rfl, rfl⟩
    case C => exact ⟨rfl, rfl, rfl, fun _ => rfl, fun _ => rfl, fun CT C => ⟨[(Str.ofString "text", CT), (Str.ofString "k", L' + 1 + 1 + 1)], rfl, rfl, rfl, fun _ => ⟨rfl, rfl, rfl, rfl⟩⟩, fun _ _ => ⟨rfl, rfl, rfl, rfl⟩, rfl, rfl, rfl, fun _ => ⟨rfl, rfl, rfl, rfl⟩⟩
    case GD => exact GD _ rfl _ rfl (fun h₁ m k n s n' t Q E k1 kk => rel0 w mean mg mb (dp + 1) (un + 3) gd _ _ _ _ _ _ _ base g L' m s Q E n' t B₁ ⟨n.keeps k1, k.trans k1, F₆.above⟩ X₁ p0 lo0 T₁ rfl (by omega) (by omega) kk)
    case X6 => exact X₆
    case s1 => exact fun _ => rfl
    case s2 => exact fun _ => rfl
    case s3 => exact fun _ => rfl
    case li => rfl
    case k3 =>
      obtain rfl | rfl | rfl : i = 0 ∨ i = 1 ∨ i = 2 := by omega
      all_goals decide
    case i9 => omega
    case ki =>
      obtain rfl | rfl | rfl : i = 0 ∨ i = 1 ∨ i = 2 := by omega
      all_goals rfl
  case fin =>
    rintro h h' tk ⟨j1, _, _, _, ⟨m9, hn9, hm9⟩, dus, hD, hz, hall⟩ hs
    have X9 := X₆.st j1
    have nI := X9.nod
    simp only [List.nodup_cons, List.mem_cons, List.not_mem_nil, or_false, not_or] at nI
    have bI : KeepBut [I, L' + 1 + 1 + 1, L' + 1 + 1 + 1 + 1, L', Du] h h' := KeepBut.one (.head _) hs
    have X10 := X9.st bI
    show wpAny _ _ (execs _ _) _ _ _
    refine wpAny_execs_cons ?_
    refine wpAny_Return_some ?_
    refine name_local (s := { s with heap := h', toks := tk }) ⟨rfl, rfl, rfl⟩ rfl (hn9.at fun o => hs _ o (Ne.symm nI.1.2.2.1)) hm9 ?_
    refine k Du h' tk dus (hg.trans X10.keep) ((hD.at fun o => hs _ o (Ne.symm nI.1.2.2.2)).isList) ?_
    exact reps_out X10.ord.ver (hall.mono fun v x => RepR.keep bI)
end Mine
end
/- Law2 -/
section
open PySem PySem.W PySem.W.X PyProof.Rows PySem.Calls
namespace Mine
set_option maxRecDepth 100000
set_option maxHeartbeats 400000
theorem med_mem {low : Bool} {rs : List Nat} {r : Nat} (h : IsMed low rs r) (hne : rs ≠ []) : r ∈ rs := by
  obtain ⟨rs', hp, _, rfl⟩ := h
  have hl := hp.length_eq
  have hpos : 0 < rs.length := List.length_pos_iff.mpr hne
  have hi : (if low then (rs'.length - 1) / 2 else rs'.length / 2) < rs'.length := by cases low <;> simp <;> omega
  refine hp.mem_iff.mp ?_
  rw [List.getD_eq_getElem?_getD, List.getElem?_eq_getElem hi]
  exact List.getElem_mem hi
theorem ord_pos {r : Nat} (h : r < 4) : ordRel (rpos r) = r ∧ rpos r < 4 := by
  obtain rfl | rfl | rfl | rfl : r = 0 ∨ r = 1 ∨ r = 2 ∨ r = 3 := by omega
  all_goals exact ⟨rfl, by decide⟩
/-- the counts of the releases, summed up to a place in the order -/
theorem zs_pre (k : Nat) (ns : List Int) : (zsOf k ns).sum = ((ranks k ns).length : Int) ∧ ∀ j < 4, ((zsOf k ns).take (j + 1)).sum = ((ranks k ns).countP (fun x => decide (rpos x ≤ j)) : Int) := by
  obtain ⟨c0, c1, c2, c3, c4⟩ := countP_pre (rs := ranks k ns) ranks_lt
  unfold zsOf cnt
  refine ⟨?_, fun j hj => ?_⟩
  · simp only [List.sum_cons, List.sum_nil, ordRel]
    omega
  · obtain rfl | rfl | rfl | rfl : j = 0 ∨ j = 1 ∨ j = 2 ∨ j = 3 := by omega
    · rw [c0]; simp [ordRel]
    · rw [c1]; simp [ordRel]
    · rw [c2]; simp [ordRel]; omega
    · rw [c3]; simp [ordRel]; omega
theorem filter_ge_head {n : Nat} (h : n < 4) : ((List.range 4).filter fun j => decide (n ≤ j)).headD 0 = n := by
  obtain rfl | rfl | rfl | rfl : n = 0 ∨ n = 1 ∨ n = 2 ∨ n = 3 := by omega
  all_goals decide
theorem low_is {k : Nat} {ns : List Int} {r : Nat} (h : IsMed true (ranks k ns) r) (hne : ranks k ns ≠ []) : ordRel ((passes fLow (zsOf k ns)).headD 0) = r := by
  have h4 : r < 4 := ranks_lt r (med_mem h hne)
  obtain ⟨z, zj⟩ := zs_pre k ns
  have e : passes fLow (zsOf k ns) = (List.range 4).filter fun j => decide (rpos r ≤ j) := by
    unfold passes
    refine List.filter_congr fun j hj => ?_
    have hj4 := List.mem_range.mp hj
    unfold fLow
    rw [z, zj j hj4]
    refine decide_eq_decide.mpr ?_
    rw [med_low_is h hne j]
    omega
  rw [e, filter_ge_head (ord_pos h4).2]
  exact (ord_pos h4).1
theorem high_is {k : Nat} {ns : List Int} {r : Nat} (h : IsMed false (ranks k ns) r) (hne : ranks k ns ≠ []) : ordRel ((passes fHigh (zsOf k ns)).headD 0) = r := by
  have h4 : r < 4 := ranks_lt r (med_mem h hne)
  obtain ⟨z, zj⟩ := zs_pre k ns
  have e : passes fHigh (zsOf k ns) = (List.range 4).filter fun j => decide (rpos r ≤ j) := by
    unfold passes
    refine List.filter_congr fun j hj => ?_
    have hj4 := List.mem_range.mp hj
    unfold fHigh
    rw [z, zj j hj4]
    refine decide_eq_decide.mpr ?_
    rw [med_high_is h hne j]
    omega
  rw [e, filter_ge_head (ord_pos h4).2]
  exact (ord_pos h4).1
theorem used_key {ns : List Int} {k : Nat} (h : ranks k ns ≠ []) : k ∈ keysOf ns := by
  have h1 : ∃ n ∈ ns, kindOf n = k := by
    by_cases q : ∃ n ∈ ns, kindOf n = k
    · exact q
    · exfalso
      apply h
      unfold ranks
      refine List.flatMap_eq_nil_iff.mpr fun n hn => ?_
      rw [if_neg fun e => q ⟨n, hn, e⟩]
  have add_keep : ∀ (l : List Int) (ks : List Nat) (k : Nat), k ∈ ks → k ∈ l.foldl addKey ks := by
    intro l
    induction l with
    | nil => intro ks k h; exact h
    | cons n l ih =>
      intro ks k h
      refine ih _ _ ?_
      unfold addKey
      split
      · exact h
      · exact List.mem_append_left _ h
  have main : ∀ (l : List Int) (ks : List Nat) (n : Int), n ∈ l → kindOf n ∈ l.foldl addKey ks := by
    intro l
    induction l with
    | nil => intro ks n h; cases h
    | cons a l ih =>
      intro ks n h
      rcases List.mem_cons.mp h with rfl | h
      · refine add_keep l _ _ ?_
        unfold addKey
        split
        · assumption
        · exact List.mem_append_right _ (.head _)
      · exact ih _ n h
  obtain ⟨n, hn, rfl⟩ := h1
  exact main ns [] n hn
/-- the law's two sides name the same systems -/
theorem due_keys {ns : List Int} {r : List Int} (h5 : ns = 5 :: 24 :: 40 :: r) : dueOf ns = (skeys (keysOf ns)).map fun k => (k, (passes fLow (zsOf k ns)).headD 0, (passes fHigh (zsOf k ns)).headD 0) := by
  have pos : ∀ k, 0 < (zsOf k ns).sum ↔ k ∈ keysOf ns := fun k => by
    rw [(zs_pre k ns).1]
    constructor
    · intro h
      refine used_key fun e => ?_
      rw [e] at h; simp at h
    · intro h
      have := List.length_pos_iff.mpr (key_used h)
      omega
  have hk := keys_of_three r
  rw [← h5] at hk
  unfold dueOf dueAt skeys
  simp only [pos, List.flatMap_cons, List.flatMap_nil, List.append_nil]
  rcases hk with hk | hk <;> rw [hk] <;> simp
theorem reps_of {ns : List Int} {ex : List Addr} {h : Heap} {names ys : List Value} {ks : List Nat} (hn : All2 NameIs names ks) (hk : ∀ k ∈ ks, k < 3 ∧ ranks k ns ≠ []) (hy : All2 (TupOf ns ex h) names ys) :
    All2 (Rep h) ys ((ks.map fun k => (k, (passes fLow (zsOf k ns)).headD 0, (passes fHigh (zsOf k ns)).headD 0)).map toRel) := by
  induction hn generalizing ys with
  | nil => cases hy; exact .nil
  | cons e _ ih =>
    rename_i v k l r _
    cases hy with
    | cons x hy =>
      refine .cons ?_ (ih (fun k hk' => hk k (.tail _ hk')) hy)
      obtain ⟨k', t, tp, n, lo, hi, rl, rh, k3, e1, e2, _, g, v1, v2, m1, m2⟩ := x
      obtain ⟨t0, e0⟩ := e
      obtain ⟨hk3, hne⟩ := hk k (.head _)
      rw [e1] at e0
      have ek : k' = k := nameOf_inj k3 hk3 (Value.str.inj e0).1
      subst ek
      refine ⟨tp, t, lo, hi, e2, ⟨_, g, rfl, n, rfl⟩, ?_, ?_⟩
      · show VerH h lo (ordRel _)
        rw [low_is m1 hne]
        obtain ⟨a, t1, t2, t3, t4, t5, t6, c, e, _, g⟩ := v1
        exact ⟨a, t1, t2, t3, t4, t5, t6, c, e, g⟩
      · show VerH h hi (ordRel _)
        rw [high_is m2 hne]
        obtain ⟨a, t1, t2, t3, t4, t5, t6, c, e, _, g⟩ := v2
        exact ⟨a, t1, t2, t3, t4, t5, t6, c, e, g⟩
/-- the plain law: the two sides tell the same -/
theorem plain_law {ns : List Int} {ex : List Addr} {h : Heap} {names ys : List Value} {r : List Int} (h5 : ns = 5 :: 24 :: 40 :: r) (hn : All2 NameIs names (skeys (keysOf ns))) (hy : All2 (TupOf ns ex h) names ys) : All2 (Rep h) ys ((dueOf ns).map toRel) := by
  rw [due_keys h5]
  refine reps_of hn (fun k hk => ?_) hy
  have hks := keys_of_three r
  rw [← h5] at hks
  have := skeys_sub hks k hk
  exact ⟨keysOf_lt ns k this, key_used this⟩
end Mine
end
/- FlC1 -/
section
open PySem PySem.W PySem.W.X PyProof.Rows PySem.Calls
namespace Mine
set_option maxRecDepth 100000
set_option maxHeartbeats 4000000
theorem fnAt_51 {P : Params} {h : Heap} (H : (kmk.heap_1 P).In h) : ∃ o fd, h.get? 51 = some o ∧ o.data = .func fd := ⟨_, _, H 51 _ rfl, rfl⟩
theorem fnAt_85 {P : Params} {h : Heap} (H : (kmk.heap_1 P).In h) : ∃ o fd, h.get? 85 = some o ∧ o.data = .func fd := ⟨_, _, H 85 _ rfl, rfl⟩
theorem fnAt_92 {P : Params} {h : Heap} (H : (kmk.heap_1 P).In h) : ∃ o fd, h.get? 92 = some o ∧ o.data = .func fd := ⟨_, _, H 92 _ rfl, rfl⟩
theorem fnAt_44 {P : Params} {h : Heap} (H : (kmk.heap_1 P).In h) : ∃ o fd, h.get? 44 = some o ∧ o.data = .func fd := ⟨_, _, H 44 _ rfl, rfl⟩
/-- _comparable_version, for each of the four releases -/
theorem wpG_ver (w : World) {mean : ExcName → Option Value} {mg mb : Str → Option Value} {dp un : Nat} {gd : Option (List Code)} {cn : Str} {cs : Scope} {a : Addr} {ccd : Value} {cl : List (Str × Addr)} {outer : List Env} {A₀ : Around} {base h₀ : Heap} {L : Addr} {m : Str → Option Value} {s : Shared} {Q : Value → Shared → Prop} {t : Tok}
    {W : Where} (hΓ : W.ctx.In (ktrTop dp un gd cn cs L a ccd cl outer)) {tab : Array Value} (KX : KnowIn w s.heap) (htab : s.heap.get? 46 = some (tableObj tab))
    (B : Below A₀ base outer h₀) (F : Fr h₀ L s.heap m) (XB : (kmk.heap_1 w.params).In base) {p0 : Program} {lo0 : List Str} (TB : Top p0 lo0 mean mg mb base) (hk : cs.kind = .function)
    (hdp : dp + 1 < recursionLimit) (hu : un + 8 < cLine) (r : Nat) (hr : r < 4)
    (k : ∀ l h' tk' t1 t2 t3 t4 t5 t6 c, CvKeep ((envX cn cs L a ccd cl :: outer).filterMap (·.frame)) s.heap h' → s.heap.get? l = none → h'.get? l = some (listOf (verArr r t1 t2 t3 t4 t5 t6) c) → Q (.ref l) { s with heap := h', toks := tk' }) :
    wpG (model prog w) W.ctx (call (.ref 44) [.str (Str.ofString (relText r)) t]) Q noE s := by
  have X : (kmk.heap_1 w.params).In h₀ := XB.keeps B.stays
  have T : Top p0 lo0 mean mg mb h₀ := TB.keeps B.stays
  obtain rfl | rfl | rfl | rfl : r = 0 ∨ r = 1 ∨ r = 2 ∨ r = 3 := by omega
  · exact wpG_any hΓ (ver0 w mean mg mb dp un gd cn cs a ccd cl outer A₀ base h₀ L m s Q noE t B F X p0 lo0 T hk hdp hu fun l h' tk' t1 t2 t3 t4 c k1 k2 k3 => k l h' tk' t1 t2 t3 t4 0 0 c ⟨fun b o e _ => k1 b o e, fun b o e _ => ⟨o.slots, k1 b o e⟩⟩ k2 k3)
  · exact wpG_any hΓ (ver1 w mean mg mb dp un gd cn cs a ccd cl outer A₀ base h₀ L m s Q noE t B F X p0 lo0 T hk hdp hu fun l h' tk' t1 t2 t3 t4 c k1 k2 k3 => k l h' tk' t1 t2 t3 t4 0 0 c ⟨fun b o e _ => k1 b o e, fun b o e _ => ⟨o.slots, k1 b o e⟩⟩ k2 k3)
  · exact ver2 w mean mg mb dp un gd cn cs a ccd cl outer A₀ base h₀ L m s Q t W hΓ tab KX htab B F XB p0 lo0 TB hk hdp hu k
  · exact ver3 w mean mg mb dp un gd cn cs a ccd cl outer A₀ base h₀ L m s Q t W hΓ tab KX htab B F XB p0 lo0 TB hk hdp hu k
/-- what holds in the loop of the fleet -/
structure LI (w : World) (A₀ : Around) (base g : Heap) (outer : List Env) (L dr D C I : Addr) (odr oc : Obj) (s : Shared) (k : Nat) (done : List Int) (h : Heap) (gs : Array GenState) (m : Str → Option Value) (h₀ : Heap) (oI oD : Obj) (tab : Array Value) (kvs : List (Str × Value)) (rest : List (Addr × Obj)) : Prop where
  T : KtsTurn (outer.filterMap (·.frame)) g h₀
  B : Below A₀ base outer h₀
  F : Fr h₀ L h m
  N : News h₀ L h ((I, oI) :: (dr, odr) :: (46, tableObj tab) :: (D, oD) :: (C, oc) :: rest)
  it : itObj oI dr k
  dict : oD.IsDictOf (PySem.strKind prog w) kvs
  desc : Desc rest kvs done
  tab : (tab = #[] ∧ done = []) ∨ ∃ c, tab = tabB c
  far : ∀ q ∈ rest, q.1 ≠ I ∧ q.1 ≠ 46 ∧ q.1 ≠ D
  gens : ∃ j, gs = s.gens ++ Array.replicate j .finished
theorem led_swap {a b c : Addr × Obj} {l : List (Addr × Obj)} : ∀ q ∈ c :: a :: b :: l, q ∈ a :: b :: c :: l := fun q hq => by
  simp only [List.mem_cons] at hq ⊢
  rcases hq with h | h | h | h
  · exact .inr (.inr (.inl h))
  · exact .inl h
  · exact .inr (.inl h)
  · exact .inr (.inr (.inr h))
theorem led_swap' {a b c : Addr × Obj} {l : List (Addr × Obj)} : ∀ q ∈ a :: b :: c :: l, q ∈ c :: a :: b :: l := fun q hq => by
  simp only [List.mem_cons] at hq ⊢
  rcases hq with h | h | h | h
  · exact .inr (.inl h)
  · exact .inr (.inr (.inl h))
  · exact .inl h
  · exact .inr (.inr (.inr h))
/-- the ledger's new objects go behind -/
theorem led_back {n1 n2 n3 n4 n5 a b c d e : Addr × Obj} {l : List (Addr × Obj)} : ∀ q ∈ a :: b :: c :: d :: e :: n1 :: n2 :: n3 :: n4 :: n5 :: l, q ∈ n1 :: n2 :: n3 :: n4 :: n5 :: a :: b :: c :: d :: e :: l := fun q hq => by
  simp only [List.mem_cons] at hq ⊢
  rcases hq with h | h | h | h | h | h | h | h | h | h | h <;> simp [h]
section
variable {w : World} {A A₀ : Around} {base g : Heap} {outer : List Env} {L dr D C I a : Addr} {odr oc : Obj} {s : Shared} {ns : List Int} {name : Str} {scope : Scope} {cd : Value} {cl : List (Str × Addr)} {W : Where} {x : Str} {tp : Pos} {body : List Stmt} {Q : Flow → Shared → Prop}
theorem fleet_loop (hc : W.ctx.code = .forLoop (.Name x tp) (.ref I) body [] (envX name scope L a cd cl)) (hΓ : W.ctx.In A) (hB : W.ctx.Below A) (hh : A.handled = none) (hk : scope.kind = .function) (hl : (envX name scope L a cd cl).kindOf x = some .local)
    (hdI : @LT.lt Nat _ dr I) (h46 : @LT.lt Nat _ 46 I) (hDI : @LT.lt Nat _ D I) (hCI : @LT.lt Nat _ C I) (hns : IntList odr ns)
    (turn : ∀ (done todo : List Int) (n : Int) (t : Tok) (h : Heap) (tk : Nat) (gs : Array GenState) (m : Str → Option Value) (h₀ : Heap) (oI oD : Obj) (tab : Array Value) (kvs : List (Str × Value)) (rest : List (Addr × Obj)) (P : Flow → Shared → Prop), ns = done ++ n :: todo →
      LI w A₀ base g outer L dr D C I odr oc s (done.length + 1) done h gs (fun y => if y = x then some (.int n t) else m y) h₀ oI oD tab kvs rest →
      (∀ h' tk' gs' m' h₀' oI' oD' tab' kvs' rest', LI w A₀ base g outer L dr D C I odr oc s (done.length + 1) (done ++ [n]) h' gs' m' h₀' oI' oD' tab' kvs' rest' → P .next { s with heap := h', toks := tk', gens := gs' }) →
      wpG (model prog w) W.ctx (execs body (envX name scope L a cd cl)) P noE { s with heap := h, toks := tk, gens := gs })
    (fin : ∀ h tk gs m h₀ oD tab kvs rest, KtsTurn (outer.filterMap (·.frame)) g h₀ → Below A₀ base outer h₀ → Fr h₀ L h m → News h₀ L h ((46, tableObj tab) :: (D, oD) :: (C, oc) :: (dr, odr) :: rest) → oD.IsDictOf (PySem.strKind prog w) kvs → Desc rest kvs ns → (∀ q ∈ rest, q.1 ≠ I ∧ q.1 ≠ 46 ∧ q.1 ≠ D) → (∃ j, gs = s.gens ++ Array.replicate j .finished) →
      (tab = #[] ∧ ns = [] ∨ ∃ c, tab = tabB c) → h.get? dr = some odr → Q .next { s with heap := h, toks := tk, gens := gs }) :
    ∀ (todo done : List Int) (h : Heap) (tk : Nat) (gs : Array GenState) (m : Str → Option Value) (h₀ : Heap) (oI oD : Obj) (tab : Array Value) (kvs : List (Str × Value)) (rest : List (Addr × Obj)), ns = done ++ todo →
      LI w A₀ base g outer L dr D C I odr oc s done.length done h gs m h₀ oI oD tab kvs rest → okC (model prog w) W.ctx Q { s with heap := h, toks := tk, gens := gs } := by
  intro todo
  induction todo with
  | nil =>
    intro done h tk gs m h₀ oI oD tab kvs rest e Z
    obtain ⟨items, nd, hod, hsz, hits⟩ := hns.data
    rw [List.append_nil] at e
    subst e
    have hdr := (Z.N _ (.tail _ (.head _))).1
    refine okC_turns_endX hc hΓ hB hh Z.F Z.N Z.it hns.cls hod (Nat.ne_of_lt hdI) (fun q hq => ?_) (by rw [Array.getElem?_eq_none]; omega) (fun h' F' N' => ?_)
    · rcases List.mem_cons.mp hq with rfl | hq
      · exact Nat.ne_of_lt h46
      rcases List.mem_cons.mp hq with rfl | hq
      · exact Nat.ne_of_lt hDI
      rcases List.mem_cons.mp hq with rfl | hq
      · exact Nat.ne_of_lt hCI
      · exact (Z.far q hq).1
    · exact fin h' tk gs m h₀ oD tab kvs rest Z.T Z.B F' (news_sub N' fun q hq => by simp only [List.mem_cons] at hq ⊢; rcases hq with h | h | h | h | h <;> simp [h]) Z.dict Z.desc Z.far Z.gens Z.tab (N' _ (.head _)).1
  | cons n todo ih =>
    intro done h tk gs m h₀ oI oD tab kvs rest e Z
    obtain ⟨items, nd, hod, hsz, hits⟩ := id hns.data
    have hlt : done.length < ns.length := by rw [e]; simp
    obtain ⟨t, ht⟩ := hits done.length hlt
    have hn : ns[done.length] = n := by simp [e]
    rw [hn] at ht
    refine okC_turnX hc hΓ Z.F Z.N Z.it hns.cls hod (Nat.ne_of_lt hdI) (fun q hq => ?_) ht (fun h' oI' tk' hit' F' N' => ?_) hk hl
    · rcases List.mem_cons.mp hq with rfl | hq
      · exact Nat.ne_of_lt h46
      rcases List.mem_cons.mp hq with rfl | hq
      · exact Nat.ne_of_lt hDI
      rcases List.mem_cons.mp hq with rfl | hq
      · exact Nat.ne_of_lt hCI
      · exact (Z.far q hq).1
    · refine turn done todo n t h' tk' gs m h₀ oI' oD tab kvs rest _ e ⟨Z.T, Z.B, F', N', hit', Z.dict, Z.desc, Z.tab, Z.far, Z.gens⟩ (fun h' tk' gs' m' h₀' oI' oD' tab' kvs' rest' Z' => ?_)
      refine ih (done ++ [n]) h' tk' gs' m' h₀' oI' oD' tab' kvs' rest' (by rw [e]; simp) ?_
      simpa using Z'
end
end Mine
end
/- FlC -/
section
open PySem PySem.W PySem.W.X PyProof.Rows PySem.Calls
namespace Mine
set_option maxRecDepth 100000
set_option maxHeartbeats 4000000
theorem fillF : PySem.Challenge.rw_mr0145_01 = PySem.Challenge.rw_mr0145_01 ∧ Mine.kmk.heap_1 = Mine.kmk.heap_1 := by k_fill; exact ⟨rfl, rfl⟩
theorem fleets (w : World) (mean : ExcName → Option Value) (mg mb : Str → Option Value) (dp un : Nat) (gd : Option (List Code)) (cn : Str) (cs : Scope) (a : Addr) (ccd : Value) (A₀ : Around) (base h₀ : Heap) (L : Addr) (m : Str → Option Value) (s : Shared) (Q : Value → Shared → Prop)
    (bL : List Stmt) (eL : Env) (own past : Option Value) (p3 : Pos) (hΓ : (⟨.func bL eL, none, own, [(.builtin "claim.caller" {}, p3)], past⟩ : Ctx).In (ktrTop dp un gd cn cs L a ccd [] []))
    (B : Below A₀ base [] h₀) (F : Fr h₀ L s.heap m) (XB : (kmk.heap_1 w.params).In base) (KB : KnowIn w base) (p0 : Program) (lo0 : List Str) (TB : Top p0 lo0 mean mg mb base) (hk : cs.kind = .function)
    (hdp : dp + 2 < recursionLimit) (hu : un + 16 < cLine) (dr : Addr) (odr : Obj) (ns : List Int) (hns : IntList odr ns) (hlen : ns.length ≤ 8) (h5 : ∃ r, ns = 5 :: 24 :: 40 :: r)
    (N : News h₀ L s.heap [(46, tableObj #[]), (dr, odr)]) (hdr : dr ≠ 46)
    (k : ∀ (res : Addr) (h' : Heap) (tk' j : Nat) (ys : Array Value) (names : List Value) (ex : List Addr), Fr h₀ L h' m → (∃ tab', h'.get? 46 = some (tableObj tab')) → h'.get? dr = some odr → h'.IsList res ys → h₀.get? res = none → All2 NameIs names (skeys (keysOf ns)) → All2 (TupOf ns ex h') names ys.toList →
      Q (.ref res) { s with heap := h', toks := tk', gens := s.gens ++ Array.replicate j .finished }) :
    wpG (model prog w) ⟨.func bL eL, none, own, [(.builtin "claim.caller" {}, p3)], past⟩ (call (.ref 97) [.ref dr]) Q noE s := by
  refine wpG_call fun p => ?_
  have hB : (Ctx.enter ⟨.func bL eL, none, own, [(.builtin "claim.caller" {}, p3)], past⟩ (.call (.ref 97) ⟨[.ref dr], []⟩) none p).Below (ktrTop dp un gd cn cs L a ccd [] []) := hΓ.enter _ none p (by simp)
  have X : (kmk.heap_1 w.params).In h₀ := XB.keeps B.stays
  have T : Top p0 lo0 mean mg mb h₀ := TB.keeps B.stays
  k_dflt (refine' okC_defC rfl ?kΓ ?k1 ?k2 ?k3 ?k4 ?k5 ?kA ?kF ?kK ?k6 ?k7 ?k8 ?k9 ?kB ?kN ?_ ?c2 ?c3 ?c4; (case kΓ => assumption); (case kA => exact rfl); (case kF => exact rfl); (case kK => assumption); (case k1 => k_asm); (case k2 => k_asm); (case k3 => k_asm); (case k4 => k_asm); (case k5 => k_asm); (case k6 => k_is); (case k7 => k_is); (case k8 => ktr_room); (case k9 => exact BindsTo.of_eq rfl); (case kN => decide); (case kB => exact kindsX rfl); (case c2 => exact rfl); (case c3 => exact rfl); (case c4 => exact rfl))
  intro g L' h₁ tk₁ cells FG F₁ N₁ Y B₁ X₁ T₁ hlt _ hΓ₂
  clear X T
  obtain ⟨oc, rfl, hoc⟩ := CellsAre.one (c := L' + 1) (n := Str.ofString "fleets") Y
  clear Y
  have F₂ := fr_norm (x := Str.ofString "fleet") (v := .ref dr) F₁ rfl
  generalize hm₁ : bindL _ _ _ = m₁ at F₂
  clear hm₁ F₁
  have N₂ : News g L' h₁ [(L' + 1, oc), (46, tableObj #[]), (dr, odr)] := N₁
  have l46 : @LT.lt Nat _ 46 L' := hlt (46, tableObj #[]) (.head _)
  have ldr : @LT.lt Nat _ dr L' := hlt (dr, odr) (.tail _ (.head _))
  clear N₁ hlt N
  refine wpG_execs_cons ?_
  refine leaf (fun f s' => IsNext f ∧ ∃ (D : Addr) (oD oc : Obj) (h : Heap) (tk : Nat), s' = { s with heap := h, toks := tk } ∧ @LT.lt Nat _ (L' + 1) D ∧ oD.IsDictOf (PySem.strKind prog w) [] ∧ oc.data = .cell (some (.ref D)) ∧ Fr g L' h (fun y => if y = Str.ofString "fleet" then some (.ref dr) else m₁ y) ∧ (D == sysModules) = false ∧ News g L' h [(D, oD), (L' + 1, oc), (46, tableObj #[]), (dr, odr)]) hΓ₂ ?_ ?_
  · k_steps
    refine ⟨.mk, _, _, _, _, _, rfl, ?_, by assumption, by assumption, by with_reducible assumption, by assumption, by with_reducible assumption⟩
    omega
  rintro _ _ ⟨⟨⟩, D, oD, oc', h₃, tk₃, rfl, lD, hD, hoc', F₃, lo, N₃⟩
  clear F₂ N₂
  refine wpG_execs_cons ?_
  refine wpG_For ?_ (fun _ => rfl)
  refine wpG_any hΓ₂ (nameX_L F₃ rfl ?_)
  obtain ⟨items, nd, hod, hsz, hits⟩ := hns.data
  refine wpG_any hΓ₂ (wpAny_pyIter_list (items := items) ⟨_, (N₃ _ (.tail _ (.tail _ (.tail _ (.head _))))).1, hns.cls, nd, hod⟩ ?_)
  have hDI : @LT.lt Nat _ D h₃.objs.size := Heap.lt_size (N₃ _ (.head _)).1
  have F₄ := F₃.push { cls := .type "list_iterator", data := .fields #[.ref dr, .int 0 0] }
  have N₄ := News.push F₃ N₃ { cls := .type "list_iterator", data := .fields #[.ref dr, .int 0 0] }
  generalize hI : h₃.objs.size = I at hDI N₄ ⊢
  generalize ho : ({ cls := .type "list_iterator", data := .fields #[.ref dr, .int 0 0] } : Obj) = oI at F₄ N₄ ⊢
  have hit : itObj oI dr 0 := by rw [← ho]; exact ⟨rfl, rfl⟩
  generalize h₃.push oI = h₄ at F₄ N₄ ⊢
  clear ho hI F₃ N₃
  intro p₂
  refine okC_asW hΓ₂ rfl fun W hc hΓ₃ hB₃ => ?_
  have hΓ₄ : W.ctx.In (ktrTop (dp + 1) (un + 3) gd (Str.ofString "_law_fleets") _ L' 97 (.ref 96) (cellsFrom (L' + 1) _ []) (envX cn cs L a ccd [] :: [])) := hΓ₃
  refine fleet_loop (w := w) (s := s) (ns := ns) (C := L' + 1) (D := D) (dr := dr) (odr := odr) (oc := oc') (g := g) (base := base) (A₀ := ktrTop dp un gd cn cs L a ccd [] []) (outer := envX cn cs L a ccd [] :: []) hc hΓ₃ hB₃ rfl rfl rfl ?_ ?_ hDI ?_ hns ?turn ?fin ns [] h₄ _ s.gens _ g oI oD #[] [] [] rfl ⟨KtsTurn.refl, B₁, F₄, ?_, hit, hD, Desc.nil, .inl ⟨rfl, rfl⟩, (fun _ h => nomatch h), ⟨0, by simp⟩⟩
  · omega
  · omega
  · omega
  case turn =>
    clear F₄ N₄ hit oI h₄ hits hsz hod items nd B₁ X₁ T₁ FG hD oD
    intro done todo n t h tk gs m₅ h₀' oI oD tab kvs rest P e Z hP
    have X := XB.keeps Z.B.stays
    have T := TB.keeps Z.B.stays
    have hn5 : done = [] → n = 5 := fun hd => by
      subst hd
      obtain ⟨r, h5⟩ := h5
      rw [h5] at e
      simp at e
      exact e.1.symm
    refine wpG_execs_cons ?_
    refine wpG_Assign_Name ?_ rfl
    refine wpG_Call_def (a := 51) ?_ rfl
    refine wpG_any hΓ₃ (nameX_K Z.F X (topRead_of T) (by k_is) ⟨rfl, ?_⟩)
    refine wpG_Call_def (a := 85) ?_ rfl
    refine wpG_any hΓ₃ (nameX_K Z.F X (topRead_of T) (by k_is) ⟨rfl, ?_⟩)
    refine wpG_any hΓ₃ (nameX_L Z.F (if_pos rfl) ⟨fnAt_85 (X.keeps Z.F.keep), ?_⟩)
    refine wpG_any hΓ₄ (told0 w mean mg mb _ _ _ _ _ _ _ _ _ _ base h₀' _ _ _ _ noE n t Z.B Z.F X p0 lo0 T rfl (by omega) (by omega) fun h6 tk6 t6 k6 => ⟨?_, ?_⟩)
    · exact fnAt_51 ((X.keeps Z.F.keep).keeps k6)
    rw [show toldStrs.getD (n.fmod 12).toNat Str.empty = _ from toldStrs_at (fmod12 n)]
    have F6 := fr_keep Z.F k6
    have N6 := news_keep Z.N k6
    have KX6 : KnowIn w h6 := fun q hq => F6.keep _ _ (Z.B.stays _ _ (KB q hq))
    refine wpG_plat (fmod12 n) ?_ KX6 (N6 _ (.tail _ (.tail _ (.head _)))).1 (fun tk7 s7 C7 D7 => ?_)
    · rcases Z.tab with ⟨h1, h2⟩ | h1
      · exact .inl ⟨h1, by rw [hn5 h2]; rfl⟩
      · exact .inr h1
    obtain ⟨h7, g7, d7, tk7', o7⟩ := s7
    have e1 : g7 = gs.push .finished := D7.gens
    have e2 : d7 = s.drawn := D7.drawn
    have e3 : o7 = s.os := D7.os
    subst e1 e2 e3
    obtain ⟨F7, N7⟩ := plat_ground (A₀ := A₀) (base := base) (outer := []) F6 (news_sub N6 led_swap) (fun q hq => by
      rcases List.mem_cons.mp hq with rfl | hq
      · exact Nat.ne_of_gt (show @LT.lt Nat _ 46 I by omega)
      rcases List.mem_cons.mp hq with rfl | hq
      · exact hdr
      rcases List.mem_cons.mp hq with rfl | hq
      · exact Nat.ne_of_gt (show @LT.lt Nat _ 46 D by omega)
      rcases List.mem_cons.mp hq with rfl | hq
      · exact Nat.ne_of_gt (show @LT.lt Nat _ 46 (L' + 1) by omega)
      · exact (Z.far q hq).2.1) D7
    have N7' := news_sub N7 led_swap'
    refine wpG_any hΓ₃ (storeX_L F7 N7' (fun h8 F8 N8 => ?_))
    clear N7 N7' F7 D7 N6 F6 KX6 k6
    refine wpG_execs_cons ?_
    refine wpG_Assign_Subscript ?_ rfl
    refine wpG_BinOp ?_
    have hk3 := kindOf_lt n
    refine wpG_any hΓ₃ (MethodCall_ (nameX_C N8 rfl (.tail _ (.tail _ (.tail _ (.tail _ (.head _))))) hoc' ?_))
    refine kdg_method (knd := PySem.strKind prog w) N8 (.tail _ (.tail _ (.tail _ (.head _)))) Z.dict ?_
    refine callWith_method1 ?_
    refine args_cons (nameX_L F8 (if_pos rfl) ?_)
    refine args_cons (List_ (args_nil (newList_K F8 N8 (fun e9 h9 F9 N9 l9 => args_nil ?_))))
    refine kdg_get2 (knd := PySem.strKind prog w) N9 (.tail _ (.tail _ (.tail _ (.tail _ (.head _))))) Z.dict lo (strKind_is _ _ _ _) (valueAt kvs (nameOf (kindOf n))) rfl ?_
    have hv : ∃ lv vs c, (valueAt kvs (nameOf (kindOf n))).getD (.ref e9) = .ref lv ∧ (lv, listOf vs.toArray c) ∈ (e9, listOf ([] : List Value).toArray 0) :: rest ∧ All2 (VerAt rest) vs (ranks (kindOf n) done) := by
      have := Z.desc.look (kindOf n) hk3
      cases q : valueAt kvs (nameOf (kindOf n)) with
      | none => rw [q] at this; exact ⟨e9, [], 0, rfl, .head _, by rw [show ranks (kindOf n) done = [] from this]; exact .nil⟩
      | some v => rw [q] at this; obtain ⟨l, vs, c, rfl, hm, ha⟩ := this; exact ⟨l, vs, c, rfl, .tail _ hm, ha⟩
    obtain ⟨lv, vs, c, hlv, hlm, hvs⟩ := hv
    rw [hlv]
    refine wpG_BinOp ?_
    refine wpG_List ?_
    refine wpG_items_cons ?_ rfl
    refine wpG_Call_def (a := 44) ?_ rfl
    refine wpG_any hΓ₃ (nameX_K F9 X (topRead_of T) (by k_is) ⟨rfl, ?_⟩)
    refine wpG_Call_def (a := 92) ?_ rfl
    refine wpG_any hΓ₃ (nameX_K F9 X (topRead_of T) (by k_is) ⟨rfl, ?_⟩)
    refine wpG_any hΓ₃ (nameX_L F9 (v := .int n t) rfl ⟨fnAt_92 (X.keeps F9.keep), ?_⟩)
    refine wpG_any hΓ₄ (rel0 w mean mg mb _ _ _ _ _ _ _ _ _ _ base h₀' _ _ _ _ noE n t Z.B F9 X p0 lo0 T rfl (by omega) (by omega) fun h10 tk10 t10 k10 => ⟨?_, ?_⟩)
    · exact fnAt_44 ((X.keeps F9.keep).keeps k10)
    rw [show relStrs.getD ((n.fdiv 36).fmod 4).toNat Str.empty = Str.ofString (relText (relOf n)) from relStrs_at (relOf_lt n)]
    have F10 := fr_keep F9 k10
    have N10 := news_keep N9 k10
    clear F8 N8 F9 N9 k10
    have KX10 : KnowIn w h10 := fun q hq => F10.keep _ _ (Z.B.stays _ _ (KB q hq))
    refine wpG_ver w hΓ₄ KX10 (N10 _ (.tail _ (.tail _ (.tail _ (.head _))))).1 Z.B F10 XB TB rfl (by omega) (by omega) (relOf n) (relOf_lt n) (fun lr h11 tk11 t1 t2 t3 t4 t5 t6 c11 k11 n11 g11 => ?_)
    obtain ⟨h₀'', B11, F11, N11, T11⟩ := cv_ground Z.B F10 N10 k11
    have hnew : ∀ q ∈ (e9, listOf ([] : List Value).toArray 0) :: (I, oI) :: (dr, odr) :: (46, tableObj (tabB C7)) :: (D, oD) :: (L' + 1, oc') :: rest, q.1 ≠ lr := fun q hq z => by
      have := (N10 q hq).1
      rw [z, n11] at this
      cases this
    have n₀ : h₀''.get? lr = none := T11.none_ _ (by
      cases q : h₀'.get? lr with
      | none => rfl
      | some o => have := F10.keep _ _ q; rw [n11] at this; cases this)
    have nL : lr ≠ L' := fun z => by
      obtain ⟨oL, _, _, hL, _⟩ := F10.ns
      rw [z, hL] at n11
      cases n11
    have N12 : News h₀'' L' h11 ((lr, listOf (verArr (relOf n) t1 t2 t3 t4 t5 t6) c11) :: (e9, listOf ([] : List Value).toArray 0) :: (I, oI) :: (dr, odr) :: (46, tableObj (tabB C7)) :: (D, oD) :: (L' + 1, oc') :: rest) := fun q hq => by
      rcases List.mem_cons.mp hq with rfl | hq
      · exact ⟨g11, nL, n₀⟩
      · exact N11 q hq
    clear N11 N10 F10 KX10 k11
    refine wpG_items_nil ?_
    refine wpG_any hΓ₃ (newList_K F11 N12 (fun l1 h13 F13 N13 lt13 => ?_))
    clear F11 N12
    have X11 := XB.keeps B11.stays
    have T11' := TB.keeps B11.stays
    clear X T
    refine leaf (fun v s' => ∃ (t' : Tok) (tk' : Nat), v = .int ((n.fdiv 12).fmod 3 + 1) t' ∧ s' = { s with heap := h13, toks := tk', gens := gs.push .finished }) hΓ₃ ?_ ?_
    · have N0 : News h₀'' L' h13 [] := News.nil
      clear N13
      k_steps
      exact ⟨_, _, rfl, rfl⟩
    rintro _ _ ⟨t14, tk14, rfl, rfl⟩
    obtain ⟨hm1, hm2, hm3⟩ := mult_is n
    rw [hm1]
    refine wpG_any hΓ₃ (KMa.mul F13 N13 (vs := [.ref lr]) ⟨_, (N13 _ (.head _)).1, rfl, 0, rfl⟩ (by omega) (by omega) (by simp; omega) rfl (fun l2 h14 F14 N14 lt14 => ?_))
    clear F13
    have hflat : (List.replicate (multOf n : Int).toNat [Value.ref lr]).flatten = List.replicate (multOf n) (.ref lr) := by simp
    rw [hflat] at N14
    have hvl : vs.length ≤ 24 := by
      have h1 := hvs.length
      have h2 := ranks_length (kindOf n) done
      have h3 : done.length ≤ 8 := by rw [e] at hlen; simp at hlen; omega
      omega
    have hlm' : (lv, listOf vs.toArray c) ∈ (l2, listOf (List.replicate (multOf n) (Value.ref lr)).toArray 0) :: (l1, listOf [Value.ref lr].toArray 0) :: (lr, listOf (verArr (relOf n) t1 t2 t3 t4 t5 t6) c11) :: (e9, listOf ([] : List Value).toArray 0) :: (I, oI) :: (dr, odr) :: (46, tableObj (tabB C7)) :: (D, oD) :: (L' + 1, oc') :: rest := by
      rcases List.mem_cons.mp hlm with h | h
      · rw [h]; exact .tail _ (.tail _ (.tail _ (.head _)))
      · exact .tail _ (.tail _ (.tail _ (.tail _ (.tail _ (.tail _ (.tail _ (.tail _ (.tail _ h))))))))
    refine wpG_any hΓ₃ (kmk_add_lit F14 N14 (its := vs.toArray) (its2 := (List.replicate (multOf n) (Value.ref lr)).toArray) ⟨_, (N14 _ hlm').1, rfl, c, rfl⟩ ⟨_, (N14 _ (.head _)).1, rfl, 0, rfl⟩ rfl (fun l3 h15 F15 N15 lt15 => ?_) ?_)
    · rw [List.toList_toArray, List.toList_toArray] at N15
      have ltD : @LT.lt Nat _ D l3 := lt15 (D, oD) (.tail _ (.tail _ (.tail _ (.tail _ (.tail _ (.tail _ (.tail _ (.head _))))))))
      have ltD2 : @LT.lt Nat _ D l2 := lt14 (D, oD) (.tail _ (.tail _ (.tail _ (.tail _ (.tail _ (.tail _ (.head _)))))))
      have ltD1 : @LT.lt Nat _ D l1 := lt13 (D, oD) (.tail _ (.tail _ (.tail _ (.tail _ (.tail _ (.head _))))))
      have ltDe : @LT.lt Nat _ D e9 := l9 (D, oD) (.tail _ (.tail _ (.tail _ (.head _))))
      have ltI : @LT.lt Nat _ I l3 := lt15 (I, oI) (.tail _ (.tail _ (.tail _ (.tail _ (.head _)))))
      have ltI2 : @LT.lt Nat _ I l2 := lt14 (I, oI) (.tail _ (.tail _ (.tail _ (.head _))))
      have ltI1 : @LT.lt Nat _ I l1 := lt13 (I, oI) (.tail _ (.tail _ (.head _)))
      have ltIe : @LT.lt Nat _ I e9 := l9 (I, oI) (.head _)
      have nlrD : lr ≠ D := fun z => hnew (D, oD) (.tail _ (.tail _ (.tail _ (.tail _ (.head _))))) z.symm
      have nlrI : lr ≠ I := fun z => hnew (I, oI) (.tail _ (.head _)) z.symm
      have nlr46 : lr ≠ 46 := fun z => hnew (46, _) (.tail _ (.tail _ (.tail _ (.head _)))) z.symm
      refine wpG_any hΓ₃ (kas_sub (nameX_C N15 rfl (.tail _ (.tail _ (.tail _ (.tail _ (.tail _ (.tail _ (.tail _ (.tail _ (.tail _ (.head _)))))))))) hoc' (nameX_L F15 (if_pos rfl) ?_)))
      refine kda_set (knd := PySem.strKind prog w) (k := nameOf (kindOf n)) F15 N15 (.tail (Nat.ne_of_gt ltD) (.tail (Nat.ne_of_gt ltD2) (.tail (Nat.ne_of_gt ltD1) (.tail nlrD (.tail (Nat.ne_of_gt ltDe) (.tail (Nat.ne_of_gt hDI) (.tail (Nat.ne_of_lt (show @LT.lt Nat _ dr D by omega)) (.tail (Nat.ne_of_lt (show @LT.lt Nat _ 46 D by omega)) (.head ?_))))))))) Z.dict (strKind_is _ _ _ _) ?_ (fun h16 oD' F16 N16 hD' => ?_)
      · intro q hq
        rcases List.mem_cons.mp hq with rfl | hq
        · exact Nat.ne_of_lt (show @LT.lt Nat _ (L' + 1) D by omega)
        · exact (Z.far q hq).2.2
      · have h1 : kvs.length = (keysOf done).length := by have := congrArg List.length Z.desc.keys; simpa using this
        have h2 := keysOf_length done
        have h3 : done.length ≤ 8 := by rw [e] at hlen; simp at hlen; omega
        rw [sizeLine_eq]; omega
      · refine wpG_execs_nil ?_
        refine hP h16 _ _ _ h₀'' oI oD' (tabB C7) (stored kvs (nameOf (kindOf n)) (.ref l3)) ((l3, _) :: (l2, _) :: (l1, _) :: (lr, _) :: (e9, _) :: rest) ⟨Z.T.trans T11, B11, F16, news_sub N16 led_back, Z.it, hD', ?_, .inr ⟨C7, rfl⟩, ?_, ?_⟩
        · refine Desc.step (c := 0) Z.desc (fun q hq => .tail _ (.tail _ (.tail _ (.tail _ (.tail _ hq))))) (hvs.mono fun _ _ => VerAt.mono fun q hq => .tail _ (.tail _ (.tail _ (.tail _ (.tail _ hq))))) ⟨lr, t1, t2, t3, t4, t5, t6, c11, rfl, .tail _ (.tail _ (.tail _ (.head _)))⟩ (.head _)
        · intro q hq
          rcases List.mem_cons.mp hq with rfl | hq
          · exact ⟨Nat.ne_of_gt ltI, Nat.ne_of_gt (show @LT.lt Nat _ 46 l3 by omega), Nat.ne_of_gt ltD⟩
          rcases List.mem_cons.mp hq with rfl | hq
          · exact ⟨Nat.ne_of_gt ltI2, Nat.ne_of_gt (show @LT.lt Nat _ 46 l2 by omega), Nat.ne_of_gt ltD2⟩
          rcases List.mem_cons.mp hq with rfl | hq
          · exact ⟨Nat.ne_of_gt ltI1, Nat.ne_of_gt (show @LT.lt Nat _ 46 l1 by omega), Nat.ne_of_gt ltD1⟩
          rcases List.mem_cons.mp hq with rfl | hq
          · exact ⟨nlrI, nlr46, nlrD⟩
          rcases List.mem_cons.mp hq with rfl | hq
          · exact ⟨Nat.ne_of_gt ltIe, Nat.ne_of_gt (show @LT.lt Nat _ 46 e9 by omega), Nat.ne_of_gt ltDe⟩
          · exact Z.far q hq
        · obtain ⟨j, hj⟩ := Z.gens
          exact ⟨j + 1, by rw [hj]; apply Array.ext'; simp [List.replicate_succ']⟩
    · simp only [List.toList_toArray, List.length_replicate]
      rw [sizeLine_eq]; omega
  case fin =>
    clear F₄ N₄ hit oI h₄ hits hsz hod items nd B₁ X₁ T₁ hD oD
    intro h tk gs m₅ h₀' oD tab kvs rest T₅ B₅ F₅ N₅ hD₅ desc far hgs htab hdr₅
    have X := XB.keeps B₅.stays
    have T := TB.keeps B₅.stays
    refine wpG_execs_cons ?_
    refine wpG_Return ?_
    refine wpG_any hΓ₂ ?_
    refine ListComp_H (cl := [(Str.ofString "fleets", L' + 1)]) (fun _ => true) (TupOf ns) (fun ex h h' v y k => TupOf.keep ex h h' v y k) rfl (by decide) rfl (by decide) rfl rfl ?_
    rw [arm_eval_Call_Name']
    refine wpAny_bind (nameX_B F₅ X (topRead_of T) (by k_is) boot_sorted (by decide) ?_)
    refine PyProof.Rows.callWith_builtin1 ?_
    refine args_cons ?_
    rw [arm_eval_Call_Name']
    refine wpAny_bind (nameX_B F₅ X (topRead_of T) (by k_is) boot_list (by decide) ?_)
    refine PyProof.Rows.callWith_type1 ?_
    refine args_cons (nameX_C N₅ rfl (.tail _ (.tail _ (.head _))) hoc' (args_nil ?_))
    obtain ⟨ep, hat⟩ := (kda_dict (s := { s with heap := h }) N₅ (.tail _ (.head _)) hD₅).dictAt
    refine kdl_N (kdl_dict (knd := PySem.strKind prog w) (kvs := kvs) (ep := ep) lo) rfl F₅ N₅ hat ?_ fun B6 c6 h6 tk6 vs6 F6 N6 l6 hl6 hv6 => ?_
    · have h1 : kvs.length = (keysOf ns).length := by have := congrArg List.length desc.keys; simpa using this
      have h2 := keysOf_length ns
      rw [sizeLine_eq]; omega
    refine args_nil ?_
    have hks : keysOf ns = [1, 0] ∨ keysOf ns = [1, 0, 2] := by obtain ⟨r, h5⟩ := h5; rw [h5]; exact keys_of_three r
    refine sorted_keys hks F6 N6 ⟨_, (N6 _ (.head _)).1, rfl, c6, rfl⟩ (names_of desc.keys hl6 hv6) (fun B7 h7 c7 out7 F7 N7 l7 ho7 => ?_)
    refine ⟨B7, out7.toArray, rfl, ⟨_, (N7 _ (.head _)).1, rfl, c7, rfl⟩, ?_, fun C D2 I2 fr => ⟨?_, ?_, ?_⟩⟩
    · have := ho7.length
      rcases hks with e | e <;> rw [e] at this <;> simp [skeys] at this <;> simp [this]
    · intro v s₂ m₂ E' hv hn hm k g1 g2 g3
      exact wpAny_pure ⟨rfl, _, _, rfl, fun _ _ e => e⟩
    · intro v s₂ m₂ E' hv _ hn hm kb g1 g2 g3
      have nex : ∀ b o, h7.get? b = some o → b ∉ [C, D2, I2] := fun b o e hb => by
        simp only [List.mem_cons, List.not_mem_nil, or_false] at hb
        rcases hb with rfl | rfl | rfl
        · have := fr.c; rw [e] at this; cases this
        · have := fr.d; rw [e] at this; cases this
        · have := fr.i; rw [e] at this; cases this
      have kp : ∀ b o, h7.get? b = some o → s₂.heap.get? b = some o := fun b o e => kb b o (nex b o e) e
      obtain ⟨kk, hkk, t, rfl⟩ : ∃ kk, kk ∈ keysOf ns ∧ NameIs v kk := by
        obtain ⟨kk, h1, h2⟩ := ho7.memR v (by simpa using hv)
        exact ⟨kk, skeys_sub hks kk h1, h2⟩
      have hk3 := keysOf_lt ns kk hkk
      obtain ⟨lv, hval⟩ := valueAt_key (kvs := kvs) (s := nameOf kk) (by rw [desc.keys]; exact List.mem_map_of_mem hkk)
      have hla : ListAt rest lv (ranks kk ns) := by have := desc.look kk hk3; rw [hval] at this; exact this
      obtain ⟨l, vs, cl, rfl, hlm, hvs⟩ := hla
      have N8 : News h₀' L' s₂.heap ((46, tableObj tab) :: (D, oD) :: (L' + 1, oc') :: (dr, odr) :: rest) := news_keep (news_sub N7 fun q hq => .tail _ (.tail _ hq)) kp
      have F8 : Fr h₀' L' s₂.heap m₅ := fr_keep F7 kp
      have hvl : vs.length = (ranks kk ns).length := hvs.length
      have hv1 : 1 ≤ vs.length := by
        rw [hvl]
        exact List.length_pos_iff.mpr (key_used hkk)
      have hv64 : vs.length < 64 := by
        have h2 := ranks_length kk ns
        omega
      have restOut : ∀ q ∈ rest, q.1 ∉ [C, D2, I2] := fun q hq => nex _ _ (N7 q (.tail _ (.tail _ (.tail _ (.tail _ (.tail _ (.tail _ hq))))))).1
      refine Tuple_ ?_
      refine args_cons (wpAny_Name (wpAny_loadName_local rfl rfl hn hm ?_) (by decide))
      refine args_cons (wpAny_of_G fun Γ hΓ' => wpG_Call_def (a := 71) ?_ rfl)
      refine wpG_any hΓ' (Name_function_global rfl rfl (loadGlobal_global (T.g.keeps F8.keep) (mg_of X T.g (by k_is)) ⟨rfl, ?_⟩))
      refine wpG_any hΓ' (Subscript_ (wpAny_Name (wpAny_loadName_cell rfl rfl rfl ⟨oc', (N8 _ (.tail _ (.tail _ (.head _)))).1, hoc'⟩ ?_) (by decide)))
      refine wpAny_Name (wpAny_loadName_local rfl rfl hn hm ?_) (by decide)
      refine kda_item (knd := PySem.strKind prog w) N8 (.tail _ (.head _)) hD₅ (strKind_is _ _ _ _) hval ?_
      refine ⟨⟨_, _, X.keeps F8.keep 71 _ rfl, rfl⟩, ?_⟩
      have hvsH : All2 (VerH s₂.heap) vs (ranks kk ns) := hvs.mono fun v r x => by
        obtain ⟨a, t1, t2, t3, t4, t5, t6, c, e, hm⟩ := x
        exact ⟨a, t1, t2, t3, t4, t5, t6, c, e, (N8 _ (.tail _ (.tail _ (.tail _ (.tail _ hm))))).1⟩
      have outOf : ∀ (hh : Heap) (v : Value) (r : Nat), v ∈ vs → VerH hh v r → VerX [C, D2, I2] hh v r := fun hh v r hin hx => by
        obtain ⟨a, t1, t2, t3, t4, t5, t6, c, e, hg⟩ := hx
        obtain ⟨r', _, a', _, _, _, _, _, _, _, e', hm⟩ := hvs.memR v hin
        rw [e] at e'
        cases e'
        exact ⟨a, t1, t2, t3, t4, t5, t6, c, e, restOut _ hm, hg⟩
      refine wpG_any (A := ktrTop (dp + 1) (un + 3) gd (Str.ofString "_law_fleets") _ L' 97 (.ref 96) (cellsFrom (L' + 1) _ []) (envX cn cs L a ccd [] :: [])) hΓ' (med_low w mean mg mb (dp + 1) (un + 3) _ _ _ _ _ _ _ _ base h₀' _ m₅ { s₂ with toks := s₂.toks + 1 } _ _ B₅ F8 X p0 lo0 T rfl (by omega) (by omega) l vs cl (ranks kk ns) (N8 _ (.tail _ (.tail _ (.tail _ (.tail _ hlm))))).1 hvsH ranks_lt hv1 hv64 (fun vlo h9 tk9 rs1 kp9 hp9 hs9 hver9 hin9 => ?_))
      have F9 := fr_keep F8 kp9
      have N9 := news_keep N8 kp9
      have hn9 := hn.keeps kp9
      refine args_cons (wpAny_of_G fun Γ2 hΓ2' => wpG_Call_def (a := 78) ?_ rfl)
      refine wpG_any hΓ2' (Name_function_global rfl rfl (loadGlobal_global (T.g.keeps F9.keep) (mg_of X T.g (by k_is)) ⟨rfl, ?_⟩))
      refine wpG_any hΓ2' (Subscript_ (wpAny_Name (wpAny_loadName_cell rfl rfl rfl ⟨oc', (N9 _ (.tail _ (.tail _ (.head _)))).1, hoc'⟩ ?_) (by decide)))
      refine wpAny_Name (wpAny_loadName_local rfl rfl hn9 hm ?_) (by decide)
      refine kda_item (knd := PySem.strKind prog w) N9 (.tail _ (.head _)) hD₅ (strKind_is _ _ _ _) hval ?_
      refine ⟨⟨_, _, X.keeps F9.keep 78 _ rfl, rfl⟩, ?_⟩
      refine wpG_any (A := ktrTop (dp + 1) (un + 3) gd (Str.ofString "_law_fleets") _ L' 97 (.ref 96) (cellsFrom (L' + 1) _ []) (envX cn cs L a ccd [] :: [])) hΓ2' (med_high w mean mg mb (dp + 1) (un + 3) _ _ _ _ _ _ _ _ base h₀' _ m₅ { s₂ with heap := h9, toks := tk9 + 1 } _ _ B₅ F9 X p0 lo0 T rfl (by omega) (by omega) l vs cl (ranks kk ns) (N9 _ (.tail _ (.tail _ (.tail _ (.tail _ hlm))))).1 (hvsH.mono fun v r x => by
        obtain ⟨a, t1, t2, t3, t4, t5, t6, c, e, hg⟩ := x
        exact ⟨a, t1, t2, t3, t4, t5, t6, c, e, kp9 _ _ hg⟩) ranks_lt hv1 hv64 (fun vhi h10 tk10 rs2 kp10 hp10 hs10 hver10 hin10 => ?_))
      refine args_nil ?_
      refine wpAny_newObj_type ?_ (by show 3 ≤ sizeLine; rw [sizeLine_eq]; decide)
      have hCs : @LT.lt Nat _ C h10.objs.size := by
        have h1 := (hn9.keeps kp10).lt
        exact h1
      have ord := fr.ord
      refine ⟨_, _, rfl, ⟨kk, t, h10.objs.size, 0, vlo, vhi, _, _, hk3, rfl, rfl, ?_, Heap.get?_push_size _ rfl, ?_, ?_, ⟨rs1, hp9, hs9, rfl⟩, ⟨rs2, hp10, hs10, rfl⟩⟩, fun b o e => Heap.get?_push_of_some _ (kp10 b o (kp9 b o e))⟩
      · intro hb
        simp only [List.mem_cons, List.not_mem_nil, or_false] at hb
        rcases hb with hb | hb | hb
        · exact absurd (hb ▸ hCs : @LT.lt Nat _ C C) (Nat.lt_irrefl C)
        · exact absurd (Nat.lt_trans (hb ▸ ord.2 : @LT.lt Nat _ h10.objs.size C) hCs) (Nat.lt_irrefl _)
        · exact absurd (Nat.lt_trans (hb ▸ ord.1 : @LT.lt Nat _ h10.objs.size C) hCs) (Nat.lt_irrefl _)
      · exact (outOf _ _ _ hin9 hver9).keep fun b o _ e => Heap.get?_push_of_some _ (kp10 b o (kp9 b o e))
      · exact (outOf _ _ _ hin10 hver10).keep fun b o _ e => Heap.get?_push_of_some _ (kp10 b o e)
    · intro h8 tk8 ys hd hal kb
      have nex : ∀ b o, h7.get? b = some o → b ∉ [C, D2, I2] := fun b o e hb => by
        simp only [List.mem_cons, List.not_mem_nil, or_false] at hb
        rcases hb with rfl | rfl | rfl
        · have := fr.c; rw [e] at this; cases this
        · have := fr.d; rw [e] at this; cases this
        · have := fr.i; rw [e] at this; cases this
      have kp : ∀ b o, h7.get? b = some o → h8.get? b = some o := fun b o e => kb b o (nex b o e) e
      have hfil : out7.toArray.toList.filter (fun _ => true) = out7 := by simp
      rw [hfil] at hal
      obtain ⟨j, rfl⟩ := hgs
      have FG' : Fr h₀ L h8 m := by
        have up : ∀ b o, h₀'.get? b = some o → h8.get? b = some o := fun b o e => kp b o (F7.keep b o e)
        refine ⟨?_, fun b o e => ?_, FG.above⟩
        · obtain ⟨oL, es, ep, hL, r⟩ := FG.ns
          obtain ⟨sl, hs⟩ := T₅.up hL
          exact ⟨_, es, ep, up _ _ hs, r⟩
        · refine up b o (T₅.other b o (FG.keep b o e) (fun hm => ?_))
          have hb : b = L := by simpa using hm
          rw [hb, kts_self FG] at e
          cases e
      refine k D2 h8 tk8 j ys out7 [C, D2, I2] FG' ⟨tab, kp _ _ (N7 _ (.tail _ (.tail _ (.head _)))).1⟩ ?_ hd ?_ ho7 hal
      · exact kp _ _ (N7 _ (.tail _ (.tail _ (.tail _ (.tail _ (.tail _ (.head _))))))).1
      · cases q : h₀.get? D2 with
        | none => rfl
        | some o =>
          exfalso
          have hb : D2 ≠ L := fun z => by rw [z, kts_self FG] at q; cases q
          have e1 := T₅.other D2 o (FG.keep _ _ q) (fun hm => hb (by simpa using hm))
          have e2 := F7.keep _ _ e1
          have := fr.d
          rw [e2] at this; cases this
  · exact news_sub N₄ (fun q hq => by
      simp only [List.mem_cons, List.not_mem_nil, or_false] at hq ⊢
      rcases hq with h | h | h | h | h <;> simp [h])
end Mine
end
/- Body -/
section
open PySem PySem.W PySem.W.X PyProof.Rows PySem.Calls
namespace Mine
set_option maxRecDepth 100000
set_option maxHeartbeats 2000000
theorem fillB : PySem.Challenge.rw_mr0145_01 = PySem.Challenge.rw_mr0145_01 ∧ Mine.kmk.heap_1 = Mine.kmk.heap_1 := by k_fill; exact ⟨rfl, rfl⟩
abbrev scLaw : Scope := { kind := .function, names := [(Str.ofString "script", .local), (Str.ofString "drawn", .local), (Str.ofString "_law_fleets", .globalImplicit), (Str.ofString "_law_due", .globalImplicit)], isGenerator := false, isCoroutine := false, more := [] }
abbrev scriptTaken (xs : List Int) : List Int := 5 :: 24 :: 40 :: xs.take 5
theorem fnAt_97 {P : Params} {h : Heap} (H : (kmk.heap_1 P).In h) : ∃ o fd, h.get? 97 = some o ∧ o.data = .func fd := ⟨_, _, H 97 _ rfl, rfl⟩
theorem fnAt_102 {P : Params} {h : Heap} (H : (kmk.heap_1 P).In h) : ∃ o fd, h.get? 102 = some o ∧ o.data = .func fd := ⟨_, _, H 102 _ rfl, rfl⟩
theorem intList_of {vs : List Value} {ns : List Int} {c : Nat} (h : All2 IntIs vs ns) : IntList (listOf vs.toArray c) ns where
  cls := rfl
  data := ⟨_, c, rfl, by simpa using h.length, fun i hi => by
    have hl := h.length
    have := h.get (da := .none) (db := 0) i (by omega)
    obtain ⟨t, e⟩ := this
    refine ⟨t, ?_⟩
    have h1 : vs.getD i .none = vs[i]'(by omega) := by simp [show i < vs.length by omega]
    have h2 : ns.getD i 0 = ns[i] := by simp [hi]
    rw [h1, h2] at e
    simp [show i < vs.length by omega, e]⟩
theorem rep_keep {h h' : Heap} (k : Keep h h') {v : Value} {x : Nat × Nat × Nat} (r : Rep h v x) : Rep h' v x := by
  obtain ⟨tp, t, lo, hi, e, g, v1, v2⟩ := r
  exact ⟨tp, t, lo, hi, e, isTuple_at g (k _), verH_keep v1 k, verH_keep v2 k⟩
section
variable {p1 p2 p3 p4 p5 p6 p7 p8 p9 p10 p11 p12 p13 p14 p15 p16 p17 p18 p19 p20 : Pos}
/-- the body of the law -/
theorem law_body (w : World) (mean : ExcName → Option Value) (mg mb : Str → Option Value) (dp un : Nat) (gd : Option (List Code)) (cn : Str) (a : Addr) (ccd : Value) (A₀ : Around) (base : Heap) (L : Addr) (m : Str → Option Value) (s : Shared) (Q : Flow → Shared → Prop)
    (bL : List Stmt) (eL : Env) (own past : Option Value) (p3 : Pos) (hΓ : (⟨.func bL eL, none, own, [(.builtin "claim.caller" {}, p3)], past⟩ : Ctx).In (ktrTop dp un gd cn scLaw L a ccd [] []))
    (B : Below A₀ base [] base) (F : Fr base L s.heap m) (XB : (kmk.heap_1 w.params).In base) (KB : KnowIn w base) (p0 : Program) (lo0 : List Str) (TB : Top p0 lo0 mean mg mb base)
    (hdp : dp + 2 < recursionLimit) (hu : un + 16 < cLine) (sc : Addr) (items : Array Value) (xs : List Int) (hsc : base.IsList sc items) (hxs : All2 IntIs items.toList xs) (hsz : items.size ≤ 1000) (hm : m (Str.ofString "script") = some (.ref sc))
    (N : News base L s.heap [(46, tableObj #[])])
    (k : ∀ h' tk' j m', Fr base L h' m' → (∃ tab', h'.get? 46 = some (tableObj tab')) → Q (.ret (.bool true)) { s with heap := h', toks := tk', gens := s.gens ++ Array.replicate j .finished }) :
    wpG (model prog w) ⟨.func bL eL, none, own, [(.builtin "claim.caller" {}, p3)], past⟩
      (execs [.Assign [.Name (Str.ofString "drawn") p1] (.BinOp (.List [.Constant (.int 5) 0 p2, .Constant (.int 24) 0 p4, .Constant (.int 40) 0 p5] p6) .Add (.Subscript (.Name (Str.ofString "script") p7) (.Slice none (some (.Constant (.int 5) 0 p8)) none p9) p10) p11) p12,
        .Return (some (.Compare (.Call (.Name (Str.ofString "_law_fleets") p13) [.Name (Str.ofString "drawn") p14] [] p15) [.Eq] [.Call (.Name (Str.ofString "_law_due") p16) [.Name (Str.ofString "drawn") p17] [] p18] p19)) p20] (envX cn scLaw L a ccd [])) Q noE s := by
  refine wpG_execs_cons ?_
  refine wpG_Assign_Name ?_ rfl
  refine wpG_any hΓ (wpAny_BinOp ?_)
  refine List_ (args_cons (wpAny_Constant_int (args_cons (wpAny_Constant_int (args_cons (wpAny_Constant_int (args_nil ?_)))))))
  refine newList_K F N (fun l1 h1 F1 N1 lt1 => ?_)
  refine wpAny_Subscript_Slice (T := "list") slot_list_getitem.lookup (nameX_L F1 hm ?_)
  refine wpAny_Slice (evalPart_none_step (evalPart_some_step (wpAny_Constant_int (evalPart_none_step ?_))))
  dsimp only
  have hsc1 : h1.IsList sc items := isList_keep hsc F1.keep
  refine ⟨(isList_keep hsc1 (keep_push _ _)).typeIs, ?_⟩
  refine wpAny_getItem_list_slice (isList_keep hsc1 (keep_push _ _)) (Heap.IsSliceOf.new h1 _ _ _) .none (.int _ _) .none (by simp) ?_ (by rw [sizeLine_eq]; omega)
  dsimp only
  rw [show slicePick items none (some (5 : Int)) none = (items.toList.take 5).toArray from slicePick_upto' items 5]
  have F2 := (F1.push { cls := .type "slice", data := .fields #[.none, .int 5 (s.toks + 1 + 1 + 1), .none] }).push { cls := .type "list", data := .seq (items.toList.take 5).toArray }
  have N2 := News.push (F1.push { cls := .type "slice", data := .fields #[.none, .int 5 (s.toks + 1 + 1 + 1), .none] }) (News.push F1 N1 { cls := .type "slice", data := .fields #[.none, .int 5 (s.toks + 1 + 1 + 1), .none] }) { cls := .type "list", data := .seq (items.toList.take 5).toArray }
  have hlen5 : (items.toList.take 5).length ≤ 5 := List.length_take_le _ _
  refine kmk_add_lit F2 N2 (its := [Value.int 5 s.toks, Value.int 24 (s.toks + 1), Value.int 40 (s.toks + 1 + 1)].toArray) (its2 := (items.toList.take 5).toArray) ⟨_, (N2 _ (.tail _ (.tail _ (.head _)))).1, rfl, 0, rfl⟩ ⟨_, (N2 _ (.head _)).1, rfl, 0, rfl⟩ rfl (fun dr h3 F3 N3 lt3 => ?_) ?_
  · have hint : All2 IntIs ([Value.int 5 s.toks, Value.int 24 (s.toks + 1), Value.int 40 (s.toks + 1 + 1)].toArray.toList ++ (items.toList.take 5).toArray.toList) (scriptTaken xs) :=
      .cons ⟨_, rfl⟩ (.cons ⟨_, rfl⟩ (.cons ⟨_, rfl⟩ (by simpa using hxs.take 5)))
    have hl8 : (scriptTaken xs).length ≤ 8 := by
      have := hint.length
      simp only [List.length_append] at this
      rw [← this]
      simp; omega
    have lt46 : @LT.lt Nat _ 46 dr := lt3 (46, tableObj #[]) (.tail _ (.tail _ (.tail _ (.head _))))
    have N3' := news_sub (news' := [(46, tableObj #[]), (dr, _)]) N3 (fun q hq => by
      simp only [List.mem_cons, List.not_mem_nil, or_false] at hq
      rcases hq with rfl | rfl
      · exact .tail _ (.tail _ (.tail _ (.tail _ (.head _))))
      · exact .head _)
    clear F1 N1 F2 N2 N3 lt3 lt1 hsc1 N F
    dsimp only
    clear h1
    refine wpG_any hΓ (storeX_L F3 N3' (fun h4 F4 N4 => ?_))
    clear F3 N3'
    refine wpG_execs_cons (wpG_Return (wpG_Compare1 ?_ rfl))
    refine wpG_Call_def (a := 97) ?_ rfl
    refine wpG_any hΓ (nameX_K F4 XB (topRead_of TB) (by k_is) ⟨rfl, ?_⟩)
    refine wpG_any hΓ (nameX_L F4 (if_pos rfl) ⟨fnAt_97 (XB.keeps F4.keep), ?_⟩)
    refine fleets w mean mg mb dp un gd cn scLaw a ccd A₀ base base L _ _ _ bL eL own past p3 hΓ B F4 XB KB p0 lo0 TB rfl hdp hu dr _ (scriptTaken xs) (intList_of hint) hl8 ⟨_, rfl⟩ N4 (Nat.ne_of_gt lt46) fun res h5 tk5 j5 ys names ex F5 htab hdr hres hnone hnames htup => ?_
    refine wpG_Call_def (a := 102) ?_ rfl
    refine wpG_any hΓ (nameX_K (s := { s with heap := h5, toks := tk5, gens := _ }) F5 XB (topRead_of TB) (by k_is) ⟨rfl, ?_⟩)
    refine wpG_any hΓ (nameX_L (s := { s with heap := h5, toks := tk5, gens := _ }) F5 (if_pos rfl) ⟨fnAt_102 (XB.keeps F5.keep), ?_⟩)
    obtain ⟨oR, hdR⟩ : ∃ o, h5.get? dr = some o := ⟨_, hdr⟩
    refine wpG_any hΓ (due w mean mg mb dp un gd cn scLaw a ccd [] [] A₀ base base L _ _ _ _ B F5 XB p0 lo0 TB rfl hdp hu dr _ (scriptTaken xs) ⟨_, hdr, rfl, 0, rfl⟩ hint (by simp; omega) fun res2 h6 tk6 ys2 k6 hres2 hrep2 => ?_)
    have hrep1 := (plain_law rfl hnames htup).mono fun v x => rep_keep k6
    refine wpG_any hΓ (reps_eq (s := { s with heap := h6, toks := tk6, gens := _ }) (isList_keep hres k6) hres2 (by show un + 2 < cLine; omega) hrep1 hrep2 ?_)
    refine k h6 tk6 j5 _ (fr_keep F5 k6) ?_
    obtain ⟨tab', ht⟩ := htab
    exact ⟨tab', k6 _ _ ht⟩
  · rw [sizeLine_eq]; simp; omega
end
end Mine
end
/- Mn1 -/
section
open PySem PySem.W PySem.W.X PyProof.Rows PySem.Calls
open Sem (wp)
namespace Mine
set_option maxRecDepth 100000
set_option maxHeartbeats 2000000
theorem useIt {A B : Prop} (f : A → B) (a : A) : B := f a
theorem fillTop : PySem.Challenge.rw_mr0145_01 = PySem.Challenge.rw_mr0145_01 ∧ Mine.kmk.heap_1 = Mine.kmk.heap_1 := by k_fill; exact ⟨rfl, rfl⟩
theorem all2_ints {vs : List Value} {xs : List Int} (h : IntsAre vs xs) : All2 IntIs vs xs := by
  induction h with
  | nil => exact .nil
  | cons n t _ ih => exact .cons ⟨t, rfl⟩ ih
theorem ctx_in (own past : Option Value) : (ctx₀ own past).In callerA := caller_in
/-- the call of the law, from the claim's own context -/
theorem top1 (w : World) (s₁ : Shared) (mean mean' : ExcName → Option Value) (mg mb : Str → Option Value) (p0 : Program) (lo0 : List Str) (cl : Str → Option Addr) (args : List WData) (X39 : (hd.heap_39 w.params).In s₁.heap) (X : (kmk.heap_1 w.params).In s₁.heap) (T : Top p0 lo0 mean mg mb s₁.heap)
    (hgens : s₁.gens = #[]) (hT : TabsAt [(50, 46)] s₁.heap) (sc : Addr) (vs : List Value) (xs : List Int) (hL : s₁.heap.IsList sc vs.toArray) (hI : IntsAre vs xs) (hsz : xs.length ≤ 63) (own past : Option Value) :
    wpG (model prog w) (ctx₀ own past) (call (.ref 109) [.ref sc]) (fun v s' => GoodWG therow.claim cl mean' args s₁ (.ok (.ret v)) s') noE s₁ := by
  refine wpG_call fun p => ?_
  have hB : ((ctx₀ own past).enter (.call (.ref 109) ⟨[.ref sc], []⟩) none p).Below callerA := (ctx_in own past).enter _ none p (by simp)
  refine okC_call_def (A := callerA) (a := 109) rfl hB (by decide) (X 109 _ (by k_is)) rfl T.nolimit (codeRec_of X (by k_is)) rfl (BindsTo.of_eq rfl) (by decide) (locs rfl) (fun h₁ hns hk₁ => ?_) rfl rfl rfl
  refine okC_func rfl ?_
  have F : Fr s₁.heap s₁.heap.objs.size h₁ _ := ⟨hns, hk₁, Nat.le_refl _⟩
  have F' := ghost_fr hT F
  have N' : News (ghostOf s₁.heap [(50, 46)]) s₁.heap.objs.size h₁ [(46, tableObj #[])] := ghost_news hT F News.nil
  have B' := ghost_below hT
  have X' := ghost_K hT X (by kernel_rfl)
  have T' := ghost_top hT T
  have K' : KnowIn w (ghostOf s₁.heap [(50, 46)]) := knowIn_of X39 fun b o hb e => ghost_ne e (by simpa using hb)
  have hint := all2_ints hI
  have hlen := hint.length
  refine law_body w mean mg mb (1 + claimMargin + 1) 7 (some []) (Str.ofString "law") 109 _ callerA (ghostOf s₁.heap [(50, 46)]) s₁.heap.objs.size _ { s₁ with heap := h₁, toks := _ } _ _ _ own past p ?hΓ B' F' X' K' topProg _ T' ?hdp ?hu sc vs.toArray xs (ghost_list hT hL) (by simpa using hint) (by simp; omega) ?hm N' ?k
  case hΓ => exact (hB.goto _).in
  case hdp => decide
  case hu => decide
  case hm => rfl
  case k =>
    rintro h' tk' j m' F9 ⟨tab', htab⟩
    have keep : ∀ b o, b ∉ [46] → s₁.heap.get? b = some o → h'.get? b = some o := fun b o hb e => F9.keep b o (ghost_ne e hb)
    have old46 : ∀ b o, b ∈ [46] → s₁.heap.get? b = some o → isCodeTable s₁.heap b ∧ o = tabObj #[] ∧ h'.get? b = some (tabObj tab') := fun b o hb e => by
      rw [List.mem_singleton] at hb
      subst hb
      have hq := hT (50, 46) (.head _)
      have e2 := hq.2
      dsimp only at e2
      rw [e] at e2
      exact ⟨(hq.1.tab hq.2).isCodeTable, Option.some.inj e2, htab⟩
    refine ⟨.inl ⟨.bool true, .bool true, [], rfl, fun _ => rfl, ReadsW.bool true, (by first | rfl | decide | wrow_post), fun _ => ⟨List.nodup_nil, fun _ hm => (nomatch hm)⟩⟩, ⟨fun b o e => ?_, fun b o e => ?_⟩, rfl, ?_⟩
    · by_cases hb : b ∈ [46]
      · obtain ⟨ht, rfl, hP⟩ := old46 b o hb e
        exact .inr (.inl ⟨ht, rfl, #[], tab', rfl, by rw [Array.empty_append]; exact hP⟩)
      · exact .inl (keep b o hb e)
    · by_cases hb : b ∈ [46]
      · obtain ⟨_, _, hP⟩ := old46 b o hb e
        exact ⟨_, hP⟩
      · exact ⟨o, keep b o hb e⟩
    · intro y hy
      have : y ∈ s₁.gens ++ Array.replicate j GenState.finished := hy
      rw [hgens, Array.mem_append] at this
      rcases this with h | h
      · simp at h
      · rw [(Array.mem_replicate.mp h).2]; rfl
theorem top2 : PySem.Challenge.rw_mr0145_01.Holds := by
  refine useIt hd ?_
  unfold WalkC
  intro w s₀ s₁ mg mb G Y a o pm cd doc dV kV ho hod hcd hdf hmg hgens args vals as hpre hlay hreads hwell hlow own past p
  have X39 : (hd.heap_39 w.params).In s₁.heap := kIn_of Y
  have X := k1_in X39
  have T := G.T
  have ha : a = 109 := by
    have h1 := mg_of (n := Str.ofString "law") (v := .ref 109) X T.g (by k_is)
    rw [show mg (Str.ofString "law") = some (.ref a) from hmg] at h1
    exact Value.ref.inj (Option.some.inj h1)
  subst ha
  clear hod hcd hdf hmg ho G Y o pm cd doc dV kV
  wrow_args hpre hlay hreads hwell hlow
  rename Heap.IsList _ _ _ => hL
  rename IntsAre _ _ => hI
  rename ¬ _ => h63
  have hT : TabsAt [(50, 46)] s₁.heap := fun q hq => by
    rw [List.mem_singleton] at hq
    subst hq
    exact tab_of (x := Str.ofString "_platform") T X rfl (by kernel_rfl)
  refine Sem.wp_mono _ _ _ (fun _ _ _ h => h) (fun _ _ _ h => h.elim) p s₁ (top1 w s₁ _ _ mg mb _ _ _ _ X39 X T hgens hT _ _ _ hL hI (by omega) own past p)
end Mine
end
set_option maxRecDepth 100000 in
set_option maxHeartbeats 8000000 in
theorem PySem.Challenge.cw_mr0145_01_holds : PySem.Challenge.rw_mr0145_01.Holds := by
  exact Mine.top2
