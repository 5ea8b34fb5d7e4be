import PyProof.Rows.All
import Wide.All
import OpenK.AllK
import Wide.FinOn
import PySem.Challenge.RW_jr0034_01
open PySem PySem.W PySem.Calls PyProof.Rows
set_option Elab.async false
set_option maxRecDepth 100000
set_option maxHeartbeats 8000000
/- part S1 -/
namespace Mine
def badIds : List String := ["bytearray.__contains__", "bytearray.__mod__", "bytearray.__rmod__", "_struct.pack_into.held", "bytearray.find.held"] ++ Builtin.Bytes.decodersThatHold
def okCode : Code → Bool
  | .builtin id _ => !badIds.contains id
  | _ => true
def Cl (Γ : PySem.Ctx) : Prop := okCode Γ.code = true ∧ ∀ x ∈ Γ.below, okCode x.1 = true
def ClB (Γ : PySem.Ctx) : Prop := ∀ x ∈ Γ.below, okCode x.1 = true
def wpS {α : Type} (M : Model) (A : Around) (t : Sem α) (Q : α → Shared → Prop) (s : Shared) : Prop :=
  ∀ Γ p, Γ.In A → Cl Γ → Sem.wp M Γ t (fun a _ s' => Q a s') (fun _ _ _ => False) p s
def codeS (M : Model) (A : Around) (c : Code) (R : Flow → Shared → Prop) (s : Shared) : Prop :=
  ∀ Γ p, Γ.code = c → Γ.Below A → ClB Γ → wpCode M Γ (fun r s' => ∃ f, r = .ok f ∧ R f s') p s
section
variable {α β : Type} {M : Model} {A : Around} {s : Shared}
theorem wpS_of {t : Sem α} {Q : α → Shared → Prop} (h : wpAny M A t Q (fun _ _ => False) s) : wpS M A t Q s := fun Γ p hΓ _ => h Γ p hΓ
theorem wpS_pure {a : α} {Q : α → Shared → Prop} (h : Q a s) : wpS M A (pure a) Q s := fun _ _ _ _ => h
theorem wpS_mono {t : Sem α} {Q Q' : α → Shared → Prop} (h : wpS M A t Q s) (hQ : ∀ a s, Q a s → Q' a s) : wpS M A t Q' s :=
  fun Γ p hΓ hc => Sem.wp_mono M Γ t (fun a _ s => hQ a s) (fun _ _ _ x => x) p s (h Γ p hΓ hc)
theorem wpS_bind {m : Sem α} {f : α → Sem β} {Q : β → Shared → Prop} (h : wpS M A m (fun a s' => wpS M A (f a) Q s') s) : wpS M A (m >>= f) Q s := fun Γ p hΓ hc => by
  rw [Sem.wp_bind']
  exact Sem.wp_mono M Γ m (fun a p' s' h' => h' Γ p' hΓ hc) (fun _ _ _ h' => h') p s (h Γ p hΓ hc)
theorem wpS_onRaise {m : Sem α} {k : Value → Sem Unit} {Q : α → Shared → Prop} (h : wpS M A m Q s) : wpS M A (m.onRaise k) Q s := fun Γ p hΓ hc => by
  rw [Sem.wp_onRaise]
  exact Sem.wp_mono M Γ m (fun _ _ _ h' => h') (fun _ _ _ h' => h'.elim) p s (h Γ p hΓ hc)
theorem wpS_tryCatch {m : Sem α} {k : Value → Sem α} {Q : α → Shared → Prop} (h : wpS M A m Q s) : wpS M A (tryCatch m k) Q s := fun Γ p hΓ hc => by
  rw [Sem.wp_tryCatch']
  exact Sem.wp_mono M Γ m (fun _ _ _ h' => h') (fun _ _ _ h' => h'.elim) p s (h Γ p hΓ hc)
theorem wpS_holding {vs : List Value} {m : Sem α} {Q : α → Shared → Prop} (h : wpS M A m Q s) : wpS M A (holding vs m) Q s :=
  fun Γ p hΓ hc => by rw [Sem.wp_holding]; exact h Γ p hΓ hc
theorem wpS_keep {vs : List Value} {m : Sem α} {Q : α → Shared → Prop} (h : wpS M A m Q s) : wpS M A (m.keep vs) Q s :=
  fun Γ p hΓ hc => by rw [Sem.wp_keep]; exact h Γ p hΓ hc
theorem wpS_standAt {pos : Pos} {Q : Unit → Shared → Prop} (h : Q () s) : wpS M A (standAt pos) Q s := fun _ _ _ _ => h
theorem wpS_rule {tag : String} {Q : Unit → Shared → Prop} (h : Q () s) : wpS M A (rule tag) Q s := fun _ _ _ _ => h
theorem wpS_point {Q : Unit → Shared → Prop} (h : Q () s) : wpS M A point Q s := fun _ _ _ _ => h
theorem wpS_of_eq {t : Sem α} {a : α} {Q : α → Shared → Prop} (e : t = pure a) (h : Q a s) : wpS M A t Q s := by subst e; exact wpS_pure h
theorem wpS_stack {Q : List (Code × Pos) → Shared → Prop} (h : ∀ st : List (Code × Pos), (∀ x ∈ st, okCode x.1 = true) → Q st s) : wpS M A stack Q s := fun Γ p _ hc => by
  show Q ((Γ.code, p) :: Γ.below) s
  refine h _ fun x hx => ?_
  rcases List.mem_cons.mp hx with rfl | hx
  · exact hc.1
  · exact hc.2 x hx
theorem wpS_units_le {t : Sem α} {Q : α → Shared → Prop} {u : Nat} (h : wpS M A t Q s) (hu : u ≤ A.units) : wpS M { A with units := u } t Q s :=
  fun Γ p hΓ hc => h Γ p (hΓ.units_le hu) hc
theorem codeS_mono {c : Code} {R R' : Flow → Shared → Prop} (h : codeS M A c R s) (hR : ∀ f s, R f s → R' f s) : codeS M A c R' s :=
  fun Γ p hc hΓ hk => wpCode_mono (fun _ s ⟨f, e, h⟩ => ⟨f, e, hR f s h⟩) (h Γ p hc hΓ hk)
theorem codeS_of_tree {c : Code} {R : Flow → Shared → Prop}
    (h : wpS M (A.under c) (M.den c) (fun fin s' => match fin with | .done f => R f s' | .again c' => c'.quiet = true ∧ codeS M A c' R s') s)
    (ok : okCode c = true) : codeS M A c R s := fun Γ p hc hΓ hk => by
  rw [wpCode_iff_wp, hc]
  refine Sem.wp_mono M Γ _ (fun fin p' s' h' => ?_) (fun _ _ _ h' => h'.elim) p s (h Γ p (hc ▸ hΓ.in) ⟨by rw [hc]; exact ok, hk⟩)
  cases fin with
  | done f => exact ⟨f, rfl, h'⟩
  | again c' => exact ⟨h'.1, h'.2 (Γ.goto c') p' rfl (hΓ.goto c') hk⟩
theorem clB_enter {Γ : PySem.Ctx} (hc : Cl Γ) (c : Code) (h : Option Value) (p : Pos) : ClB (Γ.enter c h p) := fun x hx => by
  rcases List.mem_cons.mp hx with rfl | hx
  · exact hc.1
  · exact hc.2 x hx
theorem wpS_run {c : Code} {Q : Flow → Shared → Prop} (hc : codeS M A c Q s) : wpS M A (run c none) Q s := fun Γ p hΓ hk => by
  rw [Sem.wp_run]
  exact wpCode_mono (fun r s' ⟨f, e, h⟩ => by subst e; exact h) (hc _ p rfl (hΓ.enter c none p (by intro x; cases x)) (clB_enter hk c none p))
theorem wpS_runValue {c : Code} {Q : Value → Shared → Prop} (hc : codeS M A c (fun f s' => ∃ v, f = .ret v ∧ Q v s') s) : wpS M A (runValue c) Q s := fun Γ p hΓ hk => by
  rw [Sem.wp_runValue]
  exact wpCode_mono (fun r s' ⟨f, e, v, e', h⟩ => by subst e; subst e'; exact h) (hc _ p rfl (hΓ.enter c none p (by intro x; cases x)) (clB_enter hk c none p))
theorem wpS_call {f : Value} {pos : List Value} {kw : List (PySem.Str × Value)} {Q : Value → Shared → Prop}
    (hc : codeS M A (.call f ⟨pos, kw⟩) (fun f s' => ∃ v, f = .ret v ∧ Q v s') s) : wpS M A (call f pos kw) Q s := wpS_runValue hc
theorem codeS_of_any {c : Code} {R : Flow → Shared → Prop} (h : codeAny M A c (fun r s' => match r with | .ok f => R f s' | .error _ => False) s) : codeS M A c R s :=
  fun Γ p hc hΓ _ => wpCode_mono (fun r s' hr => by cases r with | ok f => exact ⟨f, rfl, hr⟩ | error e => exact hr.elim) (h Γ p hc hΓ)
end
/-! the head: a tree that looks at the stack first -/
def cleanSt (st : List (Code × Pos)) : Bool := st.all fun x => okCode x.1
def pinned {α : Type} (t : Sem α) (d : α) : Sem α := .stack fun st => if cleanSt st = true then t else pure d
theorem clean_iff {Γ : PySem.Ctx} {p : Pos} : cleanSt ((Γ.code, p) :: Γ.below) = true ↔ Cl Γ := by
  unfold cleanSt Cl
  simp [List.all_eq_true]
theorem pinned_wp {α : Type} {M : Model} {A : Around} {s : Shared} {t : Sem α} {d : α} {Q : α → Shared → Prop} {E : Value → Shared → Prop} (hd : Q d s) (h : wpS M A t Q s) : wpAny M A (pinned t d) Q E s := fun Γ p hΓ => by
  unfold pinned
  rw [Sem.wp_stack]
  by_cases hc : cleanSt ((Γ.code, p) :: Γ.below) = true
  · rw [if_pos hc]
    exact Sem.wp_mono M Γ t (fun _ _ _ x => x) (fun _ _ _ x => x.elim) p s (h Γ p hΓ (clean_iff.mp hc))
  · rw [if_neg hc]
    exact hd
theorem sstep_stack {prog : Program} {w : World} {s : Shared} (hz : s.asleep) (k : List (Code × Pos) → Sem Fin) (c : Code) (p : Pos) :
    sstep (denote table) prog w (.single s ⟨.stack k, c, p, []⟩) = .go (.single s ⟨k [(c, p)], c, p, []⟩) := by
  have hcalm : Thread.calm ⟨.stack k, c, p, []⟩ = true := by
    cases c <;> rfl
  have hsp : Thread.special ⟨.stack k, c, p, []⟩ = false := by
    cases c <;> rfl
  unfold sstep
  rw [pick_single w s _ hcalm hz.1]
  obtain ⟨heap, gens, drawn, toks, os⟩ := s
  simp only [Config.move, Config.run, Config.single, entering_same]
  simp only [List.getElem?_toArray, List.getElem?_cons_zero, if_true, hsp, Bool.false_eq_true, if_false]
  rw [lifeStep_eq_step _ _ _ _ _ _ hsp hz.2]
  simp [step, Thread.finalizes]
theorem callFrom_pinned {c : ClaimW} {tree : List Value → Sem Fin} {d : Fin} {w : World} {free : Addr → Prop} {gens : Prop} {kept : Heap → Prop} {s₀ : Shared} (hz : s₀.asleep)
    (h : c.CallFrom (fun vs => ⟨pinned (tree vs) d, .builtin "claim.caller" {}, default, []⟩) w free gens kept s₀) :
    c.CallFrom (fun vs => ⟨tree vs, .builtin "claim.caller" {}, default, []⟩) w free gens kept s₀ := by
  intro args hp hl ord ho
  obtain ⟨vs, s₁, laid, n, o, s', hs, rest⟩ := h args hp hl ord ho
  have hz1 : s₁.asleep := Shared.asleep_of_life (layAllW_rest _ _ _ laid).2.2.2 hz
  cases n with
  | zero => cases hs
  | succ n =>
    have e : schedN (denote table) c.prog w (n + 1) (.single s₁ ⟨pinned (tree vs) d, .builtin "claim.caller" {}, default, []⟩) = schedN (denote table) c.prog w n (.single s₁ ⟨tree vs, .builtin "claim.caller" {}, default, []⟩) := by
      rw [schedN]
      unfold pinned
      rw [sstep_stack hz1]
      have hcl : cleanSt [((Code.builtin "claim.caller" {} : Code), (default : Pos))] = true := by decide +kernel
      dsimp only
      rw [if_pos hcl]
    rw [e] at hs
    exact ⟨vs, s₁, laid, n, o, s', hs, rest⟩
theorem asleep_of_top {p : Program} {w : World} {s s₀ s₁ : Shared} (hs : AfterRun (opening p) w s) (hf : fenceModules? p s = some s₀) (hT : TopRan p w s₀ s₁) : s₁.asleep :=
  Shared.asleep_of_life hT.2.1 (Shared.asleep_of_life (fence_lifeW hf) (AfterImport.life hs))
theorem holdsOpen_pinned {c : ClaimW} {tree : List Value → Sem Fin} {d : Fin} {defs keeps : List PySem.Str} {writes : Bool}
    (h : c.HoldsOpenBy (fun vs => ⟨pinned (tree vs) d, .builtin "claim.caller" {}, default, []⟩) defs keeps writes) :
    c.HoldsOpenBy (fun vs => ⟨tree vs, .builtin "claim.caller" {}, default, []⟩) defs keeps writes := by
  obtain ⟨h1, h2, h3⟩ := h
  refine ⟨h1, h2, fun w => ⟨(h3 w).1, fun s hs => ?_⟩⟩
  obtain ⟨s₀, hf, hg, s₁, hT, a, b, d', hC⟩ := (h3 w).2 s hs
  exact ⟨s₀, hf, hg, s₁, hT, a, b, d', callFrom_pinned (asleep_of_top hs hf hT) hC⟩
abbrev WalkS (q : Program) (loose : List PySem.Str) (XP : (PySem.Str → Option Value) → Heap → Prop) (YP : World → Heap → Prop) (r : RowW) (d : DefRec) (kwd : List (PySem.Str × PySem.Expr)) : Prop :=
  ∀ (w : World) (s₀ s₁ : Shared) (mg mb : PySem.Str → Option Value), Ground q loose r.records XP w s₀ mg mb s₁.heap → YP w s₁.heap → ∀ (a : Addr) (o : Obj) (pm cd doc dV kV : Value), s₁.heap.get? a = some o →
    o.data = .func { docDef d.name d.params d.body d.scope pm cd doc with defaults := dV, kwdefaults := kV } → s₁.heap.CodeRec cd d.name → Dflts mg s₁.heap d.params kwd dV kV → mg d.name = some (.ref a) → s₁.gens = #[] →
    ∀ (args : List WData) (vals : List Value) (as : List Addr), r.claim.pre args = true → WData.layableAll args = true → ReadsAllW r.records (classAt s₀.heap) s₁.heap vals args as → WellAll w.params s₁.heap vals args → (∀ a ∈ as, (a == sysModules) = false) →
      GoodWG r.claim (classAt s₀.heap) (ExcName.means s₀.heap) args s₁ (.ok (.ret (.bool true))) s₁ ∧
      wpS (model r.prog w) callerA (PySem.call (.ref a) vals) (fun v s' => GoodWG r.claim (classAt s₀.heap) (ExcName.means s₀.heap) args s₁ (.ok (.ret v)) s') s₁
/-- what o_head asks of a head, with the call in clean contexts alone -/
theorem PySem.W.holds_open {r : OpenRow} {q : Program} {loose : List PySem.Str} {Xt : Shared → Bool} {XP : (PySem.Str → Option Value) → Heap → Prop} {α : Type} {Yf : Shared → α} {Ya : World → α} {YP : World → Heap → Prop} {d : DefRec} {kwd : List (PySem.Str × PySem.Expr)} {N : Nat}
    (left : LeftO r.prog q loose Xt Yf Ya N) (hY : ∀ w s, Yf s = Ya w → YP w s.heap) (hYk : ∀ w h h', YP w h → (∀ b o, h.get? b = some o → h'.get? b = some o) → YP w h')
    (hX : ∀ s, Xt s = true → XP (s.heap.nsMap mainGlobals) s.heap) (hXk : ∀ mg h h', XP mg h → (∀ b o, h.get? b = some o → h'.get? b = some o) → XP mg h')
    (hdef : defOf q r.name = some (d, kwd)) (hp : r.prog.theDef r.name = some (d.params, d.body, d.scope)) (hk : kwWritten? d.params.kwonlyargs d.params.kw_defaults = some kwd) (hRf : ∀ s, Xt s = true → RecFacts r.records s.heap) (hwr : (!r.writes || r.records.isEmpty) = true)
    (k1 : r.wellSaid = true) (ok : (chainsOk q && opensWell r.prog && (frees r.toRowW && r.within.isEmpty)) = true) (hb : r.prog.bare) (hw : r.toRowW.promised)
    (call : WalkS q loose XP YP r.toRowW d kwd) : r.Holds := by
  refine ⟨k1, hw, holdsOpen_pinned (d := .done (.ret (.bool true))) (open_anyG (r := r.toRowW) (run := fun f vs => pinned (PySem.call f vs) (.bool true)) (tree := fun vs => pinned (do match ← nsGet mainNs r.name with
      | some f => do ret (← PySem.call f vs)
      | none => unsupported "claim.caller:no-such-global") (.done (.ret (.bool true)))) left hY hYk hX hXk hRf hwr ok hb hw ?_
    (fun w s hg G n hn => ?_) fun w s₀ s₁ mg mb G Y args vs as hpre hlay L low => ?_)⟩
  · intro vs w s mg f Q E hg hf h Γ p hΓ
    have h' := h Γ p hΓ
    unfold pinned at h' ⊢
    rw [Sem.wp_stack] at h' ⊢
    by_cases hc : cleanSt ((Γ.code, p) :: Γ.below) = true
    · rw [if_pos hc] at h' ⊢
      rw [Sem.wp_bind']
      have hn := (Sem.wp_nsGet (model r.prog w) Γ (fun _ _ _ => False) p s hg r.name (fun a p' s' => p' = p ∧ s' = s ∧ a = some f)).mpr ⟨rfl, rfl, hf⟩
      refine Sem.wp_mono _ Γ _ (fun a p' s' ⟨e1, e2, e3⟩ => ?_) (fun _ _ _ x => x.elim) p s hn
      subst e1; subst e2; subst e3
      dsimp only
      rw [Sem.wp_bind']
      exact Sem.wp_mono _ Γ _ (fun _ _ _ x => x) (fun _ _ _ x => x) _ _ h'
    · rw [if_neg hc] at h' ⊢
      exact h'
  · obtain rfl : n = r.name := by split at hn <;> simp_all
    exact pinned_of_view hg G hdef hp hk
  · obtain ⟨a, o, pm, cd, doc, dV, kV, h1, h2, h3, h4, h5⟩ := G.fn hdef
    obtain ⟨g, h⟩ := call w s₀ s₁ mg mb G Y a o pm cd doc dV kV h2 h3 h4 h5 (defOf_name hdef ▸ h1) L.gens args vs as hpre hlay L.reads L.well (L.low low)
    exact ⟨.ref a, h1, pinned_wp g h⟩
end Mine
/- part S2h -/
namespace Mine
noncomputable def hd.view_39 : Program := match PySem.Challenge.pw_jr0034_01.main.body with
  | [s0, _, s2, s3, s4, s5, s6, s7, s8, s9, s10, s11, s12, s13, _, _, s16, s17, s18] => { PySem.Challenge.pw_jr0034_01 with main := { PySem.Challenge.pw_jr0034_01.main with body := [s0, s2, s3, s4, s5, s6, s7, s8, s9, s10, s11, s12, s13, s16, s17, s18] } }
  | _ => PySem.Challenge.pw_jr0034_01
theorem holdsBoth {r : OpenRow} {q : Program} {loose : List PySem.Str} {Xt : Shared → Bool} {XP : (PySem.Str → Option Value) → Heap → Prop} {α : Type} {Yf : Shared → α} {Ya : World → α} {YP : World → Heap → Prop} {d : DefRec} {kwd : List (PySem.Str × PySem.Expr)} {N : Nat}
    (hY : ∀ w s, Yf s = Ya w → YP w s.heap) (hYk : ∀ w h h', YP w h → (∀ b o, h.get? b = some o → h'.get? b = some o) → YP w h')
    (hX : ∀ s, Xt s = true → XP (s.heap.nsMap mainGlobals) s.heap) (hXk : ∀ mg h h', XP mg h → (∀ b o, h.get? b = some o → h'.get? b = some o) → XP mg h')
    (hdef : defOf q r.name = some (d, kwd)) (hp : r.prog.theDef r.name = some (d.params, d.body, d.scope)) (hk : kwWritten? d.params.kwonlyargs d.params.kw_defaults = some kwd) (hRf : ∀ s, Xt s = true → RecFacts r.records s.heap) (hwr : (!r.writes || r.records.isEmpty) = true)
    (k1 : r.wellSaid = true) (ok : (chainsOk q && opensWell r.prog && (frees r.toRowW && r.within.isEmpty)) = true) (hb : r.prog.bare) (hw : r.toRowW.promised)
    (both : LeftO r.prog q loose Xt Yf Ya N ∧ WalkS q loose XP YP r.toRowW d kwd) : r.Holds := PySem.W.holds_open both.1 hY hYk hX hXk hdef hp hk hRf hwr k1 ok hb hw both.2
abbrev WalkOf {L W C : Prop} (_ : L ∧ W → C) : Prop := W
section
local macro_rules | `(tactic| o_law) => `(tactic| refine holds_law (by kernel_rfl) fun said => ?_)
local macro_rules | `(tactic| o_head $H) => `(tactic|
  refine holdsBoth (q := hd.view_39) (loose := [PySem.Str.ofString "ResizableFile", PySem.Str.ofString "createJournal"]) (Xt := fun s => xlAt hd.view_39 [] s && recOk (RowW.records (OpenRow.toRowW (OpenLaw.row PySem.Challenge.rw_jr0034_01))) s) (XP := XL hd.view_39 []) (Yf := Hook.obs $H) (Ya := Hook.val $H) (YP := Hook.says $H) (N := 6120) (Hook.of $H) (Hook.keeps $H) (fun s e => xl_of s (Bool.and_eq_true_iff.mp e).1) XL.keeps (by rfl) (by rfl) (by rfl) (fun s e => recFacts_of (Bool.and_eq_true_iff.mp e).2) (by rfl) (by first | assumption | decide +kernel) (by decide +kernel) ⟨rfl, rfl, rfl, rfl, rfl, by decide +kernel⟩ ?hw ?hc)
open_top hd for PySem.Challenge.rw_jr0034_01
end
end Mine
/- part S3 -/
namespace Mine
abbrev noE : Value → Shared → Prop := fun _ _ => False
section
variable {α β : Type} {M : Model} {A : Around} {s : Shared} {env : Env} {prog : Program} {w : World}
theorem wpS_bindAny {m : Sem α} {f : α → Sem β} {Q : β → Shared → Prop} (h : wpAny M A m (fun a s' => wpS M A (f a) Q s') noE s) : wpS M A (m >>= f) Q s := wpS_bind (wpS_of h)
theorem S_cons {st : Stmt} {rest : List Stmt} {Q : Flow → Shared → Prop} (h : wpS M A (exec st env) (fun f s' => match f with | .next => wpS M A (execs rest env) Q s' | f => Q f s') s) : wpS M A (execs (st :: rest) env) Q s := by
  rw [execs_cons]
  refine wpS_bind (wpS_mono h fun f s' h' => ?_)
  cases f <;> first | exact h' | exact wpS_pure h'
theorem S_nil {Q : Flow → Shared → Prop} (h : Q .next s) : wpS M A (execs [] env) Q s := wpS_pure h
/-- a statement that leaves the stack's look alone -/
theorem S_clean {st : Stmt} {rest : List Stmt} {Q : Flow → Shared → Prop} (h : wpAny M A (exec st env) (fun f s' => match f with | .next => wpS M A (execs rest env) Q s' | f => Q f s') noE s) : wpS M A (execs (st :: rest) env) Q s := S_cons (wpS_of h)
theorem S_Expr {e : PySem.Expr} {pos : Pos} {Q : Flow → Shared → Prop} (h : wpS (model prog w) A (eval e env) (fun _ => Q .next) s)
    (hi : interactive env = false := by rfl) (hs : swapsWith e none pos.line env = pure false := by rfl) : wpS (model prog w) A (exec (.Expr e pos) env) Q s := by
  rw [exec_Expr env e pos hi hs]
  exact wpS_bind (wpS_standAt (wpS_bind (wpS_mono h fun v s' h' => wpS_of (wpAny_dropValue h'))))
theorem S_If {test : PySem.Expr} {body orelse : List Stmt} {pos : Pos} {Q : Flow → Shared → Prop} (h : wpS M A (isTrue test env (eval test env)) (fun b s₂ => if b then wpS M A (execs body env) Q s₂ else wpS M A (execs orelse env) Q s₂) s) :
    wpS M A (exec (.If test body orelse pos) env) Q s := by
  rw [exec_If]
  refine wpS_bind (wpS_standAt (wpS_bind (wpS_mono h fun b s₂ h₂ => ?_)))
  cases b <;> exact h₂
theorem S_Return {e : PySem.Expr} {pos : Pos} {Q : Flow → Shared → Prop} (h : wpS M A (eval e env) (fun v => Q (.ret v)) s) : wpS M A (exec (.Return (some e) pos) env) Q s := by
  rw [exec_Return_some]
  exact wpS_bind (wpS_standAt (wpS_bind (wpS_mono h fun v s' h' => wpS_pure h')))
theorem S_AssignAttr {o : PySem.Expr} {attr : PySem.Str} {pos' : Pos} {value : PySem.Expr} {pos : Pos} {Q : Flow → Shared → Prop}
    (h : wpS M A (eval value env) (fun v s₁ => wpAny M A (eval o env) (fun ov s₂ => wpAny M A (setAttr ov attr v) (fun _ => Q .next) noE s₂) noE s₁) s)
    (hs : swapsWith value (some (.Attribute o attr pos')) pos.line env = pure false := by rfl) :
    wpS M A (exec (.Assign [.Attribute o attr pos'] value pos) env) Q s := by
  rw [plainObj_exec_Assign_Attribute o attr pos' value pos hs]
  refine wpS_bind (wpS_standAt (wpS_bind (wpS_mono h fun v s₁ h₁ => wpS_of ?_)))
  refine wpAny_bind (wpAny_mono (Q := fun _ => Q .next) (E := noE) ?_ (fun _ _ x => wpAny_pure x) fun _ _ x => x)
  intro Γ p hΓ
  simp only [assign_Attribute, Sem.wp_bind', Sem.wp_holding, Sem.wp_cmd_standAt, Sem.wp_release]
  exact Sem.wp_mono M Γ _ (fun ov _ s₂ h₂ => h₂ Γ _ hΓ) (fun _ _ _ h' => h') _ _ (h₁ Γ p hΓ)
theorem S_AssignTuple {elts : List PySem.Expr} {k : Nat} {tpos : Pos} {value : PySem.Expr} {pos : Pos} {Q : Flow → Shared → Prop}
    (h : wpS M A (eval value env) (fun v s₁ => wpAny M A (assign (.Tuple elts k tpos) env v) (fun _ => Q .next) noE s₁) s)
    (hs : swapsWithSole [.Tuple elts k tpos] value pos.line env = pure false := by rfl)
    (hw : swappedStores [.Tuple elts k tpos] value env = pure none := by rfl) :
    wpS M A (exec (.Assign [.Tuple elts k tpos] value pos) env) Q s := by
  rw [exec_Assign]
  refine wpS_bind (wpS_standAt ?_)
  rw [hs]
  refine wpS_bind (wpS_pure ?_)
  rw [if_neg (by decide)]
  refine wpS_bind (wpS_mono h (fun v s₁ h₁ => ?_))
  rw [hw]
  refine wpS_bind (wpS_pure (wpS_of ?_))
  show wpAny M A (do assignAll v [assign (.Tuple elts k tpos) env]; pure .next) Q noE s₁
  exact wpAny_bind (wpAny_mono h₁ (fun _ _ x => wpAny_pure x) fun _ _ x => x)
theorem S_isTrue_not {x : PySem.Expr} {pos : Pos} {whole : Sem Value} {Q : Bool → Shared → Prop} (h : wpS M A (isTrue x env (eval x env)) (fun c s' => Q (!c) s') s) :
    wpS M A (isTrue (.UnaryOp .Not x pos) env whole) Q s := by
  show wpS M A (do return !(← isTrue x env (eval x env))) Q s
  exact wpS_bind (wpS_mono h (fun c s' h' => wpS_pure h'))
theorem S_isTrue_plain {e : PySem.Expr} {whole : Sem Value} {Q : Bool → Shared → Prop} (h : wpS M A whole (fun v s₁ => wpAny M A (truthy v) Q noE s₁) s)
    (he : isTrue e env whole = (do let v ← whole; standAt e.pos; holding [v] (truthy v)) := by rfl) : wpS M A (isTrue e env whole) Q s := by
  rw [he]
  exact wpS_bind (wpS_mono h (fun v s₁ h₁ => wpS_bind (wpS_standAt (wpS_holding (wpS_of h₁)))))
theorem S_spliced_nil {Q : List Value → Shared → Prop} (h : Q [] s) : wpS M A (spliced []) Q s := wpS_pure h
theorem S_spliced_cons {x : Sem Value} {rest : List (Bool × Sem Value)} {Q : List Value → Shared → Prop}
    (h : wpS M A x (fun v s₁ => wpS M A (spliced rest) (fun vs s₂ => Q (v :: vs) s₂) s₁) s) : wpS M A (spliced ((false, x) :: rest)) Q s := by
  rw [spliced]
  refine wpS_bind (wpS_mono h (fun v s₁ h₁ => ?_))
  simp only [Bool.false_eq_true, if_false]
  exact wpS_bind (wpS_pure (wpS_bind (wpS_holding (wpS_mono h₁ (fun vs s₂ h₂ => wpS_pure h₂)))))
theorem S_Tuple {elts : List PySem.Expr} {k : Nat} {pos : Pos} {Q : Value → Shared → Prop}
    (h : wpS M A (spliced (backTo pos (starEach elts env))) (fun vs s₁ => wpAny M A (newTuple vs) Q noE s₁) s) : wpS M A (eval (.Tuple elts k pos) env) Q s := by
  show wpS M A (do standAt pos; newTuple (← spliced (backTo pos (starEach elts env)))) Q s
  exact wpS_bind (wpS_standAt (wpS_bind (wpS_mono h fun vs s₁ h₁ => wpS_of h₁)))
theorem S_callWith_of {P : Heap → Prop} {pos : Pos} {f : Value} {first : List Value} {Q : Value → Shared → Prop} {args : List (Bool × Sem Value)} {keywords : List (Option PySem.Str × Sem Value)} (hplain : (args.any (·.1) || keywords.any (·.1.isNone)) = false)
    (hk : ∀ h, P h → ∃ k, (k = Keeper.frame ∨ k = Keeper.machine ∨ k = Keeper.boundFrame) ∧ Looks M h (keeperOf f) k)
    (h : wpS M A (evalArgs f true args keywords) (fun a s₁ => P s₁.heap ∧ wpS M A (call f (first ++ a.pos) a.kw) Q s₁) s) : wpS M A (callWith pos f first args keywords) Q s := by
  unfold callWith
  refine wpS_bind (wpS_holding (wpS_mono h (fun a s₁ h₁ => wpS_bind (wpS_standAt ?_))))
  obtain ⟨k, hk', L⟩ := hk _ h₁.1
  simp only [hplain]
  refine wpS_bindAny (L.here ?_)
  have tail : ∀ {t : Sem Value}, wpS M A t Q s₁ → wpS M A (t >>= fun r => holding [r] point >>= fun _ => pure r) Q s₁ :=
    fun ht => wpS_bind (wpS_mono ht (fun r s₂ hr => wpS_bind (wpS_holding (wpS_point (wpS_pure hr)))))
  have marked (mk : Value) : wpS M A (callMarked mk f (first ++ a.pos) a.kw) Q s₁ := by unfold callMarked; exact wpS_keep h₁.2
  rcases hk' with rfl | rfl | rfl <;> dsimp only <;> first | exact tail h₁.2 | (split <;> first | exact tail h₁.2 | exact tail (marked _))
theorem S_evalArgs {f : Value} {x : Sem Value} {rest : List (Bool × Sem Value)} {Q : Args → Shared → Prop}
    (h : wpS M A (spliced ((false, x) :: rest)) (fun vs s' => Q ⟨vs, []⟩ s') s) : wpS M A (evalArgs f true ((false, x) :: rest) []) Q s := by
  unfold evalArgs
  show wpS M A (spliced ((false, x) :: rest) >>= _) Q s
  refine wpS_bind (wpS_mono h (fun vs s' h' => ?_))
  refine wpS_holding ?_
  exact wpS_bind (wpS_pure (wpS_bind (wpS_pure (wpS_pure h'))))
theorem S_callWith {K : Frag} {pos : Pos} {f : Value} {first : List Value} {e : PySem.Expr} {rest : List PySem.Expr} {Q : Value → Shared → Prop} (hk : keepIn K f = true)
    (h : wpS M A (spliced (backTo pos (starEach (e :: rest) env))) (fun vs s₁ => K.In s₁.heap ∧ wpS M A (call f (first ++ vs)) Q s₁) s)
    (he : starEach (e :: rest) env = (false, eval e env) :: starEach rest env := by rfl) (hplain : (backTo pos (starEach rest env)).any (·.1) = false := by rfl) :
    wpS M A (callWith pos f first (backTo pos (starEach (e :: rest) env)) []) Q s := by
  rw [he] at h ⊢
  exact S_callWith_of (by show ((false || (backTo pos (starEach rest env)).any (·.1)) || false) = false; rw [hplain]; rfl) (keeps_K hk) (S_evalArgs h)
theorem S_callWith0 {K : Frag} {pos : Pos} {f : Value} {first : List Value} {Q : Value → Shared → Prop} (X : K.In s.heap) (hk : keepIn K f = true) (h : wpS M A (call f (first ++ [])) Q s) :
    wpS M A (callWith pos f first (backTo pos (starEach [] env)) []) Q s :=
  S_callWith_of rfl (keeps_K hk) (wpS_of (evalArgs_nil3 ⟨X, h⟩))
theorem S_callWith_type {pos : Pos} {n : String} {first : List Value} {e : PySem.Expr} {rest : List PySem.Expr} {Q : Value → Shared → Prop}
    (h : wpS M A (spliced (backTo pos (starEach (e :: rest) env))) (fun vs s₁ => wpS M A (call (.type n) (first ++ vs)) Q s₁) s)
    (he : starEach (e :: rest) env = (false, eval e env) :: starEach rest env := by rfl) (hplain : (backTo pos (starEach rest env)).any (·.1) = false := by rfl) :
    wpS M A (callWith pos (.type n) first (backTo pos (starEach (e :: rest) env)) []) Q s := by
  rw [he] at h ⊢
  exact S_callWith_of (P := fun _ => True) (by show ((false || (backTo pos (starEach rest env)).any (·.1)) || false) = false; rw [hplain]; rfl)
    (fun h _ => ⟨.machine, .inr (.inl rfl), Looks.of_pure rfl⟩) (S_evalArgs (wpS_mono h fun vs s' h' => ⟨trivial, h'⟩))
theorem S_callWith_builtin {pos : Pos} {n : String} {first : List Value} {e : PySem.Expr} {rest : List PySem.Expr} {Q : Value → Shared → Prop}
    (h : wpS M A (spliced (backTo pos (starEach (e :: rest) env))) (fun vs s₁ => wpS M A (call (.builtin n) (first ++ vs)) Q s₁) s)
    (he : starEach (e :: rest) env = (false, eval e env) :: starEach rest env := by rfl) (hplain : (backTo pos (starEach rest env)).any (·.1) = false := by rfl) :
    wpS M A (callWith pos (.builtin n) first (backTo pos (starEach (e :: rest) env)) []) Q s := by
  rw [he] at h ⊢
  exact S_callWith_of (P := fun _ => True) (by show ((false || (backTo pos (starEach rest env)).any (·.1)) || false) = false; rw [hplain]; rfl)
    (fun h _ => ⟨.machine, .inr (.inl rfl), Looks.of_pure rfl⟩) (S_evalArgs (wpS_mono h fun vs s' h' => ⟨trivial, h'⟩))
/-- one positional argument and keywords, all looked at without the stack -/
theorem S_callWith_KW {K : Frag} {pos : Pos} {f : Value} {first : List Value} {e : PySem.Expr} {rest : List PySem.Expr} {kws : List Keyword} {Q : Value → Shared → Prop} (hk : keepIn K f = true) (hall : (backToKw pos (keywordEach kws env)).all (·.1.isSome) = true)
    (h : wpAny M A (spliced (backTo pos (starEach (e :: rest) env))) (fun vs s₁ => wpAny M A (evalAll ((backToKw pos (keywordEach kws env)).map (·.2)))
      (fun ks s₂ => K.In s₂.heap ∧ wpS M A (call f (first ++ vs) (((backToKw pos (keywordEach kws env)).filterMap (·.1)).zip ks)) Q s₂) noE s₁) noE s)
    (hplain : ((backTo pos (starEach (e :: rest) env)).any (·.1) || (backToKw pos (keywordEach kws env)).any (·.1.isNone)) = false := by rfl) (he : starEach (e :: rest) env = (false, eval e env) :: starEach rest env := by rfl) :
    wpS M A (callWith pos f first (backTo pos (starEach (e :: rest) env)) (backToKw pos (keywordEach kws env))) Q s :=
  S_callWith_of hplain (keeps_K hk) (wpS_of (evalArgs_kw2 hall h he))
theorem S_method {o : PySem.Expr} {name : PySem.Str} {apos pos : Pos} {args : List PySem.Expr} {kws : List Keyword} {pl : Sem Bool} {Q : Value → Shared → Prop}
    (h : wpAny M A (eval o env) (fun ov s₁ => wpAny M A (getMethod ov name pl) (fun fx s₂ => wpS M A (callWith pos fx.1 fx.2 (backTo pos (starEach args env)) (backToKw pos (keywordEach kws env))) Q s₂) noE s₁) noE s)
    (he : eval (.Call (.Attribute o name apos) args kws pos) env = (do
      let ov ← eval o env
      standAt apos.atName
      let (f, first) ← holding [ov] (getMethod ov name pl)
      callWith pos f first (backTo pos (starEach args env)) (backToKw pos (keywordEach kws env))) := by rfl) :
    wpS M A (eval (.Call (.Attribute o name apos) args kws pos) env) Q s := by
  rw [he]
  refine wpS_bindAny (wpAny_mono h (fun ov s₁ h₁ => wpS_bind (wpS_standAt (wpS_bindAny (wpAny_holding (wpAny_mono h₁ (fun fx s₂ h₂ => ?_) fun _ _ x => x))))) fun _ _ x => x)
  exact h₂
theorem S_Call_Name {id : PySem.Str} {p pos : Pos} {args : List PySem.Expr} {keywords : List Keyword} {Q : Value → Shared → Prop}
    (h : wpAny M A (eval (.Name id p) env) (fun f s₁ => wpS M A (callWith pos f [] (backTo pos (starEach args env)) (backToKw pos (keywordEach keywords env))) Q s₁) noE s) :
    wpS M A (eval (.Call (.Name id p) args keywords pos) env) Q s := by
  rw [arm_eval_Call_Name']
  exact wpS_bindAny h
theorem S_runOwn {c : Code} {Q : Flow → Shared → Prop} (hc : codeS M A c Q s) : wpS M A (runOwn c env none) Q s := by
  unfold runOwn
  exact wpS_onRaise (wpS_run hc)
theorem S_While {test : PySem.Expr} {body orelse : List Stmt} {pos : Pos} {Q : Flow → Shared → Prop} (h : codeS M A (.whileLoop test body orelse env) Q s) : wpS M A (exec (.While test body orelse pos) env) Q s := by
  rw [exec_While]
  exact wpS_bind (wpS_standAt (S_runOwn h))
theorem S_For {target iter : PySem.Expr} {body orelse : List Stmt} {pos : Pos} {Q : Flow → Shared → Prop}
    (h : wpS M A (eval iter env) (fun x s₁ => wpAny M A (pyIter x) (fun it s₂ => codeS M A (.forLoop target it body orelse env) Q s₂) noE s₁) s)
    (hs : ∀ x, foldedSetIterable iter env x = pure x := by intro _; rfl) :
    wpS M A (exec (.For target iter body orelse pos) env) Q s := by
  rw [exec_For]
  exact wpS_bind (wpS_standAt (wpS_bind (wpS_mono h (fun x s₁ h₁ => wpS_bind (wpS_of_eq (hs x) (wpS_bind (wpS_standAt (wpS_bindAny (wpAny_holding
    (wpAny_mono h₁ (fun it s₂ h₂ => S_runOwn h₂) fun _ _ h' => h'))))))))))
theorem codeS_block {body : List Stmt} {R : Flow → Shared → Prop} (h : wpS (model prog w) A (execs body env) R s) : codeS (model prog w) A (.block body env) R s := by
  refine codeS_of_tree ?_ rfl
  show wpS _ A (do return Fin.done (← (execs body env).onRaise (fun x => do noteFrame x env; theTreesLotGoes x))) _ s
  exact wpS_bind (wpS_onRaise (wpS_mono h fun f s' h' => wpS_pure h'))
theorem codeS_loop {c : Code} {R : Flow → Shared → Prop} (hq : c.quiet = true) (I : Nat → Shared → Prop)
    (turn : ∀ n s, I n s → wpS M (A.under c) (M.den c)
      (fun fin s' => match fin with | .done f => R f s' | .again c' => (c' = c ∧ ∃ m, m < n ∧ I m s') ∨ (c'.quiet = true ∧ codeS M A c' R s')) s)
    (ok : okCode c = true) (n : Nat) (h : I n s) : codeS M A c R s := by
  induction n using Nat.strongRecOn generalizing s with
  | ind n ih =>
    refine codeS_of_tree (wpS_mono (turn n s h) (fun fin s' hf => ?_)) ok
    cases fin with
    | done f => exact hf
    | again c' =>
      rcases hf with ⟨rfl, m, hm, hI⟩ | hf
      · exact ⟨hq, ih m hm hI⟩
      · exact hf
theorem codeS_while {test : PySem.Expr} {body orelse : List Stmt} {R : Flow → Shared → Prop} (I : Nat → Shared → Prop)
    (turn : ∀ n s, I n s →
      wpS (model prog w) A (isTrue test env (eval test env)) (fun b s₂ =>
        if b then wpS (model prog w) A (execs body env) (fun f s₃ => match f with
            | .next | .cont => ∃ m, m < n ∧ I m s₃
            | .brk => R .next s₃
            | .ret v => R (.ret v) s₃) s₂
        else wpS (model prog w) A (execs orelse env) (fun f s₃ => R f s₃) s₂) s)
    (n : Nat) (h : I n s) : codeS (model prog w) A (.whileLoop test body orelse env) R s := by
  refine codeS_loop rfl I (fun n s hI => ?_) rfl n h
  show wpS _ A ((whileTurn test body orelse env).onRaise (fun x => do noteFrame x env; theTreesLotGoes x)) _ s
  refine wpS_onRaise ?_
  simp only [whileTurn]
  refine wpS_bind (wpS_mono (turn n s hI) (fun b s₂ h₂ => ?_))
  cases b with
  | false =>
    simp only [Bool.false_eq_true, if_false] at h₂ ⊢
    exact wpS_bind (wpS_mono h₂ (fun f s₃ h₃ => wpS_pure h₃))
  | true =>
    simp only [if_true] at h₂ ⊢
    refine wpS_bind (wpS_mono h₂ (fun f s₃ h₃ => ?_))
    cases f with
    | next => exact wpS_pure (.inl ⟨rfl, h₃⟩)
    | cont => exact wpS_pure (.inl ⟨rfl, h₃⟩)
    | brk => exact wpS_pure h₃
    | ret v => exact wpS_pure h₃
theorem codeS_for {target : PySem.Expr} {it : Value} {body orelse : List Stmt} {R : Flow → Shared → Prop} (I : Nat → Shared → Prop)
    (turn : ∀ n s, I n s → wpAny (model prog w) A (pyNext it) (fun r s₁ => match r with
      | none => wpS (model prog w) A (execs orelse env) R s₁
      | some v => wpAny (model prog w) A (assign target env v) (fun _ s₂ => wpS (model prog w) A (execs body env) (fun f s₃ => match f with
          | .next | .cont => ∃ m, m < n ∧ I m s₃
          | .brk => R .next s₃
          | .ret v => R (.ret v) s₃) s₂) noE s₁) noE s)
    (n : Nat) (h : I n s) (ht : ∀ v, letOwnedTupleGo target it v = pure () := by intro _; rfl) : codeS (model prog w) A (.forLoop target it body orelse env) R s := by
  refine codeS_loop rfl I (fun n s hI => ?_) rfl n h
  show wpS _ A ((forTurn target it body orelse env).onRaise (fun x => do noteFrame x env; theTreesLotGoes x)) _ s
  refine wpS_onRaise ?_
  simp only [forTurn]
  refine wpS_bind (wpS_standAt (wpS_bind (wpS_onRaise (wpS_mono (wpS_of (turn n s hI)) (fun r s₁ h₁ => ?_)))))
  cases r with
  | none => exact wpS_pure (.inr ⟨rfl, codeS_block h₁⟩)
  | some v =>
    refine wpS_bind (wpS_of_eq (ht v) ?_)
    refine wpS_bindAny (wpAny_mono h₁ (fun _ s₂ h₂ => wpS_bind (wpS_mono h₂ (fun f s₃ h₃ => ?_))) fun _ _ h' => h')
    cases f with
    | next => exact wpS_pure (.inl ⟨rfl, h₃⟩)
    | cont => exact wpS_pure (.inl ⟨rfl, h₃⟩)
    | brk => exact wpS_pure h₃
    | ret v => exact wpS_pure h₃
end
section
variable {prog : Program} {w : World} {A A₀ : Around} {s : Shared}
theorem codeS_func {body : List Stmt} {env : Env} {R : Flow → Shared → Prop} (h : wpS (model prog w) (A.deeper env) (execs body env) (fun f s' => R (.ret (match f with | .ret v => v | _ => .none)) s') s) :
    codeS (model prog w) A (.func body env) R s := by
  refine codeS_of_tree ?_ rfl
  show wpS _ (A.deeper env) (do point; match ← (execs body env).onRaise (leaving env) with | .ret v => ret v | _ => ret .none) _ s
  refine wpS_bind (wpS_point (wpS_bind (wpS_onRaise (wpS_mono h (fun f s' h' => ?_)))))
  cases f <;> exact wpS_pure h'
theorem codeS_call_function {R : Flow → Shared → Prop} {a : Addr} {args : Args} {o : Obj} {fd : FuncData} {body : List Stmt} (hroom : A.depth < recursionLimit)
    (ho : s.heap.get? a = some o)
    (hd' : o.data = .func fd) (hco : fd.scope.isCoroutine = false) (hgen : fd.scope.isGenerator = false) (hbody : fd.body = .stmts body) (hcd : s.heap.CodeRec fd.code fd.qualname)
    (h : wpAny (model prog w) A.in1 (bindArgs fd args) (fun binds s₁ =>
      wpAny (model prog w) A.in1 (newFunctionEnv fd.scope fd.globals fd.closure binds (fd.qualname ++ ".<locals>.") (some a) fd.code none fd.builtins)
        (fun env s₂ => s₂.heap.NoLimit ∧ codeS (model prog w) A (.func body env) R s₂) noE s₁) noE s) :
    codeS (model prog w) A (.call (.ref a) args) R s := by
  refine codeS_of_tree (wpS_of ?_) rfl
  show wpAny _ A.in1 (callAny (.ref a) args) _ _ s
  simp only [callAny]
  refine wpAny_bind (wpAny_load ho ?_)
  obtain ⟨c, oc, vs, tq, hc, hoc, hdc, hq⟩ := hcd
  simp only [hd', callFunction, hco, hgen, hbody, hc]
  rw [hc] at h
  refine wpAny_bind (m := field (.ref c) 1) (wpAny_field hoc hdc hq (wpAny_bind (wpAny_pure ?_)))
  exact wpAny_bind (wpAny_mono h (fun binds s₁ h₁ => wpAny_bind (wpAny_mono h₁ (fun env s₂ h₂ => wpAny_bind (wpAny_enterFrame h₂.1 hroom
    (wpAny_pure (And.intro rfl h₂.2)))) fun _ _ h' => h')) fun _ _ h' => h')
end
section
variable {prog : Program} {w : World} {A A₀ : Around} {s : Shared} {base h₀ : Heap} {outer : List Env} {L : Addr} {m mg mb : PySem.Str → Option Value} {env : Env} {news : List (Addr × Obj)} {K : Frag} {p : Program} {loose : List PySem.Str} {mean : ExcName → Option Value}
  {R : Flow → Shared → Prop} {name qual : PySem.Str} {params : Arguments} {body : List Stmt} {scope : Scope} {dV kV doc pm cdv ct oc : Value} {an od : Option Addr} {osl : Array (Option Value)} {f : Addr} {args : Args} {binds : List (PySem.Str × Value)}
def okR (R : Flow → Shared → Prop) (r : Result) (s : Shared) : Prop := match r with | .ok f => R f s | .error _ => False
theorem codeS_def (B : Below A₀ base outer h₀) (F : Fr h₀ L s.heap m) (X₀ : K.In h₀) (N : News h₀ L s.heap news) (T : Top p loose mean mg mb h₀) (hA : A.frames = some (env :: outer)) (hf : env.frame = some L) (hke : env.scope.kind = .function)
    (ho : K.lookup f = some ⟨oc, od, .func (fnOf name qual params body scope dV kV doc pm an cdv ct), osl⟩) (hcd : codeIn K cdv qual = true) (hroom : A.depth < recursionLimit)
    (hbind : BindsTo s (fnOf name qual params body scope dV kV doc pm an cdv ct) args binds) (hloc : ∀ y ∈ binds, scope.names.lookup y.1 = some .local)
    (h : ∀ g L' h₁, Fr h₀ L g m → Fr g L' h₁ (fun y => binds.reverse.lookup y) → News g L' h₁ news → Below A base (env :: outer) g → K.In g → Top p loose mean mg mb g → (∀ p ∈ news, p.1 < L') →
      wpS (model prog w) (A.deeper (envOf qual scope L' f cdv)) (execs body (envOf qual scope L' f cdv))
        (fun fl s' => LeaveK h₀ L m g (okR R) (match fl with | .ret v => v | _ => .none) s')
        { s with heap := h₁, toks := s.toks + binds.length })
    (hco : scope.isCoroutine = false) (hgen : scope.isGenerator = false) (hk : scope.kind = .function)
    (hcell : ∀ x ∈ scope.names, x.2 ≠ .cell) : codeS (model prog w) A (.call (.ref f) args) R s := by
  obtain ⟨FG, BG, st, lv⟩ := groundX (R := okR R) B F N hA hf hke
  refine codeS_call_function (fd := fnOf name qual params body scope dV kV doc pm an cdv ct) hroom ((X₀.keeps F.keep) _ _ ho) rfl hco hgen rfl (codeRec_of (X₀.keeps F.keep) hcd) (hbind _ _ _ _ ?_)
  refine wpAny_newFunctionEnv hcell hloc (fun h₁ hns hsb => ⟨(T.nolimit.keeps F.keep).fresh _ hsb, codeS_func ?_⟩) hk
  have hk₁ : ∀ b o, s.heap.get? b = some o → h₁.get? b = some o := fun b o e => hsb.extBut b o (Nat.ne_of_lt (Heap.lt_size e)) (Heap.get?_push_of_some _ e)
  exact wpS_mono (h _ s.heap.objs.size h₁ FG ⟨hns, fun b o e => hk₁ b o (of_hideAll _ e), Nat.le_of_eq (hideAll_size _ _)⟩
    (fun p hp => ⟨hk₁ _ _ (N p hp).1, Nat.ne_of_lt (Heap.lt_size (N p hp).1), hideAll_none _ (List.mem_map_of_mem hp)⟩) BG (X₀.keeps st) (T.keeps st) (fun p hp => Heap.lt_size (N p hp).1)) (fun fl s' hl => lv _ _ hl)
theorem codeS_defC (B : Below A₀ base outer h₀) (F : Fr h₀ L s.heap m) (X₀ : K.In h₀) (N : News h₀ L s.heap news) (T : Top p loose mean mg mb h₀) (hA : A.frames = some (env :: outer)) (hf : env.frame = some L) (hke : env.scope.kind = .function)
    (ho : K.lookup f = some ⟨oc, od, .func (fnOf name qual params body scope dV kV doc pm an cdv ct), osl⟩) (hcd : codeIn K cdv qual = true) (hroom : A.depth < recursionLimit)
    (hbind : BindsTo s (fnOf name qual params body scope dV kV doc pm an cdv ct) args binds) (hkind : (binds.all fun y => scope.names.lookup y.1 == some .local || scope.names.lookup y.1 == some .cell) = true)
    (hnd : ((cellsFrom 0 scope.names []).map (·.1)).Nodup)
    (h : ∀ g L' h₁ tk cells, Fr h₀ L g m → Fr g L' h₁ (bindL (envOfC qual scope L' f cdv).kindOf binds fun _ => none) → News g L' h₁ (cells ++ news) →
      CellsAre (bindC (envOfC qual scope L' f cdv).kindOf binds fun _ => none) (cellsFrom (L' + 1) scope.names []) cells → Below A base (env :: outer) g → K.In g → Top p loose mean mg mb g → (∀ p ∈ news, p.1 < L') →
      wpS (model prog w) (A.deeper (envOfC qual scope L' f cdv)) (execs body (envOfC qual scope L' f cdv))
        (fun fl s' => LeaveK h₀ L m g (okR R) (match fl with | .ret v => v | _ => .none) s')
        { s with heap := h₁, toks := tk })
    (hco : scope.isCoroutine = false) (hgen : scope.isGenerator = false) (hk : scope.kind = .function) : codeS (model prog w) A (.call (.ref f) args) R s := by
  obtain ⟨FG, BG, st, lv⟩ := groundX (R := okR R) B F N hA hf hke
  refine codeS_call_function (fd := fnOf name qual params body scope dV kV doc pm an cdv ct) hroom ((X₀.keeps F.keep) _ _ ho) rfl hco hgen rfl (codeRec_of (X₀.keeps F.keep) hcd) (hbind _ _ _ _ ?_)
  refine wpAny_newFunctionEnv_cells hk (kindsX hkind _) fun env' he s' x => ?_
  subst he
  refine ⟨(T.nolimit.keeps F.keep).keeps x.toInCall.keep, codeS_func ?_⟩
  obtain ⟨h₁, tk, rfl, _⟩ := x.done
  have hk₁ := x.toInCall.keep
  obtain ⟨cells, NC, Y⟩ := Cl.news (h₀ := s.heap) (Nat.le_refl _) fun n c hm => ⟨x.cell n c (lookup_of_mem_nodup (cellsFrom_names scope.names 0 (s.heap.objs.size + 1) [] [] rfl ▸ hnd) hm), x.above n c hm⟩
  refine wpS_mono (h _ s.heap.objs.size h₁ tk cells FG ⟨x.toInCall.ns, fun b o e => hk₁ b o (of_hideAll _ e), Nat.le_of_eq (hideAll_size _ _)⟩ (fun p hp => ?_) Y BG (X₀.keeps st) (T.keeps st) (fun p hp => Heap.lt_size (N p hp).1)) (fun fl s' hl => lv _ _ hl)
  rcases List.mem_append.mp hp with hp | hp
  · refine ⟨(NC p hp).1, (NC p hp).2.1, ?_⟩
    cases q : (hideAll s.heap (news.map (·.1))).get? p.1 with
    | none => rfl
    | some o => have := of_hideAll _ q; rw [(NC p hp).2.2] at this; cases this
  · exact ⟨hk₁ _ _ (N p hp).1, Nat.ne_of_lt (Heap.lt_size (N p hp).1), hideAll_none _ (List.mem_map_of_mem hp)⟩
end
end Mine
/- part S4 -/
namespace Mine
open Builtin
theorem ok_builtin {id : String} (h : badIds.contains id = false) (args : Args) : okCode (.builtin id args) = true := by
  show (!badIds.contains id) = true
  rw [h]; rfl
theorem codeS_builtin {prog : Program} {w : World} {A : Around} {R : Flow → Shared → Prop} {s : Shared} {id : String} {args : Args} {b : Builtin} (hb : entryFor table id = some b) (ok : badIds.contains id = false)
    (h : wpS (model prog w) (A.under (.builtin id args)) (b args) (fun fin s' => match fin with | .done f => R f s' | .again c' => c'.quiet = true ∧ codeS (model prog w) A c' R s') s) :
    codeS (model prog w) A (.builtin id args) R s := by
  refine codeS_of_tree ?_ (ok_builtin ok _)
  show wpS _ _ (match entryFor table id with | some b => b args | none => unsupported ((withoutEnding? id "#data").getD id)) _ s
  rw [hb]; exact h
set_option maxHeartbeats 4000000
section
variable {prog : Program} {w : World} {A : Around} {K : Frag} {C : Addr} {R : Flow → Shared → Prop} {h : Heap} {g : Array GenState} {d : Drawn} {t : Nat} {os : OsState}
theorem S_callSpecial {A : Around} {obj init : Value} {rest : List Value} {kw : List (PySem.Str × Value)} {s : Shared} {Q : Option Value → Shared → Prop} {T : Value} (ht : Looks (model prog w) s.heap (typeOf obj) T) (hi : Looks (model prog w) s.heap (typeLookup T "__init__") (some init))
    (hb : Looks (model prog w) s.heap (bindSpecial init obj) (init, [obj])) (h : wpS (model prog w) A (call init (obj :: rest) kw) (fun v s' => Q (some v) s') s) :
    wpS (model prog w) A (callSpecial? obj "__init__" rest kw) Q s := by
  unfold callSpecial? specialOf
  refine wpS_bindAny (wpAny_bind (ht.here (hi.here ?_)))
  dsimp only
  refine wpS_holding (wpS_bindAny (hb.here ?_))
  exact wpS_bind (wpS_mono h fun v s' h' => wpS_pure h')
theorem codeS_make_core {rest : List Value} {kw : List (PySem.Str × Value)} {init : Value} (Y : Makes (model prog w) h C) (hi : Looks (model prog w) h (typeLookup (.ref C) "__init__") (some init))
    (hb : ∀ self, Looks (model prog w) h (bindSpecial init self) (init, [self])) (hne : (some init != some (Value.builtin "object.__init__")) = true ∨ (rest = [] ∧ kw = []))
    (hq : codeS (model prog w) (A.under (.builtin "type.__call__" ⟨.ref C :: rest, kw⟩)) (.call init ⟨.ref (h.objs.size + 1) :: rest, kw⟩) (fun f s' => f = .ret .none ∧ R (.ret (.ref (h.objs.size + 1))) s') ⟨(h.push emptyDict).push (instObj C h.objs.size), g, d, t, os⟩) :
    codeS (model prog w) A (.call (.ref C) ⟨rest, kw⟩) R ⟨h, g, d, t, os⟩ := by
  have Y' := Y
  obtain ⟨⟨oc, od, cd, sl, hC, e1, e2, e4⟩, made, base, self, top, call, typ⟩ := Y
  refine codeS_of_tree (wpS_of ?_) rfl
  show wpAny _ _ (callAny (.ref C) _) _ _ _
  refine nd_load hC ?_
  show wpAny _ _ (callAny.viaDunder (.ref C) _) _ _ _
  unfold callAny.viaDunder
  refine wpAny_bind (call.at ?_)
  dsimp only
  rw [tc_bind]
  refine wpAny_bind (wpAny_pure (wpAny_bind (wpAny_pure ?_)))
  refine wpAny_pure (a := Fin.again (.call (.builtin "type.__call__") ⟨.ref C :: rest, kw⟩)) (And.intro rfl ?_)
  refine codeS_of_tree (wpS_of ?_) rfl
  show wpAny _ _ (do checkBuiltinCall "type.__call__" ⟨.ref C :: rest, kw⟩; again (.builtin "type.__call__" ⟨.ref C :: rest, kw⟩)) _ _ _
  refine wpAny_bind (check_slot tc_kind tc_split typ (tc_args _ _ _) (wpAny_pure ⟨Code.quiet_builtin _ (by decide +kernel), ?_⟩))
  refine codeS_builtin entry_typeCall (by decide +kernel) ?_
  unfold Builtin.«type.__call__»
  have hm : Looks (model prog w) h (mroOf (.ref C)) cd.mro := ((Looks.ld (part := none) hC).andThen .now).andThen .now
  show wpS _ _ (mroOf (.ref C) >>= fun ms => _) _ _
  refine wpS_bindAny (hm.at ?_)
  simp only [e4, Bool.false_eq_true, if_false]
  refine wpS_bindAny (made.at ?_)
  dsimp only
  refine wpS_bind (wpS_pure ?_)
  refine wpS_bindAny (wpAny_holding (wpAny_call ?_))
  refine new_K Y' hi hne ?_
  have k : ∀ b o, h.get? b = some o → ((h.push emptyDict).push (instObj C h.objs.size)).get? b = some o := fun b o e => Heap.get?_push_of_some _ (Heap.get?_push_of_some _ e)
  have hx : ((h.push emptyDict).push (instObj C h.objs.size)).get? (h.objs.size + 1) = some (instObj C h.objs.size) := by heap_get
  have t1 : Looks (model prog w) ((h.push emptyDict).push (instObj C h.objs.size)) (typeOf (.ref (h.objs.size + 1))) (.ref C) := (Looks.ld hx).andThen .now
  have s1 := self.keeps k
  have i1 := hi.keeps k
  have b1 := (hb (.ref (h.objs.size + 1))).keeps k
  refine wpS_bindAny ?_
  unfold isInstance
  refine wpAny_bind (t1.at (s1.at ?_))
  simp only [Bool.not_true, Bool.false_eq_true, if_false]
  refine wpS_bind (wpS_holding (S_callSpecial t1 i1 b1 (wpS_call (codeS_mono hq fun f s' ⟨e, z⟩ => ⟨.none, e, ?_⟩))))
  exact wpS_pure z
end
section
variable {prog : Program} {w : World} {A : Around} {K : Frag} {C : Addr} {R : Flow → Shared → Prop} {s : Shared} {h₀ : Heap} {L : Addr} {m : PySem.Str → Option Value} {news : List (Addr × Obj)}
theorem codeS_make {rest : List Value} {kw : List (PySem.Str × Value)} {fI : Addr} (F : Fr h₀ L s.heap m) (N : News h₀ L s.heap news) (X : K.In h₀) (hm : makesIn K C = true)
    (hi : findIn K (.ref C) "__init__" = some (some (.ref fI))) (hf : isFn K (.ref fI) = true)
    (h : ∀ x dx h', Fr h₀ L h' m → News h₀ L h' ((x, instObj C dx) :: (dx, dictOf [] 0) :: news) → (∀ p ∈ news, p.1 < dx) → dx < x →
      codeS (model prog w) (A.under (.builtin "type.__call__" ⟨.ref C :: rest, kw⟩)) (.call (.ref fI) ⟨.ref x :: rest, kw⟩) (fun f s' => f = .ret .none ∧ R (.ret (.ref x)) s') { s with heap := h' }) :
    codeS (model prog w) A (.call (.ref C) ⟨rest, kw⟩) R s := by
  have X' := X.keeps F.keep
  obtain ⟨hh, g, d, t, os⟩ := s
  refine codeS_make_core (makes_of X' hm) (looks_findIn X' hi) (fun self => bind_fn X' self (beq_iff_eq.mp hf)) (.inl rfl) (h _ hh.objs.size _ ((F.push _).push _) ?_ (fun p hp => Heap.lt_size (N p hp).1) (Nat.lt_succ_self _))
  have := (N.push F emptyDict).push (F.push _) (instObj C hh.objs.size)
  rwa [Heap.size_push] at this
end
end Mine
/- part S5 -/
namespace Mine
open Builtin
abbrev baObj (b : Array UInt8) : Obj := { cls := .type "bytearray", data := .bytearray b 0 }
namespace BA
theorem plainAttrs : PlainAttrs "bytearray" :=
  ⟨⟨"bytearray.__getattribute__", by rw [typeLookup_type, builtinLookup_eq_fast]; kernel_rfl, by decide +kernel⟩, by rw [typeLookup_type, builtinLookup_eq_fast]; kernel_rfl⟩
theorem slot_append : Slot "bytearray" "append" "bytearray.append" :=
  .of (owner := "bytearray") (n := "append") (by rw [typeLookup_type, builtinLookup_eq_fast]; kernel_rfl) (by decide +kernel) (by decide +kernel) (by decide +kernel)
    (by first | exact .inl (by decide +kernel) | exact .inr (by decide +kernel)) (by rw [isSubtype_type]; kernel_rfl)
theorem type_append : typeOf (.builtin "bytearray.append") = pure (.type "method_descriptor") := by show builtinType _ = _; rw [builtinType_eq_fast]; kernel_rfl
theorem entry_append : entryFor table "bytearray.append" = some Builtin.«bytearray.append» := entryFor_of_tree (by kernel_rfl)
theorem args_append (a b : Value) : argsOk "bytearray.append" ⟨[a, b], []⟩ := by unfold argsOk; kernel_rfl
theorem slot_len : Slot "bytearray" "__len__" "bytearray.__len__" :=
  .of (owner := "bytearray") (n := "__len__") (by rw [typeLookup_type, builtinLookup_eq_fast]; kernel_rfl) (by decide +kernel) (by decide +kernel) (by decide +kernel)
    (by first | exact .inl (by decide +kernel) | exact .inr (by decide +kernel)) (by rw [isSubtype_type]; kernel_rfl)
theorem entry_len : entryFor table "bytearray.__len__" = some Builtin.«bytearray.__len__» := entryFor_of_tree (by kernel_rfl)
theorem args_len (a : Value) : argsOk "bytearray.__len__" ⟨[a], []⟩ := by unfold argsOk; kernel_rfl
theorem slot_getitem : Slot "bytearray" "__getitem__" "bytearray.__getitem__" :=
  .of (owner := "bytearray") (n := "__getitem__") (by rw [typeLookup_type, builtinLookup_eq_fast]; kernel_rfl) (by decide +kernel) (by decide +kernel) (by decide +kernel)
    (by first | exact .inl (by decide +kernel) | exact .inr (by decide +kernel)) (by rw [isSubtype_type]; kernel_rfl)
theorem entry_getitem : entryFor table "bytearray.__getitem__" = some Builtin.«bytearray.__getitem__» := entryFor_of_tree (by kernel_rfl)
theorem args_getitem (a b : Value) : argsOk "bytearray.__getitem__" ⟨[a, b], []⟩ := by unfold argsOk; kernel_rfl
theorem slot_setitem : Slot "bytearray" "__setitem__" "bytearray.__setitem__" :=
  .of (owner := "bytearray") (n := "__setitem__") (by rw [typeLookup_type, builtinLookup_eq_fast]; kernel_rfl) (by decide +kernel) (by decide +kernel) (by decide +kernel)
    (by first | exact .inl (by decide +kernel) | exact .inr (by decide +kernel)) (by rw [isSubtype_type]; kernel_rfl)
theorem entry_setitem : entryFor table "bytearray.__setitem__" = some Builtin.«bytearray.__setitem__» := entryFor_of_tree (by kernel_rfl)
theorem args_setitem (a b c : Value) : argsOk "bytearray.__setitem__" ⟨[a, b, c], []⟩ := by unfold argsOk; kernel_rfl
theorem slot_init : Slot "bytearray" "__init__" "bytearray.__init__" :=
  .of (owner := "bytearray") (n := "__init__") (by rw [typeLookup_type, builtinLookup_eq_fast]; kernel_rfl) (by decide +kernel) (by decide +kernel) (by decide +kernel)
    (by first | exact .inl (by decide +kernel) | exact .inr (by decide +kernel)) (by rw [isSubtype_type]; kernel_rfl)
theorem entry_init : entryFor table "bytearray.__init__" = some Builtin.«bytearray.__init__» := entryFor_of_tree (by kernel_rfl)
theorem args_init (a b : Value) : argsOk "bytearray.__init__" ⟨[a, b], []⟩ := by unfold argsOk; kernel_rfl
theorem look_buffer : typeLookup (.type "bytearray") "__buffer__" = pure (some (.builtin "bytearray.__buffer__")) := by rw [typeLookup_type, builtinLookup_eq_fast]; kernel_rfl
theorem look_release : typeLookup (.type "bytearray") "__release_buffer__" = pure (some (.builtin "bytearray.__release_buffer__")) := by rw [typeLookup_type, builtinLookup_eq_fast]; kernel_rfl
theorem look_index : typeLookup (.type "bytearray") "__index__" = pure none := by rw [typeLookup_type, builtinLookup_eq_fast]; kernel_rfl
theorem look_bytes : typeLookup (.type "bytearray") "__bytes__" = pure none := by rw [typeLookup_type, builtinLookup_eq_fast]; kernel_rfl
theorem look_index_b : typeLookup (.type "bytes") "__index__" = pure none := by rw [typeLookup_type, builtinLookup_eq_fast]; kernel_rfl
theorem sub_ba : isSubtype (.type "bytearray") (.type "bytearray") = pure true := by rw [isSubtype_type]; kernel_rfl
theorem sub_str : isSubtype (.type "bytearray") (.type "str") = pure false := by rw [isSubtype_type]; kernel_rfl
theorem sub_ind : isSubtype (.type "bytearray") (.type "int") = pure false := by rw [isSubtype_type]; kernel_rfl
section
variable {M : Model} {prog : Program} {w : World} {A : Around} {E : Value → Shared → Prop} {s : Shared} {a : Addr} {b : Array UInt8}
theorem typeIs (ho : s.heap.get? a = some (baObj b)) : s.TypeIs (.ref a) "bytearray" := ⟨_, ho, rfl⟩
theorem payload_ {Q : Array UInt8 → Shared → Prop} (ho : s.heap.get? a = some (baObj b)) (h : Q b s) : wpAny M A (Bytes.payload (.ref a)) Q E s := by
  unfold Bytes.payload Bytes.payload?
  exact wpAny_bind (wpAny_bind (wpAny_load ho (wpAny_pure (wpAny_pure h))))
theorem len_ {Q : Value → Shared → Prop} (ho : s.heap.get? a = some (baObj b)) (hfit : (b.size : Int) < 2 ^ 63) (h : Q (.int b.size (s.toks + 1)) { s with toks := s.toks + 1 + 1 }) :
    wpAny (model prog w) A (call (.builtin "len") [.ref a]) Q E s := by
  refine call_function_entry kind_len plain_len PySem.entry_len (args_len1 _) ?_
  unfold Builtin.«len»
  refine wpAny_bind (m := oneArg "len" _) (wpAny_pure ?_)
  refine wpAny_bind (m := callSpecial? (.ref a) (Str.ofString "__len__")) (wpAny_callSpecial?_slot (name := Str.ofString "__len__") (typeIs ho) slot_len
    (wpAny_call_entry slot_len (typeIs ho) entry_len ?_ (args_len _)))
  show wpAny _ _ (Bytes.payload (.ref a) >>= fun x => retInt x.size) _ _ s
  refine wpAny_bind (payload_ ho ?_)
  refine wpAny_bind (wpAny_mkInt (wpAny_pure ⟨_, rfl, ?_⟩))
  refine wpAny_bind (wpAny_holding (wpAny_pure ?_))
  refine wpAny_bind (wpAny_letGo ?_)
  show wpAny _ _ (if ((b.size : Nat) : Int) < 0 then _ else _) _ _ _
  rw [if_neg (by (first | lia | omega))]
  show wpAny _ _ (if ((b.size : Nat) : Int) ≥ 2 ^ 63 then _ else _) _ _ _
  rw [if_neg (by (first | lia | omega))]
  exact wpAny_bind (wpAny_mkInt (wpAny_pure ⟨_, rfl, h⟩))
theorem write_ {f : Array UInt8 → Array UInt8} {Q : Unit → Shared → Prop} (ho : s.heap.get? a = some (baObj b)) (hz : (f b).size ≤ sizeLine) (h : Q () { s with heap := s.heap.update a (Obj.mapBytearray f) }) :
    wpAny M A (Bytes.write (.ref a) f) Q E s := by
  unfold Bytes.write updateBytearray
  refine wpAny_bind (wpAny_load ho (wpAny_bind (wpAny_update ho ?_)))
  refine wpAny_lookBehind (o := baObj (f b)) (Heap.get?_update_self _ ho rfl) ?_ h
  show (if (f b).size > sizeLine then some "bytearray:memory" else none) = none
  rw [if_neg (Nat.not_lt.mpr hz)]
theorem exported_ {Q : Bool → Shared → Prop} (h : Q false s) : wpS M A (Bytes.exported (.ref a)) Q s := by
  unfold Bytes.exported
  refine wpS_bind (wpS_stack fun st hst => wpS_pure ?_)
  refine cast (congrArg (fun z => Q z s) (Eq.symm (List.any_eq_false.mpr ?_))) h
  · intro x hx
    have hk := hst x hx
    obtain ⟨c, p⟩ := x
    cases c with
    | builtin id args =>
      obtain ⟨pos, kw⟩ := args
      have hk' : badIds.contains id = false := by
        have : (!badIds.contains id) = true := hk
        simpa using this
      have hn : ∀ y ∈ badIds, id ≠ y := fun y hy e => by
        subst e
        rw [List.contains_iff_mem.mpr hy] at hk'
        cases hk'
      have hd : Bytes.decodersThatHold.contains id = false := by
        cases hc : Bytes.decodersThatHold.contains id with
        | false => rfl
        | true => exact absurd rfl (hn id (by unfold badIds; exact List.mem_append_right _ (List.contains_iff_mem.mp hc)))
      have k1 := hn "bytearray.__contains__" (by decide +kernel)
      have k2 := hn "bytearray.__mod__" (by decide +kernel)
      have k3 := hn "bytearray.__rmod__" (by decide +kernel)
      have k4 := hn "_struct.pack_into.held" (by decide +kernel)
      have k5 := hn "bytearray.find.held" (by decide +kernel)
      delta PySem.Builtin.Bytes.exported.match_1
      show dite (id = "bytearray.__contains__") _ _ ≠ true
      rw [dif_neg k1, dif_neg k2, dif_neg k3, dif_neg k4, dif_neg k5]
      cases pos with
      | nil => exact Bool.false_ne_true
      | cons v vs =>
        show (Bytes.sameRef v (.ref a) && Bytes.decodersThatHold.contains id) ≠ true
        rw [hd, Bool.and_false]
        exact Bool.false_ne_true
    | _ => exact Bool.false_ne_true
theorem exports_ {Q : Nat → Shared → Prop} (ho : s.heap.get? a = some (baObj b)) (h : Q 0 s) : wpAny M A (Bytes.exportsOf (.ref a)) Q E s := by
  unfold Bytes.exportsOf
  exact wpAny_bind (wpAny_load ho (wpAny_pure h))
theorem resize_ {Q : Unit → Shared → Prop} (ho : s.heap.get? a = some (baObj b)) (h : Q () s) : wpS M A (Bytes.checkResize (.ref a)) Q s := by
  unfold Bytes.checkResize
  refine wpS_bind ?_
  unfold orM
  refine wpS_bind (exported_ ?_)
  show wpS M A (Bytes.exportsOf (.ref a) >>= fun n => pure (decide (n > 0))) _ s
  refine wpS_bindAny (exports_ ho ?_)
  refine wpS_pure ?_
  exact wpS_pure h
theorem byteValue_ {i : Int} {t : Tok} {Q : UInt8 → Shared → Prop} (h0 : 0 ≤ i) (h1 : i < 256) (h : Q i.toNat.toUInt8 s) : wpAny M A (Bytes.byteValue (.int i t)) Q E s := by
  unfold Bytes.byteValue
  refine wpAny_bind (wpAny_of_eq (a := i) rfl ?_)
  have e : (decide (i < 0) || decide (i ≥ 256)) = false := by rw [decide_eq_false (by (first | lia | omega)), decide_eq_false (by (first | lia | omega))]; rfl
  rw [e]
  exact wpAny_pure h
theorem append_ {i : Int} {t : Tok} {Q : Value → Shared → Prop} (ho : s.heap.get? a = some (baObj b)) (h0 : 0 ≤ i) (h1 : i < 256) (hz : b.size < sizeLine)
    (h : Q .none { s with heap := s.heap.update a (Obj.mapBytearray (·.push i.toNat.toUInt8)) }) : wpS (model prog w) A (call (.builtin "bytearray.append") [.ref a, .int i t]) Q s := by
  refine wpS_call (codeS_of_tree (wpS_of ?_) rfl)
  show wpAny _ A.in1 (do checkBuiltinCall "bytearray.append" ⟨[.ref a, .int i t], []⟩; again (.builtin "bytearray.append" ⟨[.ref a, .int i t], []⟩)) _ _ s
  refine wpAny_bind (slot_append.check _ _ _ _ _ _ _ _ (typeIs ho) (args_append _ _) (wpAny_pure ⟨plainId_quiet slot_append.plain _, ?_⟩))
  refine codeS_builtin entry_append (by decide +kernel) ?_
  show wpS _ _ (Bytes.byteValue (.int i t) >>= fun c => _) _ s
  refine wpS_bindAny (byteValue_ h0 h1 ?_)
  refine wpS_bind (resize_ ho ?_)
  refine wpS_bindAny (write_ ho (by rw [Array.size_push]; exact hz) ?_)
  exact wpS_pure ⟨_, rfl, h⟩
theorem setItem_ {i x : Int} {t u : Tok} {Q : Unit → Shared → Prop} (ho : s.heap.get? a = some (baObj b)) (h0 : 0 ≤ i) (h1 : i < b.size) (hx0 : 0 ≤ x) (hx1 : x < 256) (hz : b.size ≤ sizeLine)
    (h : Q () { s with heap := s.heap.update a (Obj.mapBytearray (·.setIfInBounds i.toNat x.toNat.toUInt8)) }) : wpAny (model prog w) A (setItem (.ref a) (.int i t) (.int x u)) Q E s := by
  unfold setItem
  refine wpAny_holding ?_
  refine wpAny_bind (wpAny_sequenceKey (typeIs ho) (by decide) ?_)
  refine wpAny_bind (wpAny_callSpecial?_slot (name := Str.ofString "__setitem__") (typeIs ho) slot_setitem
    (wpAny_call_entry slot_setitem (typeIs ho) entry_setitem ?_ (args_setitem _ _ _)))
  show wpAny _ _ (Bytes.subscript? (.int i t) >>= fun r => _) _ _ s
  refine wpAny_bind ?_
  unfold Bytes.subscript?
  refine wpAny_bind (wpAny_specialOf (T := "int") (typeIs_int _ _ _) PySem.F.slot_int_index.lookup ?_)
  refine wpAny_bind (wpAny_of_eq (a := i) rfl ?_)
  have hf : Bytes.fitsIndex i = true := by
    rw [sizeLine_eq] at hz
    unfold Bytes.fitsIndex
    rw [decide_eq_true (by (first | lia | omega)), decide_eq_true (by (first | lia | omega))]; rfl
  rw [hf]
  refine wpAny_pure ?_
  dsimp only
  refine wpAny_bind (byteValue_ hx0 hx1 ?_)
  refine wpAny_bind (payload_ ho ?_)
  have hs : seqIndex? i b.size = some i.toNat := by
    have hn : ¬ i < 0 := by (first | lia | omega)
    simp [seqIndex?, hn, h0, h1]
  rw [hs]
  refine wpAny_bind (write_ ho (by rw [Array.size_setIfInBounds]; exact hz) ?_)
  exact wpAny_pure ⟨_, rfl, wpAny_pure h⟩
end
end BA
end Mine
/- part S6 -/
namespace Mine
open Builtin
namespace BA
theorem sub_bytes_no : isSubtype (.type "bytearray") (.type "bytes") = pure false := by rw [isSubtype_type]; kernel_rfl
section
variable {M : Model} {prog : Program} {w : World} {A : Around} {E : Value → Shared → Prop} {s : Shared} {a : Addr} {b : Array UInt8}
theorem asStr_ {Q : Option PySem.Str → Shared → Prop} (ho : s.heap.get? a = some (baObj b)) (h : Q none s) : wpAny M A (asStr? (.ref a)) Q E s :=
  wpAny_bind (wpAny_load ho (wpAny_pure h))
theorem slotOwn_ {name id : String} {Q : Bool → Shared → Prop} (ho : s.heap.get? a = some (baObj b)) (hl : typeLookup (.type "bytearray") (PySem.Str.ofString name) = pure (some (.builtin id)))
    (h1 : id.endsWith ("." ++ name) = true) (h2 : id.dropRight (name.length + 1) = "bytearray") (h : Q true s) : wpAny M A (Bytes.slotIsOwn (.ref a) name) Q E s := by
  unfold Bytes.slotIsOwn
  refine wpAny_bind (wpAny_specialOf (typeIs ho) hl ?_)
  dsimp only
  rw [h1, h2]
  refine wpAny_ite ?_
  rw [if_neg (by decide)]
  exact wpAny_isInstance (typeIs ho) sub_ba h
theorem buffer_ {id : String} {full : Bool} {Q : Option (Array UInt8) → Shared → Prop} (ho : s.heap.get? a = some (baObj b)) (h : Q (some b) s) : wpAny M A (Bytes.buffer? id (.ref a) full) Q E s := by
  unfold Bytes.buffer?
  refine wpAny_bind (wpAny_specialOf (typeIs ho) look_buffer ?_)
  dsimp only
  refine wpAny_bind (slotOwn_ ho look_buffer (by decide +kernel) (by decide +kernel) ?_)
  refine wpAny_ite ?_
  rw [if_neg (by decide)]
  refine wpAny_bind (wpAny_specialOf (typeIs ho) look_buffer ?_)
  show wpAny M A (Bytes.ownRelease (.ref a) >>= fun r => if r = true then _ else (Bytes.payload (.ref a) >>= fun x => pure (some x))) _ _ s
  unfold Bytes.ownRelease
  refine wpAny_bind (wpAny_bind (slotOwn_ ho look_release (by decide +kernel) (by decide +kernel) (wpAny_pure ?_)))
  refine wpAny_ite ?_
  rw [if_neg (by decide)]
  exact wpAny_bind (payload_ ho (wpAny_pure h))
theorem bytes_of {Q : Value → Shared → Prop} (ho : s.heap.get? a = some (baObj b)) (hz : b.size ≤ sizeLine) (h : ∀ t k, Q (.bytes b t) { s with toks := k }) : wpAny (model prog w) A (call (.type "bytes") [.ref a]) Q E s := by
  refine callType_codes (Q₁ := fun obj s₁ => s₁.TypeIs obj "bytes" ∧ Q obj s₁) PySem.F.bm_called (PySem.F.bm_typeCall _) PySem.F.entry_object_init ?_ fun obj s₁ h₁ =>
    ⟨h₁.1, PySem.F.args_object_init_2 obj _, object_init_meets PySem.F.bm_called.init.lookup PySem.F.bm_called.made (by decide) prog w A.in1 _ s₁ ⟨h₁.1, rfl, h₁.2⟩⟩
  refine codeAny_of_tree ?_
  show wpAny _ A.in1.in1 (do checkBuiltinCall "bytes.__new__" ⟨[.type "bytes", .ref a], []⟩; again (.builtin "bytes.__new__" ⟨[.type "bytes", .ref a], []⟩)) _ _ s
  refine wpAny_bind (wpAny_of_eq (PySem.F.bm_newCall _) (wpAny_pure ⟨plainId_quiet PySem.F.bm_plain _, codeAny_builtin PySem.F.bm_entry ?_⟩))
  rw [Around.under_plainId PySem.F.bm_plain _]
  unfold Builtin.«bytes.__new__»
  refine wpAny_bind (wpAny_of_eq (a := true) (by first | rfl | kernel_rfl) ?_)
  refine wpAny_ite ?_
  rw [if_neg (by decide)]
  refine wpAny_bind (wpAny_of_eq PySem.F.bm_sub ?_)
  refine wpAny_ite ?_
  rw [if_neg (by decide)]
  refine wpAny_bind (wpAny_of_eq (PySem.F.bm_bind _) ?_)
  refine wpAny_bind (wpAny_of_eq (a := ()) rfl ?_)
  refine wpAny_bind (wpAny_of_eq (a := ()) rfl ?_)
  dsimp only
  refine wpAny_ite ?_
  rw [if_neg (by decide)]
  refine wpAny_bind (wpAny_specialOf (typeIs ho) look_bytes ?_)
  dsimp only
  refine wpAny_bind (wpAny_bind (asStr_ ho (wpAny_pure ?_)))
  refine wpAny_ite ?_
  rw [if_neg (by decide)]
  refine wpAny_bind (wpAny_specialOf (typeIs ho) look_index ?_)
  refine wpAny_ite ?_
  rw [if_pos (by decide)]
  show wpAny _ _ (Bytes.buffer? "bytes.__new__" (.ref a) true >>= fun r => _) _ _ _
  refine wpAny_bind (buffer_ ho ?_)
  dsimp only
  refine wpAny_bind (wpAny_rule (wpAny_bind (wpAny_mkBytes ?_ hz)))
  show wpAny _ _ (if (Value.type "bytes" == Value.type "bytes") = true then _ else _) _ _ _
  refine wpAny_ite ?_
  rw [if_pos (by decide)]
  exact wpAny_bind (wpAny_pure (wpAny_pure ⟨PySem.W.typeIs_bytes _ _ _, h _ _⟩))
/-! the slice of a bytearray: a new bytearray -/
theorem meets_slice (b : Array UInt8) (a sl : Addr) {l u : Value} {lo hi : Option Int} (hl : IsPart l lo) (hu : IsPart u hi) :
    Meets («bytearray.__getitem__» ⟨[.ref a, .ref sl], []⟩) (fun _ R s => s.heap.get? a = some (baObj b) ∧ s.heap.IsSliceOf sl l u .none ∧ (KBy.picked b lo hi).size ≤ sizeLine ∧ R (.ok (.ret (.ref s.heap.objs.size))) { s with heap := s.heap.push (baObj (KBy.picked b lo hi)) }) := by
  refine .of_wp fun prog w A R s hS => ?_
  obtain ⟨hb, ⟨o, ho, hc, hd⟩, hsz, h⟩ := hS
  have hT : s.TypeIs (.ref sl) "slice" := ⟨o, ho, hc⟩
  show wpAny _ _ (Bytes.subscript? (.ref sl) >>= fun r => _) _ _ s
  refine wpAny_bind ?_
  unfold Bytes.subscript?
  refine wpAny_bind (wpAny_specialOf hT slice_no_index (wpAny_pure ?_))
  refine wpAny_bind (wpAny_typeOf hT ?_)
  show wpAny _ _ (Bytes.sliceParts (.ref sl) >>= fun r => _) _ _ s
  refine wpAny_bind ?_
  unfold Bytes.sliceParts
  refine wpAny_bind (wpAny_field (x := .none) ho hd rfl ?_)
  kby_none
  refine wpAny_ite (KBy.ite_no (show ¬ ((Value.none == rawInt 0) = true) from Bool.false_ne_true) ?_)
  refine wpAny_bind (wpAny_field (x := l) ho hd rfl ?_)
  have go : wpAny (model prog w) A.in1 (sliceIndices (rawPart lo) (rawPart hi) (rawPart none) b.size) (fun r s' => r = sliceBounds lo hi none b.size ∧ s' = s) (fun _ _ => False) s :=
    wpAny_of_eq (sliceIndices_raw lo hi none b.size (fun e => nomatch e)) ⟨rfl, rfl⟩
  cases hl <;> cases hu <;> (first
    | (kby_none; (refine wpAny_bind (wpAny_field (x := .none) ho hd rfl ?_)); kby_none)
    | (kby_none; (refine wpAny_bind (wpAny_field (x := .int _ _) ho hd rfl ?_)); kby_int)
    | (kby_int; (refine wpAny_bind (wpAny_field (x := .none) ho hd rfl ?_)); kby_none)
    | (kby_int; (refine wpAny_bind (wpAny_field (x := .int _ _) ho hd rfl ?_)); kby_int)) <;> refine wpAny_pure ?_
  all_goals
    refine wpAny_bind (payload_ hb ?_)
    refine wpAny_bind (wpAny_mono go (fun r s' hr => ?_) fun _ _ e => e.elim)
    obtain ⟨hr1, hr2⟩ := hr
    subst hr1 hr2
    exact wpAny_bind (wpAny_newObj_type (wpAny_pure ⟨_, rfl, h⟩) hsz)
end
section
variable {prog : Program} {w : World} {A : Around} {E : Value → Shared → Prop} {s : Shared} {value slice : PySem.Expr} {a : Addr} {b : Array UInt8} {h₀ : Heap} {L : Addr} {m : PySem.Str → Option Value} {news : List (Addr × Obj)} {l u : Value} {lo hi : Option Int} {Q : Value → Shared → Prop}
theorem slice_N (F : Fr h₀ L s.heap m) (N : News h₀ L s.heap news) (hb : (a, baObj b) ∈ news) (hl : IsPart l lo) (hu : IsPart u hi) (hz : b.size ≤ sizeLine)
    (h : ∀ x h', Fr h₀ L h' m → News h₀ L h' ((x, baObj (KBy.picked b lo hi)) :: news) → (∀ p ∈ news, p.1 < x) → Q (.ref x) { s with heap := h' })
    (hs : subscripted slice false (.ref a) (.ref s.heap.objs.size) = operate [.ref s.heap.objs.size, .ref a] (getItem (.ref a) (.ref s.heap.objs.size)) := by with_unfolding_all rfl) :
    wpAny (model prog w) A (subscriptTail value slice (.ref a) (.ref s.heap.objs.size)) Q E { s with heap := s.heap.push { cls := .type "slice", data := .fields #[l, u, .none] } } := by
  have hT : s.heap.get? a = some (baObj b) := (N _ hb).1
  have hT' : (s.heap.push { cls := .type "slice", data := .fields #[l, u, .none] }).get? a = some (baObj b) := Heap.get?_push_of_some _ hT
  refine tail_any (T := "bytearray") (typeIs (s := { s with heap := s.heap.push { cls := .type "slice", data := .fields #[l, u, .none] } }) hT') slot_getitem.lookup ?_ hs
  refine getItem_meets (typeIs (s := { s with heap := s.heap.push { cls := .type "slice", data := .fields #[l, u, .none] } }) hT') (by decide) slot_getitem entry_getitem (args_getitem _ _) (meets_slice b a _ hl hu) ?_
  refine ⟨hT', Heap.IsSliceOf.new _ _ _ _, Nat.le_trans (KBc.size_picked_le b lo hi) hz, ?_⟩
  have F1 := F.push { cls := .type "slice", data := .fields #[l, u, .none] }
  have N1 : News h₀ L (s.heap.push { cls := .type "slice", data := .fields #[l, u, .none] }) news := News.pushKeep N _
  exact h _ _ (F1.push _) (N1.push F1 _) (fun p hp => by rw [Heap.size_push]; exact Nat.lt_succ_of_lt (Heap.lt_size (N p hp).1))
end
end BA
end Mine
/- part S7 -/
namespace Mine
open Builtin
namespace BA
theorem mro_ba : mroOf (.type "bytearray") = pure [.type "bytearray", .type "object"] := by rw [mroOf_type]; kernel_rfl
theorem look_new : typeLookup (.type "bytearray") "__new__" = pure (some (.builtin "bytearray.__new__")) := by rw [typeLookup_type, builtinLookup_eq_fast]; kernel_rfl
theorem called : TypeCalled "bytearray" "bytearray.__new__" "bytearray.__init__" :=
  ⟨by decide +kernel, by decide +kernel, ⟨_, _, mro_ba⟩, madeBy_type mro_ba look_new (by decide +kernel), by decide +kernel, by rw [isSubtype_type]; kernel_rfl, slot_init⟩
theorem typeCall_ (a : Value) : checkTypeCall "bytearray" ⟨[a], []⟩ = pure () := by kernel_rfl
theorem newCall_ (a : Value) : checkBuiltinCall "bytearray.__new__" ⟨[.type "bytearray", a], []⟩ = pure () := by kernel_rfl
theorem entry_new : entryFor table "bytearray.__new__" = some Builtin.«list.__new__» := 
  entryFor_alias (id' := "list.__new__") (by rw [fastTable_eq_tree]; decide +kernel) (by decide +kernel) (by decide +kernel) (by rw [fastTable_eq_tree]; kernel_rfl)
theorem plain_new : plainId "bytearray.__new__" = true := by decide +kernel
set_option maxRecDepth 1000000 in
set_option maxHeartbeats 4000000 in
theorem owner_new : ("bytearray.__new__".splitOn ".__new__").headD "" = "bytearray" := by simp +decide [String.splitOn, String.splitOnAux]
theorem bind_init (v : Value) : Bytes.bindOptional "bytearray.__init__" "bytearray" ["source", "encoding", "errors"] [v] [] = pure [some v, none, none] := by kernel_rfl
section
variable {prog : Program} {w : World} {A : Around} {E : Value → Shared → Prop} {s : Shared}
theorem code_new (x : Value) {Q₁ : Value → Shared → Prop} (h : Q₁ (.ref s.heap.objs.size) { s with heap := s.heap.push (baObj #[]) }) :
    codeAny (model prog w) A (.call (.builtin "bytearray.__new__") ⟨[.type "bytearray", x], []⟩) (wants Q₁ E) s := by
  refine codeAny_of_tree ?_
  show wpAny _ A.in1 (do checkBuiltinCall "bytearray.__new__" ⟨[.type "bytearray", x], []⟩; again (.builtin "bytearray.__new__" ⟨[.type "bytearray", x], []⟩)) _ _ s
  refine wpAny_bind (wpAny_of_eq (newCall_ x) (wpAny_pure ⟨plainId_quiet plain_new _, codeAny_builtin_stack entry_new rfl fun p st => ?_⟩))
  rw [Around.under_plainId plain_new _]
  have hsub := sub_ba
  have hown := owner_new
  obtain ⟨hp, g, d, tk, os⟩ := s
  simp only [hown]
  wp_walk
  exact h
end
section
variable {prog : Program} {w : World} {A : Around} {s : Shared} {x : Value} {Q : Value → Shared → Prop}
theorem make_ (hi : wpS (model prog w) A.in1 (call (.builtin "bytearray.__init__") [.ref s.heap.objs.size, x]) (fun r s' => r = .none ∧ Q (.ref s.heap.objs.size) s') { s with heap := s.heap.push (baObj #[]) }) :
    wpS (model prog w) A (call (.type "bytearray") [x]) Q s := by
  refine wpS_call (codeS_of_tree (wpS_of ?_) rfl)
  show wpAny _ _ (again (.builtin "type.__call__" ⟨[.type "bytearray", x], []⟩)) _ _ _
  refine wpAny_pure ⟨Code.quiet_builtin _ (by decide +kernel), codeS_builtin PySem.F.entry_type_call (by decide +kernel) ?_⟩
  rw [Around.under_plain (weight_type_call_type "bytearray" [x] []) rfl]
  unfold Builtin.«type.__call__»
  have ft := called
  have hm := mro_ba
  have hmade := ft.made
  have hsub := ft.sub
  have h1 := ft.notType
  have h2 := ft.canCreate
  simp only [h1, Bool.false_eq_true, if_false, h2]
  refine wpS_bind (wpS_of_eq (typeCall_ x) ?_)
  refine wpS_bind (wpS_of_eq hm ?_)
  rw [if_neg (by decide)]
  refine wpS_bind (wpS_of_eq hmade ?_)
  dsimp only
  refine wpS_bind (wpS_pure ?_)
  refine wpS_bindAny (wpAny_holding (wpAny_call (code_new x ?_)))
  have hx : (s.heap.push (baObj #[])).get? s.heap.objs.size = some (baObj #[]) := Heap.get?_push_size _ rfl
  refine wpS_bindAny (wpAny_isInstance (s := { s with heap := s.heap.push (baObj #[]) }) (typeIs (s := { s with heap := s.heap.push (baObj #[]) }) hx) hsub ?_)
  simp only [Bool.not_true, Bool.false_eq_true, if_false]
  refine wpS_bind (wpS_holding (S_callSpecial (T := .type "bytearray") ((Looks.ld hx).andThen .now) (Looks.of_pure slot_init.lookup) (Looks.of_pure (slot_init.bind _)) (wpS_mono hi fun r s' h => ?_)))
  obtain ⟨rfl, h⟩ := h
  dsimp only
  rw [if_neg (by decide)]
  exact wpS_pure ⟨_, rfl, h⟩
theorem init_ {a : Addr} {b b₀ : Array UInt8} {Q : Value → Shared → Prop} (ho : s.heap.get? a = some (baObj b₀)) (hz : b.size ≤ sizeLine)
    (hstr : ∀ (A : Around) (s' : Shared) (P : Option PySem.Str → Shared → Prop), s'.heap = s.heap.update a (Obj.mapBytearray fun _ => #[]) → P none s' → wpAny (model prog w) A (asStr? x) P noE s')
    (hidx : ∀ (A : Around) (s' : Shared) (P : Option Value → Shared → Prop), s'.heap = s.heap.update a (Obj.mapBytearray fun _ => #[]) → P none s' → wpAny (model prog w) A (specialOf x "__index__") P noE s')
    (hbuf : ∀ (A : Around) (s' : Shared) (P : Option (Array UInt8) → Shared → Prop), s'.heap = s.heap.update a (Obj.mapBytearray fun _ => #[]) → P (some b) s' → wpAny (model prog w) A (Bytes.buffer? "bytearray.__init__" x true) P noE s')
    (h : Q .none { s with heap := (s.heap.update a (Obj.mapBytearray fun _ => #[])).update a (Obj.mapBytearray fun _ => b) }) : wpS (model prog w) A (call (.builtin "bytearray.__init__") [.ref a, x]) Q s := by
  refine wpS_call (codeS_of_tree (wpS_of ?_) rfl)
  show wpAny _ A.in1 (do checkBuiltinCall "bytearray.__init__" ⟨[.ref a, x], []⟩; again (.builtin "bytearray.__init__" ⟨[.ref a, x], []⟩)) _ _ s
  refine wpAny_bind (slot_init.check _ _ _ _ _ _ _ _ (typeIs ho) (args_init _ _) (wpAny_pure ⟨plainId_quiet slot_init.plain _, ?_⟩))
  refine codeS_builtin entry_init (by decide +kernel) ?_
  unfold Builtin.«bytearray.__init__»
  show wpS _ _ (Bytes.ownRelease (.ref a) >>= fun r => _) _ s
  unfold Bytes.ownRelease
  refine wpS_bindAny (wpAny_bind (slotOwn_ ho look_release (by decide +kernel) (by decide +kernel) (wpAny_pure ?_)))
  rw [if_neg (by decide)]
  refine wpS_bind (wpS_of_eq (bind_init x) ?_)
  dsimp only
  refine wpS_bind (wpS_of_eq (a := ()) rfl ?_)
  refine wpS_bind (wpS_of_eq (a := ()) rfl ?_)
  unfold orM
  refine wpS_bind (wpS_bind (exported_ ?_))
  show wpS _ _ (Bytes.exportsOf (.ref a) >>= fun n => pure (decide (n > 0))) _ s
  refine wpS_bindAny (exports_ ho (wpS_pure ?_))
  rw [if_neg (by decide)]
  refine wpS_bindAny (write_ ho (Nat.zero_le _) ?_)
  have ho₁ : (s.heap.update a (Obj.mapBytearray fun _ => #[])).get? a = some (baObj #[]) := Heap.get?_update_self _ ho rfl
  refine wpS_bindAny (hstr _ _ _ rfl ?_)
  rw [if_neg (by decide)]
  refine wpS_bind (wpS_of_eq (a := ()) rfl ?_)
  refine wpS_bindAny (hidx _ _ _ rfl ?_)
  rw [if_neg (by decide)]
  refine wpS_bindAny (hbuf _ _ _ rfl ?_)
  dsimp only
  refine wpS_bind (wpS_rule (wpS_bindAny (write_ (s := { s with heap := s.heap.update a (Obj.mapBytearray fun _ => #[]) }) ho₁ hz ?_)))
  exact wpS_pure ⟨_, rfl, h⟩
end
section
variable {prog : Program} {w : World} {A : Around} {s : Shared} {h₀ : Heap} {L : Addr} {m : PySem.Str → Option Value} {news : List (Addr × Obj)} {b : Array UInt8} {Q : Value → Shared → Prop}
theorem put_twice {h : Heap} (F : Fr h₀ L h m) (N : News h₀ L h news) (b : Array UInt8) :
    Fr h₀ L (((h.push (baObj #[])).update h.objs.size (Obj.mapBytearray fun _ => #[])).update h.objs.size (Obj.mapBytearray fun _ => b)) m ∧
    News h₀ L (((h.push (baObj #[])).update h.objs.size (Obj.mapBytearray fun _ => #[])).update h.objs.size (Obj.mapBytearray fun _ => b)) ((h.objs.size, baObj b) :: news) := by
  have F1 := F.push (baObj #[])
  have N1 := N.push F (baObj #[])
  have ne : ∀ p ∈ news, p.1 ≠ h.objs.size := fun p hp => Nat.ne_of_lt (Heap.lt_size (N p hp).1)
  obtain ⟨F2, N2⟩ := news_upd (pre := []) (o' := baObj #[]) (f := Obj.mapBytearray fun _ => #[]) F1 N1 (fun _ h => nomatch h) ne rfl rfl
  exact news_upd (pre := []) (o' := baObj b) (f := Obj.mapBytearray fun _ => b) F2 N2 (fun _ h => nomatch h) ne rfl rfl
theorem buffer_b {id : String} {t : Tok} : Bytes.buffer? id (.bytes b t) true = pure (some b) := by
  unfold Bytes.buffer?
  rw [KBy.special_eq KBy.look_buffer, KBy.own_buffer, KBy.own_release]
  kernel_rfl
theorem of_bytes {t : Tok} (F : Fr h₀ L s.heap m) (N : News h₀ L s.heap news) (hz : b.size ≤ sizeLine)
    (h : ∀ x h', Fr h₀ L h' m → News h₀ L h' ((x, baObj b) :: news) → (∀ p ∈ news, p.1 < x) → Q (.ref x) { s with heap := h' }) : wpS (model prog w) A (call (.type "bytearray") [.bytes b t]) Q s := by
  have ho : (s.heap.push (baObj #[])).get? s.heap.objs.size = some (baObj #[]) := Heap.get?_push_size _ rfl
  obtain ⟨F2, N2⟩ := put_twice F N b
  refine make_ (init_ (s := { s with heap := s.heap.push (baObj #[]) }) ho hz (fun A s' P e hP => wpAny_of_eq rfl hP) (fun A s' P e hP => wpAny_of_eq ?_ hP) (fun A s' P e hP => wpAny_of_eq buffer_b hP)
    ⟨rfl, h _ _ F2 N2 fun p hp => Heap.lt_size (N p hp).1⟩)
  show specialOf (.bytes b t) "__index__" = pure none
  rw [KBy.special_eq look_index_b]
theorem of_ba {a : Addr} (F : Fr h₀ L s.heap m) (N : News h₀ L s.heap news) (hm : (a, baObj b) ∈ news) (hz : b.size ≤ sizeLine)
    (h : ∀ x h', Fr h₀ L h' m → News h₀ L h' ((x, baObj b) :: news) → (∀ p ∈ news, p.1 < x) → Q (.ref x) { s with heap := h' }) : wpS (model prog w) A (call (.type "bytearray") [.ref a]) Q s := by
  have ho : (s.heap.push (baObj #[])).get? s.heap.objs.size = some (baObj #[]) := Heap.get?_push_size _ rfl
  have hl : a < s.heap.objs.size := Heap.lt_size (N _ hm).1
  have ha : ((s.heap.push (baObj #[])).update s.heap.objs.size (Obj.mapBytearray fun _ => #[])).get? a = some (baObj b) :=
    (Heap.get?_update_other _ _ (Nat.ne_of_gt hl)).trans (Heap.get?_push_of_some _ (N _ hm).1)
  obtain ⟨F2, N2⟩ := put_twice F N b
  exact make_ (init_ (s := { s with heap := s.heap.push (baObj #[]) }) ho hz (fun A s' P e hP => asStr_ (b := b) (by rw [e]; exact ha) hP)
    (fun A s' P e hP => wpAny_specialOf (typeIs (b := b) (by rw [e]; exact ha)) look_index hP) (fun A s' P e hP => buffer_ (by rw [e]; exact ha) hP)
    ⟨rfl, h _ _ F2 N2 fun p hp => Heap.lt_size (N p hp).1⟩)
end
end BA
end Mine
/- part C0 -/
namespace Mine
section
/-- what a place of call knows, but for its frame -/
structure Site (w : World) (A : Around) (h₀ : Heap) (L : Addr) (n : Nat) : Prop where
  ex : ∃ (A₀ : Around) (base : Heap) (outer : List Env) (env : Env) (mean : ExcName → Option Value) (mg mb : PySem.Str → Option Value), Below A₀ base outer h₀ ∧ A.frames = some (env :: outer) ∧ env.frame = some L ∧ env.scope.kind = .function ∧
    (hd.heap_1 w.params).In h₀ ∧ Top hd.view_39 (looseW hd.view_39 [PySem.Str.ofString "ResizableFile", PySem.Str.ofString "createJournal"]) mean mg mb h₀
  room : A.depth + n < recursionLimit
  units : A.units + 5 * n < cLine
  calm : A.handled = none
theorem Site.use {w : World} {A : Around} {h₀ : Heap} {L : Addr} {n : Nat} {P : Prop} (S : Site w A h₀ L n) (k : ∀ (A₀ : Around) (base : Heap) (outer : List Env) (env : Env) (mean : ExcName → Option Value) (mg mb : PySem.Str → Option Value), Below A₀ base outer h₀ → A.frames = some (env :: outer) → env.frame = some L → env.scope.kind = .function →
    (hd.heap_1 w.params).In h₀ → Top hd.view_39 (looseW hd.view_39 [PySem.Str.ofString "ResizableFile", PySem.Str.ofString "createJournal"]) mean mg mb h₀ → A.depth + n < recursionLimit → A.units + 5 * n < cLine → A.handled = none → P) : P := by
  obtain ⟨⟨A₀, base, outer, env, mean, mg, mb, B, hA, hf, hke, X, T⟩, room, units, calm⟩ := S
  exact k A₀ base outer env mean mg mb B hA hf hke X T room units calm
theorem wpS_abs {α : Type} {M : Model} {A : Around} {t : Sem α} {Q : α → Shared → Prop} {s : Shared} (h : ∀ Q' : α → Shared → Prop, (∀ a s, Q a s → Q' a s) → wpS M A t Q' s) : wpS M A t Q s := h Q fun _ _ x => x
theorem Site.less {w : World} {A : Around} {h₀ : Heap} {L : Addr} {n k : Nat} (S : Site w A h₀ L n) (h : k ≤ n) : Site w A h₀ L k := ⟨S.ex, Nat.lt_of_le_of_lt (Nat.add_le_add_left h _) S.room, Nat.lt_of_le_of_lt (Nat.add_le_add_left (Nat.mul_le_mul_left 5 h) _) S.units, S.calm⟩
section
variable {w : World} {A : Around} {s : Shared} {h₀ : Heap} {L : Addr} {m : PySem.Str → Option Value} {news : List (Addr × Obj)} {n : Nat}
  {name qual : PySem.Str} {params : Arguments} {body : List Stmt} {scope : Scope} {dV kV doc pm cdv ct oc : Value} {an od : Option Addr} {osl : Array (Option Value)} {f : Addr} {args : Args} {binds : List (PySem.Str × Value)}
theorem enterS {Q : Value → Shared → Prop} (S : Site w A h₀ L (n + 1)) (F : Fr h₀ L s.heap m) (N : News h₀ L s.heap news)
    (ho : (hd.heap_1 w.params).lookup f = some ⟨oc, od, .func (fnOf name qual params body scope dV kV doc pm an cdv ct), osl⟩) (hcd : codeIn (hd.heap_1 w.params) cdv qual = true)
    (hbind : BindsTo s (fnOf name qual params body scope dV kV doc pm an cdv ct) args binds) (hloc : ∀ y ∈ binds, scope.names.lookup y.1 = some .local)
    (h : ∀ g L' h₁, Fr g L' h₁ (fun y => binds.reverse.lookup y) → News g L' h₁ news → Site w (A.deeper (envOf qual scope L' f cdv)) g L' n → (∀ p ∈ news, p.1 < L') →
      wpS (model PySem.Challenge.rw_jr0034_01.row.prog w) (A.deeper (envOf qual scope L' f cdv)) (execs body (envOf qual scope L' f cdv))
        (fun fl s' => ∃ m' news', Fr g L' s'.heap m' ∧ News g L' s'.heap news' ∧ (Fr h₀ L s'.heap m → News h₀ L s'.heap news' → Q (match fl with | .ret v => v | _ => .none) s'))
        { s with heap := h₁, toks := s.toks + binds.length })
    (hco : scope.isCoroutine = false) (hgen : scope.isGenerator = false) (hk : scope.kind = .function)
    (hcell : ∀ x ∈ scope.names, x.2 ≠ .cell) : codeS (model PySem.Challenge.rw_jr0034_01.row.prog w) A (.call (.ref f) args) (fun f s' => ∃ v, f = .ret v ∧ Q v s') s := by
  obtain ⟨⟨A₀, base, outer, env, mean, mg, mb, B, hA, hf, hke, X, T⟩, room, units, calm⟩ := S
  refine codeS_def B F X N T hA hf hke ho hcd (by (first | lia | omega)) hbind hloc (fun g L' h₁ FG F' N' B' X' T' l => ?_) hco hgen hk hcell
  refine wpS_mono (h g L' h₁ F' N' ⟨⟨A, base, env :: outer, envOf qual scope L' f cdv, mean, mg, mb, B', Around.frames_deeper hA, rfl, hk, X', T'⟩, ?_, ?_, calm⟩ l) ?_
  · show A.depth + 1 + n < _
    (first | lia | omega)
  · show A.units + 3 + 5 * n < _
    (first | lia | omega)
  · rintro fl s' ⟨m', news', F1, N1, k⟩
    exact ⟨L', m', news', F1, N1, fun F2 N2 => ⟨_, rfl, k F2 N2⟩⟩
theorem enterA {E : Value → Shared → Prop} {Q : Value → Shared → Prop} (S : Site w A h₀ L (n + 1)) (F : Fr h₀ L s.heap m) (N : News h₀ L s.heap news)
    (ho : (hd.heap_1 w.params).lookup f = some ⟨oc, od, .func (fnOf name qual params body scope dV kV doc pm an cdv ct), osl⟩) (hcd : codeIn (hd.heap_1 w.params) cdv qual = true)
    (hbind : BindsTo s (fnOf name qual params body scope dV kV doc pm an cdv ct) args binds) (hloc : ∀ y ∈ binds, scope.names.lookup y.1 = some .local)
    (h : ∀ g L' h₁, Fr g L' h₁ (fun y => binds.reverse.lookup y) → News g L' h₁ news → Site w (A.deeper (envOf qual scope L' f cdv)) g L' n → (∀ p ∈ news, p.1 < L') →
      wpAny (model PySem.Challenge.rw_jr0034_01.row.prog w) (A.deeper (envOf qual scope L' f cdv)) (execs body (envOf qual scope L' f cdv))
        (fun fl s' => ∃ m' news', Fr g L' s'.heap m' ∧ News g L' s'.heap news' ∧ (Fr h₀ L s'.heap m → News h₀ L s'.heap news' → Q (match fl with | .ret v => v | _ => .none) s')) noE
        { s with heap := h₁, toks := s.toks + binds.length })
    (hco : scope.isCoroutine = false) (hgen : scope.isGenerator = false) (hk : scope.kind = .function)
    (hcell : ∀ x ∈ scope.names, x.2 ≠ .cell) : codeAny (model PySem.Challenge.rw_jr0034_01.row.prog w) A (.call (.ref f) args) (fun r s' => match r with | .ok (.ret v) => Q v s' | .ok _ => False | .error e => E e s') s := by
  obtain ⟨⟨A₀, base, outer, env, mean, mg, mb, B, hA, hf, hke, X, T⟩, room, units, calm⟩ := S
  refine callX_plain (cl := []) B F N T.nolimit hA hf hke ((X.keeps F.keep) _ _ ho) rfl (codeRec_of (X.keeps F.keep) hcd) (by (first | lia | omega)) hbind hloc (fun g L' h₁ FG F' N' B' st l => ?_) hcell hco hgen hk
  refine wpAny_mono (h g L' h₁ F' N' ⟨⟨A, base, env :: outer, envOf qual scope L' f cdv, mean, mg, mb, B', Around.frames_deeper hA, rfl, hk, X.keeps st, T.keeps st⟩, ?_, ?_, calm⟩ l) ?_ (fun _ _ x => x.elim)
  · show A.depth + 1 + n < _
    (first | lia | omega)
  · show A.units + 3 + 5 * n < _
    (first | lia | omega)
  · rintro fl s' ⟨m', news', F1, N1, k⟩
    exact ⟨L', m', news', F1, N1, fun F2 N2 => k F2 N2⟩
end
structure Apart (a b : Nat) : Prop where
  ne : a ≠ b
theorem Apart.symm {a b : Nat} (h : Apart a b) : Apart b a := ⟨fun e => h.ne e.symm⟩
structure Off (d : Nat) (l : List (Addr × Obj)) : Prop where
  off : ∀ p ∈ l, p.1 ≠ d
theorem off_of_allLt {d : Nat} : ∀ {l : List (Addr × Obj)}, AllLt d l → Off d l
  | [], _ => ⟨fun _ h => nomatch h⟩
  | p :: r, h => ⟨fun q hq => by
      rcases List.mem_cons.mp hq with rfl | hq
      · exact Nat.ne_of_lt h.1
      · exact (off_of_allLt h.2).off q hq⟩
theorem ne_lt {d a : Nat} {o : Obj} : ∀ {l : List (Addr × Obj)}, AllLt d l → (a, o) ∈ l → a ≠ d := fun h m => (off_of_allLt h).off _ m
theorem allLt_hd {d a : Nat} {o : Obj} {l : List (Addr × Obj)} (h : AllLt d ((a, o) :: l)) : Apart a d := ⟨Nat.ne_of_lt h.1⟩
theorem allLt_tl {d a : Nat} {o : Obj} {l : List (Addr × Obj)} (h : AllLt d ((a, o) :: l)) : AllLt d l := h.2
theorem off_hd {d a : Nat} {o : Obj} {r : List (Addr × Obj)} (h : Off d ((a, o) :: r)) : Apart a d := ⟨h.off _ (.head _)⟩
theorem off_tl {d a : Nat} {o : Obj} {r : List (Addr × Obj)} (h : Off d ((a, o) :: r)) : Off d r := ⟨fun p hp => h.off p (.tail _ hp)⟩
/-! the range's loop, with the ledger written out -/
abbrev riObj (x left : Int) : Obj := { cls := .type "range_iterator", data := .fields #[rawInt x, rawInt left, rawInt 1] }
section
variable {prog : Program} {w : World} {A : Around} {s : Shared} {h₀ : Heap} {m : PySem.Str → Option Value} {news : List (Addr × Obj)} {env : Env} {x : PySem.Str} {px : Pos} {body : List Stmt} {I : Addr} {a : Int} {n : Nat}
theorem upd_head {d : Addr} {o o' : Obj} {h h' : Heap} {L : Addr} (F : Fr h₀ L h m) (N : News h₀ L h ((d, o) :: news)) (ho : ∀ p ∈ news, p.1 ≠ d) (hs : Heap.SameBut d h h') (hd : h'.get? d = some o') :
    Fr h₀ L h' m ∧ News h₀ L h' ((d, o') :: news) := by
  have D := N (d, o) (.head _)
  obtain ⟨oL, es, ep, hL, r⟩ := F.ns
  refine ⟨⟨⟨oL, es, ep, (hs.2 L (Ne.symm D.2.1)).trans hL, r⟩, fun b o e => (hs.2 b fun q => ?_).trans (F.keep b o e), F.above⟩, fun p hp => ?_⟩
  · subst q
    rw [D.2.2] at e; cases e
  · rcases List.mem_cons.mp hp with rfl | hp
    · exact ⟨hd, D.2⟩
    · exact ⟨(hs.2 _ (ho p hp)).trans (N p (.tail _ hp)).1, (N p (.tail _ hp)).2⟩
theorem upd_ext {d : Addr} {o : Obj} {h h' : Heap} {L : Addr} (F : Fr h₀ L h m) (N : News h₀ L h ((d, o) :: news)) (ho : ∀ p ∈ news, p.1 ≠ d) (hs : Heap.ExtBut d h h') :
    Fr h₀ L h' m ∧ News h₀ L h' news := by
  have D := N (d, o) (.head _)
  obtain ⟨oL, es, ep, hL, r⟩ := F.ns
  refine ⟨⟨⟨oL, es, ep, hs L _ (Ne.symm D.2.1) hL, r⟩, fun b o e => hs b _ (fun q => ?_) (F.keep b o e), F.above⟩, fun p hp => ⟨hs _ _ (ho p hp) (N p (.tail _ hp)).1, (N p (.tail _ hp)).2⟩⟩
  subst q
  rw [D.2.2] at e; cases e
theorem S_forRange {R : Flow → Shared → Prop} (J : Nat → (PySem.Str → Option Value) → List (Addr × Obj) → Prop) (hh : A.handled = none) (hx : env.kindOf x = some .local)
    (hp : (env.scope.kind == .class || (env.scope.kind == .module && env.locals != env.globals)) = false)
    (F : Fr h₀ env.locals s.heap m) (N : News h₀ env.locals s.heap ((I, riObj a n) :: news)) (h0 : J 0 m news) (hoff : ∀ i m₁ news₁, J i m₁ news₁ → Off I news₁)
    (turn : ∀ i t m₁ news₁ h tk, i < n → J i m₁ news₁ → Fr h₀ env.locals h (fun y => if y = x then some (.int (a + i) t) else m₁ y) → News h₀ env.locals h ((I, riObj (a + i + 1) ((n : Int) - i - 1)) :: news₁) →
      wpS (model prog w) A (execs body env) (fun f s₂ => f = .next ∧ ∃ h' tk' m' news', s₂ = { s with heap := h', toks := tk' } ∧ Fr h₀ env.locals h' m' ∧ News h₀ env.locals h' ((I, riObj (a + i + 1) ((n : Int) - i - 1)) :: news') ∧ J (i + 1) m' news') { s with heap := h, toks := tk })
    (done : ∀ m₁ news₁ h tk, J n m₁ news₁ → Fr h₀ env.locals h m₁ → News h₀ env.locals h news₁ → R .next { s with heap := h, toks := tk }) :
    codeS (model prog w) A (.forLoop (.Name x px) (.ref I) body [] env) R s := by
  refine codeS_for (fun k s' => ∃ h' tk' m' news' i, s' = { s with heap := h', toks := tk' } ∧ Fr h₀ env.locals h' m' ∧ News h₀ env.locals h' ((I, riObj (a + (i : Nat)) ((n : Int) - (i : Nat))) :: news') ∧ J i m' news' ∧ i ≤ n ∧ k = n + 1 - i) ?_ (n + 1)
    ⟨s.heap, s.toks, m, news, 0, rfl, F, by simpa using N, h0, Nat.zero_le _, rfl⟩
  rintro k s' ⟨h', tk', m', news', i, rfl, F', N', hJ, hi, rfl⟩
  have ho := (hoff _ _ _ hJ).off
  have hit : IsRangeIter h' I (a + (i : Nat)) ((n : Int) - (i : Nat)) 1 := (N' _ (.head _)).1
  by_cases hlt : i < n
  · refine wpAny_pyNext_range_item hit (by (first | lia | omega)) fun h₁ hit₁ hs₁ => ?_
    obtain ⟨F1, N1⟩ := upd_head F' N' ho hs₁ hit₁
    refine wpAny_assign_Name (wpAny_storeName_local hx F1.ns (fun h₂ hn₂ hs₂ => ?_) hp)
    refine wpS_mono (turn i _ m' news' h₂ _ hlt hJ (F1.set hn₂ hs₂) (N1.set hs₂)) ?_
    rintro f s₃ ⟨rfl, h₃, tk₃, m₃, news₃, rfl, F3, N3, hJ3⟩
    refine ⟨n + 1 - (i + 1), by (first | lia | omega), h₃, tk₃, m₃, news₃, i + 1, rfl, F3, ?_, hJ3, hlt, rfl⟩
    have e1 : a + ((i + 1 : Nat) : Int) = a + i + 1 := by push_cast; (first | lia | omega)
    have e2 : (n : Int) - ((i + 1 : Nat) : Int) = (n : Int) - i - 1 := by push_cast; (first | lia | omega)
    rw [e1, e2]; exact N3
  · have hin : i = n := by (first | lia | omega)
    subst hin
    refine wpAny_pyNext_range_end hh hit (by (first | lia | omega)) fun h₁ he₁ => S_nil ?_
    obtain ⟨F1, N1⟩ := upd_ext F' N' ho he₁
    exact done m' news' h₁ tk' hJ F1 N1
theorem A_forRange {E : Value → Shared → Prop} {Q : Flow → Shared → Prop} (J : Nat → (PySem.Str → Option Value) → List (Addr × Obj) → Prop) (hh : A.handled = none) (hx : env.kindOf x = some .local)
    (hp : (env.scope.kind == .class || (env.scope.kind == .module && env.locals != env.globals)) = false)
    (F : Fr h₀ env.locals s.heap m) (N : News h₀ env.locals s.heap ((I, riObj a n) :: news)) (h0 : J 0 m news) (hoff : ∀ i m₁ news₁, J i m₁ news₁ → Off I news₁)
    (turn : ∀ i t m₁ news₁ h tk, i < n → J i m₁ news₁ → Fr h₀ env.locals h (fun y => if y = x then some (.int (a + i) t) else m₁ y) → News h₀ env.locals h ((I, riObj (a + i + 1) ((n : Int) - i - 1)) :: news₁) →
      wpAny (model prog w) A (execs body env) (fun f s₂ => f = .next ∧ ∃ h' tk' m' news', s₂ = { s with heap := h', toks := tk' } ∧ Fr h₀ env.locals h' m' ∧ News h₀ env.locals h' ((I, riObj (a + i + 1) ((n : Int) - i - 1)) :: news') ∧ J (i + 1) m' news') noE { s with heap := h, toks := tk })
    (done : ∀ m₁ news₁ h tk, J n m₁ news₁ → Fr h₀ env.locals h m₁ → News h₀ env.locals h news₁ → Q .next { s with heap := h, toks := tk }) :
    codeAny (model prog w) A (.forLoop (.Name x px) (.ref I) body [] env) (fun r s' => match r with | .ok f => Q f s' | .error e => cameBackBy (model prog w) A env E e s') s := by
  refine codeAny_forLoop (fun k s' => ∃ h' tk' m' news' i, s' = { s with heap := h', toks := tk' } ∧ Fr h₀ env.locals h' m' ∧ News h₀ env.locals h' ((I, riObj (a + (i : Nat)) ((n : Int) - (i : Nat))) :: news') ∧ J i m' news' ∧ i ≤ n ∧ k = n + 1 - i) ?_ (n + 1)
    ⟨s.heap, s.toks, m, news, 0, rfl, F, by simpa using N, h0, Nat.zero_le _, rfl⟩
  rintro k s' ⟨h', tk', m', news', i, rfl, F', N', hJ, hi, rfl⟩
  have ho := (hoff _ _ _ hJ).off
  have hit : IsRangeIter h' I (a + (i : Nat)) ((n : Int) - (i : Nat)) 1 := (N' _ (.head _)).1
  by_cases hlt : i < n
  · refine wpAny_pyNext_range_item hit (by (first | lia | omega)) fun h₁ hit₁ hs₁ => ?_
    obtain ⟨F1, N1⟩ := upd_head F' N' ho hs₁ hit₁
    refine wpAny_assign_Name (wpAny_storeName_local hx F1.ns (fun h₂ hn₂ hs₂ => ?_) hp)
    refine wpAny_mono (turn i _ m' news' h₂ _ hlt hJ (F1.set hn₂ hs₂) (N1.set hs₂)) ?_ (fun _ _ x => x.elim)
    rintro f s₃ ⟨rfl, h₃, tk₃, m₃, news₃, rfl, F3, N3, hJ3⟩
    refine ⟨n + 1 - (i + 1), by (first | lia | omega), h₃, tk₃, m₃, news₃, i + 1, rfl, F3, ?_, hJ3, hlt, rfl⟩
    have e1 : a + ((i + 1 : Nat) : Int) = a + i + 1 := by push_cast; (first | lia | omega)
    have e2 : (n : Int) - ((i + 1 : Nat) : Int) = (n : Int) - i - 1 := by push_cast; (first | lia | omega)
    rw [e1, e2]; exact N3
  · have hin : i = n := by (first | lia | omega)
    subst hin
    refine wpAny_pyNext_range_end hh hit (by (first | lia | omega)) fun h₁ he₁ => wpAny_execs_nil ?_
    obtain ⟨F1, N1⟩ := upd_ext F' N' ho he₁
    exact done m' news' h₁ tk' hJ F1 N1
end
section
variable {prog : Program} {w : World} {A : Around} {E : Value → Shared → Prop} {s : Shared} {h₀ : Heap} {L : Addr} {m : PySem.Str → Option Value} {news news' : List (Addr × Obj)}
theorem iterRange {r : Addr} {k : Int} {t u v : Tok} {Q : Value → Shared → Prop} (hr : IsRange s.heap r 0 k 1 t u v) (h0 : 0 ≤ k) (h1 : k ≤ 16777216) (F : Fr h₀ L s.heap m) (N : News h₀ L s.heap news)
    (h : ∀ I h', Fr h₀ L h' m → News h₀ L h' ((I, riObj 0 k) :: news) → (∀ p ∈ news, p.1 < I) → Q (.ref I) { s with heap := h' }) : wpAny (model prog w) A (pyIter (.ref r)) Q E s := by
  have hsz : Builtin.Range.rangeSize 0 k 1 = k := by
    rw [rangeSize_nat]
    (first | lia | omega)
  refine wpAny_pyIter_range hr (small_one (by (first | lia | omega)) (by (first | lia | omega)) (by (first | lia | omega)) (by (first | lia | omega))) ?_
  rw [hsz]
  exact h _ _ (F.push _) (N.push F _) (fun p hp => Heap.lt_size (N p hp).1)
namespace BA
theorem append_U {a : Addr} {b : Array UInt8} {i : Int} {t : Tok} {Q : Value → Shared → Prop} (F : Fr h₀ L s.heap m) (N : News h₀ L s.heap news) (U : Upd a (baObj b) (baObj (b.push i.toNat.toUInt8)) news news') (h0 : 0 ≤ i) (h1 : i < 256) (hz : b.size < sizeLine)
    (h : ∀ h', Fr h₀ L h' m → News h₀ L h' news' → Q .none { s with heap := h' }) : wpS (model prog w) A (call (.builtin "bytearray.append") [.ref a, .int i t]) Q s := by
  obtain ⟨pre, post, rfl, rfl, c, d⟩ := U.split
  obtain ⟨F1, N1⟩ := news_upd (f := Obj.mapBytearray (·.push i.toNat.toUInt8)) F N c d rfl rfl
  exact append_ (N (a, baObj b) (by simp)).1 h0 h1 hz (h _ F1 N1)
theorem setItem_U {a : Addr} {b : Array UInt8} {i x : Int} {t u : Tok} {Q : Unit → Shared → Prop} (F : Fr h₀ L s.heap m) (N : News h₀ L s.heap news) (U : Upd a (baObj b) (baObj (b.setIfInBounds i.toNat x.toNat.toUInt8)) news news')
    (h0 : 0 ≤ i) (h1 : i < b.size) (hx0 : 0 ≤ x) (hx1 : x < 256) (hz : b.size ≤ sizeLine)
    (h : ∀ h', Fr h₀ L h' m → News h₀ L h' news' → Q () { s with heap := h' }) : wpAny (model prog w) A (setItem (.ref a) (.int i t) (.int x u)) Q E s := by
  obtain ⟨pre, post, rfl, rfl, c, d⟩ := U.split
  obtain ⟨F1, N1⟩ := news_upd (f := Obj.mapBytearray (·.setIfInBounds i.toNat x.toNat.toUInt8)) F N c d rfl rfl
  exact setItem_ (N (a, baObj b) (by simp)).1 h0 h1 hx0 hx1 hz (h _ F1 N1)
theorem method_append {a : Addr} {b : Array UInt8} {pl : Sem Bool} {Q : Value × List Value → Shared → Prop} (N : News h₀ L s.heap news) (hm : (a, baObj b) ∈ news) (h : Q (.builtin "bytearray.append", [.ref a]) s) :
    wpAny (model prog w) A (getMethod (.ref a) (PySem.Str.ofString "append") pl) Q E s :=
  getMethod_builtin (typeIs (N _ hm).1) plainAttrs slot_append type_append (fun x e => by cases e; exact ⟨_, (N _ hm).1, rfl⟩) h
theorem len_N {a : Addr} {b : Array UInt8} {Q : Value → Shared → Prop} (N : News h₀ L s.heap news) (hm : (a, baObj b) ∈ news) (hz : b.size ≤ 16777216) (h : ∀ t k, Q (.int b.size t) { s with toks := k }) :
    wpAny (model prog w) A (call (.builtin "len") [.ref a]) Q E s := len_ (N _ hm).1 (by (first | lia | omega)) (h _ _)
theorem bytes_N {a : Addr} {b : Array UInt8} {Q : Value → Shared → Prop} (N : News h₀ L s.heap news) (hm : (a, baObj b) ∈ news) (hz : b.size ≤ 16777216) (h : ∀ t k, Q (.bytes b t) { s with toks := k }) :
    wpAny (model prog w) A (call (.type "bytes") [.ref a]) Q E s := bytes_of (N _ hm).1 (by rw [sizeLine_eq]; exact hz) h
end BA
end
theorem if_twice {x : PySem.Str} {a u : Option Value} {f : PySem.Str → Option Value} : (fun y => if y = x then a else if y = x then u else f y) = fun y => if y = x then a else f y := by
  funext y
  by_cases h : y = x
  · rw [if_pos h, if_pos h]
  · rw [if_neg h, if_neg h, if_neg h]
theorem Fr_twice {h₀ h : Heap} {L : Addr} {x : PySem.Str} {a u : Option Value} {f : PySem.Str → Option Value} (F : Fr h₀ L h (fun y => if y = x then a else if y = x then u else f y)) : Fr h₀ L h (fun y => if y = x then a else f y) := by
  rw [← if_twice (u := u)]; exact F
theorem if_first {x : PySem.Str} {f : PySem.Str → Option Value} (h : f x = none) : f = fun y => if y = x then none else f y := by
  funext y
  by_cases e : y = x
  · rw [if_pos e, e, h]
  · rw [if_neg e]
end
/- part E1 -/
section
section
variable {prog : Program} {w : World} {A : Around} {s : Shared} {R : Flow → Shared → Prop} {name : PySem.Str} {params : Arguments} {body : List Stmt} {scope : Scope} {dV kV pm cd doc : Value} {a : Addr} {o : Obj} {args : Args} {binds : List (PySem.Str × Value)}
theorem codeS_top (hroom : A.depth < recursionLimit) (ho : s.heap.get? a = some o) (hdata : o.data = .func { docDef name params body scope pm cd doc with defaults := dV, kwdefaults := kV }) (hlim : s.heap.NoLimit) (hcd : s.heap.CodeRec cd name)
    (hbind : BindsTo s { docDef name params body scope pm cd doc with defaults := dV, kwdefaults := kV } args binds)
    (hloc : ∀ x ∈ binds, scope.names.lookup x.1 = some .local)
    (h : ∀ h₁, Fr s.heap s.heap.objs.size h₁ (fun x => binds.reverse.lookup x) →
      wpS (model prog w) (A.deeper (envOf name scope s.heap.objs.size a cd)) (execs body (envOf name scope s.heap.objs.size a cd))
        (fun f s' => R (.ret (match f with | .ret v => v | _ => .none)) s') { s with heap := h₁, toks := s.toks + binds.length })
    (hco : scope.isCoroutine = false) (hgen : scope.isGenerator = false) (hk : scope.kind = .function)
    (hcell : ∀ x ∈ scope.names, x.2 ≠ .cell) : codeS (model prog w) A (.call (.ref a) args) R s := by
  refine codeS_call_function hroom ho hdata hco hgen rfl hcd (hbind _ _ _ _ ?_)
  refine wpAny_newFunctionEnv hcell hloc (fun h₁ hns hsb => ⟨hlim.fresh _ hsb, codeS_func ?_⟩) hk
  exact h h₁ ⟨hns, fun b o e => hsb.extBut b o (Nat.ne_of_lt (Heap.lt_size e)) (Heap.get?_push_of_some _ e), Nat.le_refl _⟩
end
noncomputable def lawRec : DefRec := match defOf hd.view_39 (PySem.Str.ofString "law") with
  | some (d, _) => d
  | none => ⟨PySem.Str.ofString "law", default, [], default, default⟩
noncomputable def lawEnv (L a : Addr) (cd : Value) : Env := envOf lawRec.name lawRec.scope L a cd
theorem main_of (W : ∀ (w : World) (s : Shared) (g : Heap) (L fa : Addr) (cd : Value) (sa : Addr) (its : Array Value) (ns : List Int), Site w (callerA.deeper (lawEnv L fa cd)) g L 30 → Fr g L s.heap (fun x => [(PySem.Str.ofString "script", Value.ref sa)].lookup x) → g.IsList sa its → IntsAre its.toList ns → ns.length ≤ 63 →
      wpS (model PySem.Challenge.rw_jr0034_01.row.prog w) (callerA.deeper (lawEnv L fa cd)) (execs lawRec.body (lawEnv L fa cd)) (fun f s' => f = .ret (.bool true) ∧ ∃ m' h' tk', s' = { s with heap := h', toks := tk' } ∧ Fr g L h' m') s) : WalkOf hd := by
  intro w s₀ s₁ mg mb G Y fa o pm cd doc dV kV ho hd' hcd hD hmg hg args vals as hpre hlay hrd hwl hlo
  have KX := kIn_of Y
  have X := (Ground.X G).1
  have V := (Ground.X G).2
  refine Ground.open G ?_
  intro T B D TE TW
  obtain ⟨_, _, M⟩ := bmod_of_top T
  have TA := at_of_top T
  obtain ⟨_, _, he, B0⟩ := based_of_top T rfl hmg ho hd'
  have he' : cd = _ := he
  subst he'
  clear he
  clear hmg
  wrow_args hpre hlay hrd hwl hlo
  refine (fun (good : ∀ s' : Shared, (∀ b ob, s₁.heap.get? b = some ob → s'.heap.get? b = some ob) → s'.os = s₁.os → s'.gens = s₁.gens → GoodWG _ _ _ _ s₁ (.ok (.ret (.bool true))) s') => ⟨good s₁ (fun _ _ e => e) rfl rfl, ?_⟩) ?good
  case good =>
    intro s' k e1 e2
    exact ⟨.inl ⟨.bool true, .bool true, [], rfl, raisesW_false (by wrow_none_raised), ReadsW.bool true, postW_of (by wrow_shape) (by wtm_val) (by str_meet; first | done | w_fin), unshared_nil⟩, .of_keep k, e1, .of_eq (e2.trans hg)⟩
  have he := Dflts.none hD rfl
  subst he
  rename IntsAre _ _ => hI
  refine wpS_call (codeS_top (by decide) ho hd' (Top.nolimit T) hcd (BindsTo.of_eq rfl) (locs rfl) (fun h₁ F => ?_) rfl rfl rfl (by decide))
  refine wpS_mono (W w _ s₁.heap s₁.heap.objs.size fa _ _ _ _ ⟨⟨callerA, s₁.heap, [], lawEnv s₁.heap.objs.size fa _, _, mg, mb, below_caller _, rfl, rfl, rfl, KX, T⟩, (show callerA.depth + 1 + 30 < recursionLimit by decide +kernel), (show callerA.units + 3 + 5 * 30 < cLine by decide +kernel), rfl⟩ F (by assumption) hI (by omega)) ?_
  rintro f s' ⟨rfl, m', h', tk', rfl, F'⟩
  exact ⟨_, rfl, good _ F'.keep rfl rfl⟩
end
/- part C1 -/
theorem filled : PySem.Challenge.rw_jr0034_01 = PySem.Challenge.rw_jr0034_01 ∧ hd.heap_1 = hd.heap_1 := by
  k_fill
  exact ⟨rfl, rfl⟩
local macro_rules | `(tactic| walk_at "my mem") => `(tactic| first | with_reducible assumption | with_reducible exact List.mem_cons_self | (with_reducible refine List.mem_cons_of_mem _ ?_; walk_at "my mem"))
local macro_rules | `(tactic| k_mem) => `(tactic| walk_at "my mem")
local macro_rules | `(tactic| k_all) => `(tactic| first | (refine Off.off ?_; assumption) | (refine Off.off (off_of_allLt ?_); assumption))
local macro_rules | `(tactic| walk_at "my steps") => `(tactic| (k_fold; repeat' (first | (k_unfold; (try dsimp only)) | walk1 | (dsimp only; walk1) | fail "no step")))
local macro_rules | `(tactic| walk_at "getMethod ref") => `(tactic| (k_here; k_dflt (refine' BA.method_append ?k1 ?k2 ?_; (case k1 => k_asm); (case k2 => k_mem); k_whole)))
local macro_rules | `(tactic| walk_at "my memS") => `(tactic| first | with_reducible exact List.mem_cons_self | (with_reducible refine List.mem_cons_of_mem _ ?_; walk_at "my memS"))
local macro_rules | `(tactic| k_ne) => `(tactic| (refine neN ?_; (try dsimp only); first | (refine Apart.ne ?_; with_reducible assumption) | (refine Apart.ne (Apart.symm ?_); with_reducible assumption) | (refine' ne_lt ?k1 ?k2; (case k1 => with_reducible assumption); (case k2 => walk_at "my memS")) | (refine' Ne.symm (ne_lt ?k1 ?k2); (case k1 => with_reducible assumption); (case k2 => walk_at "my memS"))))
local macro_rules | `(tactic| k_lt $h) => `(tactic| with_reducible replace $h := allLt_of (l := _ :: _) $h)
local macro_rules | `(tactic| walk_at "my less") => `(tactic| first | exact Nat.le_add_left_of_le (by decide) | exact Nat.add_le_add_left (by decide) _ | (first | lia | omega))
section
variable {w : World} {A : Around} {s : Shared} {h₀ : Heap} {L : Addr} {m : PySem.Str → Option Value} {rest : List (Addr × Obj)} {n : Nat}
abbrev rfDict (w : World) (t1 t2 t3 : Tok) (mm : Addr) : Obj := dictOf [⟨PyData.keyHash w.params (PySem.Str.ofString "_ResizableFile__resizeFactor"), .str (PySem.Str.ofString "_ResizableFile__resizeFactor") t1, .int 2 t2⟩, ⟨PyData.keyHash w.params (PySem.Str.ofString "_ResizableFile__mm"), .str (PySem.Str.ofString "_ResizableFile__mm") t3, .ref mm⟩] 2
set_option pp.deepTerms false in
set_option pp.maxSteps 4000 in
theorem extand_S {rf drf mm : Addr} {t1 t2 t3 t : Tok} {b : Array UInt8} {k : Int} {Q : Value → Shared → Prop} (S : Site w A h₀ L (n + 1)) (F : Fr h₀ L s.heap m)
    (N : News h₀ L s.heap ((rf, instObj 282 drf) :: (drf, rfDict w t1 t2 t3 mm) :: (mm, baObj b) :: rest))
    (d1 : Apart rf mm) (d2 : Apart drf mm) (d3 : Off mm rest) (h0 : 0 ≤ k) (hz : b.size + k.toNat ≤ 16777216)
    (h : ∀ h' tk, Fr h₀ L h' m → News h₀ L h' ((rf, instObj 282 drf) :: (drf, rfDict w t1 t2 t3 mm) :: (mm, baObj (b ++ Array.replicate k.toNat 0)) :: rest) → Q .none { s with heap := h', toks := tk }) :
    wpS (model PySem.Challenge.rw_jr0034_01.row.prog w) A (call (.ref 279) [.ref rf, .int k t]) Q s := by
  refine' wpS_call (enterS (binds := [(PySem.Str.ofString "self", .ref rf), (PySem.Str.ofString "bytesToAdd", .int k t)]) S F N ?ho ?hcd ?hb ?hl ?_ ?c1 ?c2 ?c3 ?c4)
  case ho => k_is
  case hcd => k_is
  case hb => exact BindsTo.of_eq rfl
  case hl => exact locs rfl
  case c1 => exact rfl
  case c2 => exact rfl
  case c3 => exact rfl
  case c4 => decide
  intro g L' h₁ F' N' S' l
  refine Site.use S' fun A₀ base outer env mean mg mb B hA hf hke X T room units calm => ?_
  refine S_cons (S_For (wpS_of ?_))
  walk_at "my steps"
  rename IsRange _ _ _ _ _ _ _ _ => hr
  rename Fr _ _ _ _ => F2
  rename News _ _ _ _ => N2
  refine iterRange hr h0 (by (first | lia | omega)) F2 N2 fun I h3 F3 N3 l3 => ?_
  k_lt l3
  refine S_forRange (n := k.toNat) (a := 0) (fun i m₁ news₁ => (∃ u, m₁ = fun y => if y = PySem.Str.ofString "k" then u else List.lookup y [(PySem.Str.ofString "bytesToAdd", Value.int k t), (PySem.Str.ofString "self", Value.ref rf)]) ∧
      news₁ = ((rf, instObj 282 drf) :: (drf, rfDict w t1 t2 t3 mm) :: (mm, baObj (b ++ Array.replicate i 0)) :: rest)) calm rfl rfl F3 (by rw [Int.toNat_of_nonneg h0]; exact N3) ?_ ?_ ?_ ?_
  · exact ⟨⟨none, if_first rfl⟩, by simp⟩
  · rintro i m₁ news₁ ⟨⟨u, rfl⟩, rfl⟩
    exact ⟨by k_all⟩
  · rintro i t' m₁ news₁ h4 tk hi ⟨⟨u, rfl⟩, rfl⟩ F4 N4
    clear F3 N3 F2 N2 hr
    replace F4 := Fr_twice F4
    refine S_cons (S_Expr (S_method ?_))
    walk_at "my steps"
    refine S_callWith_builtin (wpS_of ?_)
    walk_at "my steps"
    rename Fr _ _ _ _ => F5
    rename News _ _ _ _ => N5
    refine' BA.append_U F5 N5 ?U (by decide) (by decide) ?z ?_
    case U => k_upd
    case z => rw [sizeLine_eq, Array.size_append, Array.size_replicate]; (first | lia | omega)
    intro h5 F6 N6
    refine S_nil ⟨rfl, h5, _, _, _, rfl, F6, N6, ⟨_, rfl⟩, ?_⟩
    rw [Array.replicate_succ, Array.append_push]
    rfl
  · rintro m₁ news₁ h4 tk ⟨⟨u, rfl⟩, rfl⟩ F4 N4
    refine S_nil ?_
    exact ⟨_, _, F4, N4, fun F5 N5 => h _ _ F5 N5⟩
end
/- part C2 -/
local macro_rules | `(tactic| walk_at "my size") => `(tactic| first | assumption | (first | lia | omega) | (simp only [Array.size_append, Array.size_replicate] at *; (first | lia | omega)))
theorem max_ii {prog : Program} {w : World} {A : Around} {E : Value → Shared → Prop} {s : Shared} {h₀ : Heap} {L : Addr} {m : PySem.Str → Option Value} {news : List (Addr × Obj)} {a b : Int} {t u : Tok} {Q : Value → Shared → Prop} (hh : A.handled = none) (F : Fr h₀ L s.heap m) (N : News h₀ L s.heap news)
    (h : ∀ h' tk t', Fr h₀ L h' m → News h₀ L h' news → Q (.int (max a b) t') { s with heap := h', toks := tk }) : wpAny (model prog w) A (call (.builtin "max") [.int a t, .int b u]) Q E s := by
  refine max_two_ints hh fun h' tk hk => ?_
  have F' : Fr h₀ L h' m := by
    obtain ⟨oL, es, ep, hL, r⟩ := F.ns
    exact ⟨⟨oL, es, ep, hk _ _ hL, r⟩, fun b o e => hk _ _ (F.keep b o e), F.above⟩
  have N' : News h₀ L h' news := fun p hp => ⟨hk _ _ (N p hp).1, (N p hp).2⟩
  by_cases hc : b > a
  · rw [if_pos hc]
    have := h h' tk u F' N'
    rwa [show max a b = b by (first | lia | omega)] at this
  · rw [if_neg hc]
    have := h h' tk t F' N'
    rwa [show max a b = a by (first | lia | omega)] at this
local macro_rules | `(tactic| walk_at "call builtin:max") => `(tactic| (k_here; k_dflt (refine' max_ii ?k0 ?k1 ?k2 ?_; (case k0 => first | assumption | rfl); (case k1 => k_asm); (case k2 => k_asm); k_whole); intro _ _ _ _ _))
local macro_rules | `(tactic| walk_at "call builtin:len") => `(tactic| (k_here; (with_reducible show wpAny _ _ (call (Value.builtin "len") [Value.ref _]) _ _ _); k_dflt (refine' BA.len_N ?k1 ?k2 ?k3 ?_; (case k1 => k_asm); (case k2 => k_mem); (case k3 => walk_at "my size"); k_whole); intro _ _))
section
variable {w : World} {A : Around} {s : Shared} {h₀ : Heap} {L : Addr} {m : PySem.Str → Option Value} {rest : List (Addr × Obj)} {n : Nat}
def grownL (l : List UInt8) (need : Nat) : List UInt8 := if need ≤ l.length then l else l ++ List.replicate (max (2 * l.length) need - l.length) 0
def putL8 (l : List UInt8) (off : Nat) (v : List UInt8) : List UInt8 := l.take off ++ v ++ l.drop (off + v.length)
abbrev wrLoc (rf : Addr) (k : Int) (t : Tok) (v : Array UInt8) (u t2 : Tok) (x y : Option Value) : PySem.Str → Option Value := fun z =>
  if z = PySem.Str.ofString "newSize" then x else if z = PySem.Str.ofString "currSize" then y else if z = PySem.Str.ofString "size" then some (.int v.size t2) else
    List.lookup z [(PySem.Str.ofString "values", .bytes v u), (PySem.Str.ofString "offset", .int k t), (PySem.Str.ofString "self", .ref rf)]
theorem Fr_first {h₀ h : Heap} {L : Addr} {x : PySem.Str} {f : PySem.Str → Option Value} (e : f x = none) (F : Fr h₀ L h f) : Fr h₀ L h (fun y => if y = x then none else f y) := by
  rw [← if_first e]; exact F
theorem Fr_of {h₀ h : Heap} {L : Addr} {f f' : PySem.Str → Option Value} (e : ∀ z, f z = f' z) (F : Fr h₀ L h f) : Fr h₀ L h f' := by
  rw [← funext e]; exact F
theorem putL8_nil {l : List UInt8} {off : Nat} : putL8 l off [] = l := by
  unfold putL8
  simp
theorem wr_norm {h₀ h : Heap} {L : Addr} {rf : Addr} {k : Int} {t : Tok} {v : Array UInt8} {u t2 : Tok} {x y a c : Option Value} (F : Fr h₀ L h (fun q => if q = PySem.Str.ofString "newSize" then a else if q = PySem.Str.ofString "currSize" then c else wrLoc rf k t v u t2 x y q)) : Fr h₀ L h (wrLoc rf k t v u t2 a c) := by
  refine Fr_of (fun z => ?_) F
  dsimp only [wrLoc]
  by_cases q1 : z = PySem.Str.ofString "newSize"
  · simp only [if_pos q1]
  · by_cases q2 : z = PySem.Str.ofString "currSize"
    · simp only [if_neg q1, if_pos q2]
    · simp only [if_neg q1, if_neg q2]
theorem item_A {prog : Program} {w : World} {A : Around} {E : Value → Shared → Prop} {s : Shared} {value slice : PySem.Expr} {t ui : Tok} {Q : Value → Shared → Prop} {x : Array UInt8} {i : Int} (hfit : x.size ≤ 1099511627776) (h0 : 0 ≤ i) (h1 : i < (x.size : Int))
    (h : Q (.int (x.toList.getD i.toNat 0).toNat s.toks) { s with toks := s.toks + 1 })
    (hs : subscripted slice false (.bytes x t) (.int i ui) = operate [.bytes x t, .int i ui] (getItem (.bytes x t) (.int i ui)) := by with_unfolding_all rfl)
    (ht : ∀ r, letTemporaryGo value (.bytes x t) r = pure () := by intro _; with_unfolding_all rfl) :
    wpAny (model prog w) A (subscriptTail value slice (.bytes x t) (.int i ui)) Q E s := by
  obtain ⟨x⟩ := x
  exact KBy.item_N (x := x) hfit h0 h1 h hs ht
theorem byte_lt (b : UInt8) : ((b.toNat : Nat) : Int) < 256 := by
  have := b.toNat_lt
  (first | lia | omega)
theorem byte_back (b : UInt8) : ((b.toNat : Nat) : Int).toNat.toUInt8 = b := by
  simp
theorem putL8_step {l v : List UInt8} {off i : Nat} (hi : i < v.length) (hl : off + v.length ≤ l.length) :
    (putL8 l off (v.take i)).set (off + i) (v.getD i 0) = putL8 l off (v.take (i + 1)) := by
  unfold putL8
  have e1 : (v.take i).length = i := by rw [List.length_take]; (first | lia | omega)
  have e2 : (v.take (i + 1)).length = i + 1 := by rw [List.length_take]; (first | lia | omega)
  have e3 : (l.take off).length = off := by rw [List.length_take]; (first | lia | omega)
  have e5 : v.take (i + 1) = v.take i ++ [v[i]] := by
    rw [List.take_add_one, List.getElem?_eq_getElem hi]
    rfl
  have e6 : v.getD i 0 = v[i] := by
    rw [List.getD_eq_getElem?_getD, List.getElem?_eq_getElem hi]
    rfl
  have e4 : l.drop (off + i) = l[off + i] :: l.drop (off + (i + 1)) := List.drop_eq_getElem_cons (by (first | lia | omega))
  rw [e1, e2, e5, e6, List.append_assoc, List.append_assoc, List.set_append_right _ _ (by (first | lia | omega)), e3,
    List.set_append_right _ _ (by (first | lia | omega)), e1, show off + i - off - i = 0 by (first | lia | omega), e4, List.set_cons_zero, List.append_assoc]
  rfl
theorem lk_cons {z k : PySem.Str} {v : Value} {r : List (PySem.Str × Value)} : List.lookup z ((k, v) :: r) = if z = k then some v else List.lookup z r := by
  rw [List.lookup_cons]
  by_cases h : z = k
  · rw [if_pos h, h, beq_self_eq_true]
  · rw [if_neg h, beq_false_of_ne h]
set_option pp.deepTerms false in
set_option pp.maxSteps 4000 in
theorem write_S {rf drf mm : Addr} {t1 t2 t3 t u : Tok} {b v : Array UInt8} {k : Int} {Q : Value → Shared → Prop} (S : Site w A h₀ L (n + 2)) (F : Fr h₀ L s.heap m)
    (N : News h₀ L s.heap ((rf, instObj 282 drf) :: (drf, rfDict w t1 t2 t3 mm) :: (mm, baObj b) :: rest))
    (d1 : Apart rf mm) (d2 : Apart drf mm) (d3 : Off mm rest) (h0 : 0 ≤ k) (hk : k ≤ b.size) (hb : b.size ≤ 1000000) (hv : v.size ≤ 1000000)
    (h : ∀ h' tk b', b'.toList = putL8 (grownL b.toList (k.toNat + v.size)) k.toNat v.toList → Fr h₀ L h' m → News h₀ L h' ((rf, instObj 282 drf) :: (drf, rfDict w t1 t2 t3 mm) :: (mm, baObj b') :: rest) → Q .none { s with heap := h', toks := tk }) :
    wpS (model PySem.Challenge.rw_jr0034_01.row.prog w) A (call (.ref 265) [.ref rf, .int k t, .bytes v u]) Q s := by
  refine' wpS_call (enterS (binds := [(PySem.Str.ofString "self", .ref rf), (PySem.Str.ofString "offset", .int k t), (PySem.Str.ofString "values", .bytes v u)]) S F N ?ho ?hcd ?hb ?hl ?_ ?c1 ?c2 ?c3 ?c4)
  case ho => k_is
  case hcd => k_is
  case hb => exact BindsTo.of_eq rfl
  case hl => exact locs rfl
  case c1 => exact rfl
  case c2 => exact rfl
  case c3 => exact rfl
  case c4 => decide
  intro g L' h₁ F' N' S' l
  refine Site.use S' fun A₀ base outer env mean mg mb B hA hf hke X T room units calm => ?_
  refine wpS_abs fun Q9 hQ9 => ?_
  refine S_clean ?_
  walk_at "my steps"
  rename Fr g _ _ _ => F2
  rename News g _ _ _ => N2
  dsimp only [List.reverse_cons, List.reverse_nil, List.nil_append, List.cons_append] at F2
  have F2' := Fr_first (x := PySem.Str.ofString "newSize") (by rfl) (Fr_first (x := PySem.Str.ofString "currSize") (by rfl) F2)
  clear F2
  refine S_cons (S_While (codeS_while (fun n s' => ∃ h' tk' b' x y, s' = { s with heap := h', toks := tk' } ∧ Fr g L' h' (wrLoc rf k t v u _ x y) ∧ News g L' h' ((rf, instObj 282 drf) :: (drf, rfDict w t1 t2 t3 mm) :: (mm, baObj b') :: rest) ∧
    ((n = 1 ∧ b' = b) ∨ (n = 0 ∧ k.toNat + v.size ≤ b'.size ∧ ¬ (k.toNat + v.size ≤ b.size) ∧ b' = b ++ Array.replicate (max (2 * b.size) (k.toNat + v.size) - b.size) 0))) ?_ 1 ⟨_, _, b, none, none, rfl, F2', N2, .inl ⟨rfl, rfl⟩⟩))
  rintro n' s' ⟨h', tk', b', x, y, rfl, F3, N3, hI⟩
  clear F2' N2
  have hbs : b'.size ≤ 4000000 := by
    rcases hI with ⟨_, rfl⟩ | ⟨_, _, _, rfl⟩
    · (first | lia | omega)
    · rw [Array.size_append, Array.size_replicate]; (first | lia | omega)
  refine wpS_of ?_
  walk_at "my steps"
  · refine wpS_abs fun Q8 hQ8 => ?_
    refine S_clean ?_
    walk_at "my steps"
    refine S_clean ?_
    walk_at "my steps"
    refine S_cons (S_Expr (S_method ?_))
    walk_at "my steps"
    refine S_callWith (K := hd.heap_1 w.params) ?kp (wpS_of ?_)
    case kp => k_is
    walk_at "my steps"
    rename Fr g _ _ _ => F4
    rename News g _ _ _ => N4
    have hI' : n' = 1 ∧ b' = b := by
      rcases hI with h | ⟨_, h, _⟩
      · exact h
      · (first | lia | omega)
    obtain ⟨rfl, rfl⟩ := hI'
    refine extand_S S' F4 N4 d1 d2 d3 (by (first | lia | omega)) (by (first | lia | omega)) fun h5 tk5 F5 N5 => ?_
    refine S_nil (hQ8 _ _ ⟨0, by (first | lia | omega), h5, tk5, _, _, _, rfl, wr_norm F5, N5, .inr ⟨rfl, ?_, by (first | lia | omega), ?_⟩⟩)
    · rw [Array.size_append, Array.size_replicate]
      (first | lia | omega)
    · congr 2
      (first | lia | omega)
  · refine S_nil ?_
    have hg : b'.toList = grownL b.toList (k.toNat + v.size) := by
      unfold grownL
      rcases hI with ⟨_, rfl⟩ | ⟨_, _, h1, rfl⟩
      · rw [if_pos (by rw [Array.length_toList]; (first | lia | omega))]
      · rw [if_neg (by rw [Array.length_toList]; (first | lia | omega)), Array.toList_append, Array.toList_replicate, Array.length_toList]
    have hs : k.toNat + v.size ≤ b'.size := by (first | lia | omega)
    clear hI
    refine S_cons (S_For (wpS_of ?_))
    walk_at "my steps"
    rename IsRange _ _ _ _ _ _ _ _ => hr
    rename Fr g _ _ _ => F4
    rename News g _ _ _ => N4
    refine iterRange hr (by (first | lia | omega)) (by (first | lia | omega)) F4 N4 fun I h5 F5 N5 l5 => ?_
    k_lt l5
    refine S_forRange (n := v.size) (a := 0) (fun i m₁ news₁ => (∃ z, m₁ = fun q => if q = PySem.Str.ofString "k" then z else wrLoc rf k t v u (s.toks + 3 + 1) x y q) ∧
      ∃ b₂ : Array UInt8, b₂.toList = putL8 b'.toList k.toNat (v.toList.take i) ∧ b₂.size = b'.size ∧ news₁ = ((rf, instObj 282 drf) :: (drf, rfDict w t1 t2 t3 mm) :: (mm, baObj b₂) :: rest)) calm rfl rfl F5 N5 ?_ ?_ ?_ ?_
    · exact ⟨⟨none, if_first rfl⟩, b', by rw [List.take_zero, putL8_nil], rfl, rfl⟩
    · rintro i m₁ news₁ ⟨_, b₂, _, _, rfl⟩
      exact ⟨by k_all⟩
    · rintro i t' m₁ news₁ h6 tk hi ⟨⟨z, rfl⟩, b₂, e1, e2, rfl⟩ F6 N6
      clear F5 N5 F4 N4 hr
      replace F6 := Fr_twice F6
      refine wpS_abs fun Q8 hQ8 => ?_
      refine S_clean ?_
      walk_at "my steps"
      refine item_A (by (first | lia | omega)) (by (first | lia | omega)) (by (first | lia | omega)) ?_
      walk_at "my steps"
      rename Fr g _ _ _ => F7
      rename News g _ _ _ => N7
      refine' BA.setItem_U F7 N7 ?U ?g0 ?g1 ?g2 ?lt ?z ?_
      case U => k_upd
      case g0 => (first | lia | omega)
      case g1 => (first | lia | omega)
      case g2 => (first | lia | omega)
      case lt => exact byte_lt _
      case z => rw [sizeLine_eq]; (first | lia | omega)
      intro h8 F8 N8
      refine S_nil (hQ8 _ _ ⟨rfl, h8, _, _, _, rfl, F8, N8, ⟨_, rfl⟩, _, ?_, ?_, rfl⟩)
      · rw [Array.toList_setIfInBounds, e1, show (k + (0 + (i : Int))).toNat = k.toNat + i by (first | lia | omega), show ((0 : Int) + (i : Int)).toNat = i by (first | lia | omega), byte_back]
        exact putL8_step (by rw [Array.length_toList]; (first | lia | omega)) (by rw [Array.length_toList]; (first | lia | omega))
      · rw [Array.size_setIfInBounds, e2]
    · rintro m₁ news₁ h6 tk ⟨⟨z, rfl⟩, b₂, e1, e2, rfl⟩ F6 N6
      refine S_nil ?_
      exact hQ9 _ _ ⟨_, _, F6, N6, fun F7 N7 => h _ _ _ (by rw [e1, hg, List.take_of_length_le (by rw [Array.length_toList]; (first | lia | omega))]) F7 N7⟩
end
/- part C3 -/
theorem clip_nat (n k : Nat) : clipAt n (k : Int) = min k n := by
  unfold clipAt
  split <;> (first | lia | omega)
theorem picked_two (b : Array UInt8) {k z : Int} (h0 : 0 ≤ k) (hz : 0 ≤ z) : (KBy.picked b (some k) (some (k + z))).toList = (b.toList.drop k.toNat).take z.toNat := by
  rw [KBc.picked_eq]
  show ((b.toList.drop (clipAt b.size k)).take (clipAt b.size (k + z) - clipAt b.size k)) = _
  obtain ⟨k, rfl⟩ := Int.eq_ofNat_of_zero_le h0
  obtain ⟨z, rfl⟩ := Int.eq_ofNat_of_zero_le hz
  rw [← Int.natCast_add, clip_nat, clip_nat, Int.toNat_natCast, Int.toNat_natCast]
  have hl : b.toList.length = b.size := Array.length_toList
  by_cases hc : k ≤ b.size
  · rw [Nat.min_eq_left hc]
    by_cases hd : k + z ≤ b.size
    · rw [Nat.min_eq_left hd, Nat.add_sub_cancel_left]
    · rw [Nat.min_eq_right (Nat.le_of_not_le hd), List.take_of_length_le (by rw [List.length_drop, hl]; exact Nat.le_refl _), List.take_of_length_le (by rw [List.length_drop, hl]; exact Nat.sub_le_iff_le_add'.mpr (Nat.le_of_not_le hd))]
  · rw [Nat.min_eq_right (Nat.le_of_not_le hc), List.drop_eq_nil_of_le (by rw [hl]; exact Nat.le_refl _), List.drop_eq_nil_of_le (by rw [hl]; exact Nat.le_of_not_le hc), List.take_nil, List.take_nil]
section
variable {w : World} {A : Around} {s : Shared} {h₀ : Heap} {L : Addr} {m : PySem.Str → Option Value} {rest : List (Addr × Obj)} {n : Nat}
set_option pp.deepTerms false in
set_option pp.maxSteps 4000 in
theorem read_A {rf drf mm : Addr} {t1 t2 t3 t u : Tok} {b : Array UInt8} {k z : Int} {E : Value → Shared → Prop} {Q : Value → Shared → Prop} (S : Site w A h₀ L (n + 1)) (F : Fr h₀ L s.heap m)
    (N : News h₀ L s.heap ((rf, instObj 282 drf) :: (drf, rfDict w t1 t2 t3 mm) :: (mm, baObj b) :: rest))
    (h0 : 0 ≤ k) (hz : 0 ≤ z) (hb : b.size ≤ 4000000)
    (h : ∀ h' tk v tv, v.toList = (b.toList.drop k.toNat).take z.toNat → Fr h₀ L h' m → News h₀ L h' ((rf, instObj 282 drf) :: (drf, rfDict w t1 t2 t3 mm) :: (mm, baObj b) :: rest) → Q (.bytes v tv) { s with heap := h', toks := tk }) :
    wpAny (model PySem.Challenge.rw_jr0034_01.row.prog w) A (call (.ref 272) [.ref rf, .int k t, .int z u]) Q E s := by
  refine' wpAny_call (enterA (E := E) (binds := [(PySem.Str.ofString "self", .ref rf), (PySem.Str.ofString "offset", .int k t), (PySem.Str.ofString "size", .int z u)]) S F N ?ho ?hcd ?hb ?hl ?_ ?c1 ?c2 ?c3 ?c4)
  case ho => k_is
  case hcd => k_is
  case hb => exact BindsTo.of_eq rfl
  case hl => exact locs rfl
  case c1 => exact rfl
  case c2 => exact rfl
  case c3 => exact rfl
  case c4 => decide
  intro g L' h₁ F' N' S' l
  refine Site.use S' fun A₀ base outer env mean mg mb B hA hf hke X T room units calm => ?_
  walk_at "my steps"
  rename Fr g _ _ _ => F1
  rename News g _ _ _ => N1
  refine' BA.slice_N (s := ⟨_, _, _, _, _⟩) F1 N1 ?p1 ?p2 ?p3 ?p4 ?_
  case p1 => exact .tail _ (.tail _ (.head _))
  case p2 => constructor
  case p3 => constructor
  case p4 => rw [sizeLine_eq]; (first | lia | omega)
  intro x h2 F2 N2 l2
  walk_at "my steps"
  have hsz := KBc.size_picked_le b (some k) (some (k + z))
  refine BA.bytes_N N2 (.head _) (by (first | lia | omega)) fun tv tk2 => ?_
  show ∃ _ _, _
  refine ⟨_, _, F2, N2, fun F3 N3 => h _ _ _ _ (picked_two b h0 hz) F3 (fun p hp => N3 p (.tail _ hp))⟩
end
/- part C4 -/
section
variable {w : World} {A : Around} {s : Shared} {h₀ : Heap} {L : Addr} {m : PySem.Str → Option Value} {rest : List (Addr × Obj)} {n : Nat}
theorem Site.make {C : Addr} {r : List Value} {kw : List (PySem.Str × Value)} (S : Site w A h₀ L (n + 1)) : Site w (A.under (.builtin "type.__call__" ⟨.ref C :: r, kw⟩)) h₀ L n := by
  obtain ⟨⟨A₀, base, outer, env, mean, mg, mb, B, hA, hf, hke, X, T⟩, room, units, calm⟩ := S
  refine ⟨⟨A₀, base, outer, env, mean, mg, mb, B, ?_, hf, hke, X, T⟩, ?_, ?_, calm⟩
  · unfold Around.under
    dsimp only
    rw [hA]
    rfl
  · show A.depth + 1 + n < _
    (first | lia | omega)
  · have : (Code.builtin "type.__call__" ⟨.ref C :: r, kw⟩).cUnits = 1 := rfl
    show A.units + (Code.builtin "type.__call__" ⟨.ref C :: r, kw⟩).cUnits + 5 * n < _
    (first | lia | omega)
set_option pp.deepTerms false in
set_option pp.maxSteps 4000 in
theorem rfmake_S {mm : Addr} {td : Tok} {b d : Array UInt8} {Q : Value → Shared → Prop} (S : Site w A h₀ L (n + 3)) (F : Fr h₀ L s.heap m)
    (N : News h₀ L s.heap ((mm, baObj b) :: rest)) (d3 : Off mm rest) (hb0 : b.size ≠ 0) (hb : b.size ≤ 1000000)
    (h : ∀ h' tk rf drf t1 t2 t3 b', b'.toList = b.toList ++ List.replicate (1024 - b.size) 0 → Fr h₀ L h' m → News h₀ L h' ((rf, instObj 282 drf) :: (drf, rfDict w t1 t2 t3 mm) :: (mm, baObj b') :: rest) → (∀ p ∈ (mm, baObj b) :: rest, p.1 < drf) → drf < rf → Q (.ref rf) { s with heap := h', toks := tk }) :
    wpS (model PySem.Challenge.rw_jr0034_01.row.prog w) A (call (.ref 282) [.ref mm] [(PySem.Str.ofString "defaultContent", .bytes d td)]) Q s := by
  refine Site.use S fun A₁ base₁ outer₁ env₁ mean₁ mg₁ mb₁ B₁ hA₁ hf₁ hke₁ X₁ T₁ _ _ _ => ?_
  refine' wpS_call (codeS_make (fI := 258) F N X₁ ?m1 ?m2 ?m3 fun rf drf h1 F1 N1 l1 l2 => ?_)
  case m1 => k_is
  case m2 => k_is
  case m3 => k_is
  refine codeS_mono (R := fun f s' => ∃ v, f = .ret v ∧ (v = .none ∧ Q (.ref rf) s')) ?_ (by rintro f s' ⟨v, rfl, rfl, h⟩; exact ⟨rfl, _, rfl, h⟩)
  · refine' enterS (Q := fun v s' => v = .none ∧ Q (.ref rf) s') (binds := [(PySem.Str.ofString "self", .ref rf), (PySem.Str.ofString "mm", .ref mm), (PySem.Str.ofString "initialSize", .int 1024 467), (PySem.Str.ofString "resizeFactor", .int 2 468), (PySem.Str.ofString "defaultContent", .bytes d td)]) (n := n + 1) S.make F1 N1 ?ho ?hcd ?hb ?hl ?_ ?c1 ?c2 ?c3 ?c4
    case ho => k_is
    case hcd => k_is
    case hb => exact binds_K (X₁.keeps F1.keep) rfl (by k_is) rfl rfl rfl
    case hl => exact locs rfl
    case c1 => exact rfl
    case c2 => exact rfl
    case c3 => exact rfl
    case c4 => decide
    intro g L' h₁ F' N' S' l
    refine Site.use S' fun A₀ base outer env mean mg mb B hA hf hke X T room units calm => ?_
    have a1 : Apart mm drf := ⟨Nat.ne_of_lt (l1 _ (.head _))⟩
    have a2 : Apart drf rf := ⟨Nat.ne_of_lt l2⟩
    have a3 : Apart mm rf := ⟨Nat.ne_of_lt (Nat.lt_trans (l1 _ (.head _)) l2)⟩
    have a4 : Off drf rest := ⟨fun p hp => Nat.ne_of_lt (l1 p (.tail _ hp))⟩
    refine S_clean ?_
    walk_at "my steps"
    refine S_clean ?_
    walk_at "my steps"
    refine S_clean ?_
    walk_at "my steps"
    · exfalso; (first | lia | omega)
    refine S_clean ?_
    walk_at "my steps"
    refine S_cons (S_If (wpS_of ?_))
    walk_at "my steps"
    · refine S_cons (S_Expr (S_method ?_))
      walk_at "my steps"
      refine S_callWith (K := hd.heap_1 w.params) ?kp (wpS_of ?_)
      case kp => k_is
      walk_at "my steps"
      rename Fr g _ _ _ => F4
      rename News g _ _ _ => N4
      refine extand_S S' F4 (fun p hp => N4 p hp) a3.symm a1.symm d3 (by (first | lia | omega)) (by (first | lia | omega)) fun h5 tk5 F5 N5 => ?_
      refine S_nil (S_nil ⟨_, _, F5, N5, fun F6 N6 => ⟨rfl, h _ _ _ _ _ _ _ _ ?_ F6 N6 l1 l2⟩⟩)
      rw [Array.toList_append, Array.toList_replicate, show (1024 - (b.size : Int)).toNat = 1024 - b.size by (first | lia | omega)]
    · rename Fr g _ _ _ => F4
      rename News g _ _ _ => N4
      refine S_nil (S_nil ⟨_, _, F4, N4, fun F6 N6 => ⟨rfl, h _ _ _ _ _ _ _ b ?_ F6 (fun p hp => N6 p hp) l1 l2⟩⟩)
      rw [show 1024 - b.size = 0 by (first | lia | omega), List.replicate_zero, List.append_nil]
end
/- part B1 -/
section
def leB : Nat → Nat → List UInt8
  | 0, _ => []
  | k + 1, n => (n % 256).toUInt8 :: leB k (n / 256)
def leN : List UInt8 → Nat
  | [] => 0
  | b :: r => b.toNat + 256 * leN r
theorem leB_length : ∀ k n, (leB k n).length = k
  | 0, _ => rfl
  | k + 1, n => by
    show (leB k (n / 256)).length + 1 = k + 1
    rw [leB_length]
theorem leN_leB : ∀ k n, n < 256 ^ k → leN (leB k n) = n
  | 0, n, h => by
    show 0 = n
    rw [Nat.pow_zero] at h
    (first | lia | omega)
  | k + 1, n, h => by
    show ((n % 256).toUInt8).toNat + 256 * leN (leB k (n / 256)) = n
    rw [Nat.pow_succ] at h
    rw [leN_leB k (n / 256) (by (first | lia | omega))]
    have : ((n % 256).toUInt8).toNat = n % 256 := by
      show (n % 256) % 256 = n % 256
      (first | lia | omega)
    (first | lia | omega)
theorem little_leB : ∀ (k n : Nat), KTBy.little k (n : Int) = (leB k n).map fun c => (c.toNat : Int)
  | 0, _ => rfl
  | k + 1, n => by
    show (n : Int) % 256 :: KTBy.little k ((n : Int) / 256) = (((n % 256).toUInt8).toNat : Int) :: (leB k (n / 256)).map _
    have e1 : (((n % 256).toUInt8).toNat : Int) = (n : Int) % 256 := by
      show (((n % 256) % 256 : Nat) : Int) = _
      (first | lia | omega)
    have e2 : (n : Int) / 256 = ((n / 256 : Nat) : Int) := by (first | lia | omega)
    rw [e1, e2, little_leB k (n / 256)]
theorem ints_inj : ∀ {a b : List UInt8}, (a.map fun c => (c.toNat : Int)) = (b.map fun c => (c.toNat : Int)) → a = b
  | [], [], _ => rfl
  | [], _ :: _, h => by cases h
  | _ :: _, [], h => by cases h
  | x :: a, y :: b, h => by
    injection h with h1 h2
    have h1 : (x.toNat : Int) = y.toNat := h1
    have : x.toNat = y.toNat := by (first | lia | omega)
    rw [UInt8.toNat_inj.mp this, ints_inj h2]
theorem value_append (a : List Int) (x : Int) : KFB.value (a ++ [x]) = KFB.value a * 256 + x := by
  unfold KFB.value
  rw [List.foldl_append]
  rfl
theorem value_leN : ∀ l : List UInt8, KFB.value ((l.map fun c => (c.toNat : Int)).reverse) = (leN l : Int)
  | [] => rfl
  | b :: r => by
    rw [List.map_cons, List.reverse_cons, value_append, value_leN r]
    show _ = ((b.toNat + 256 * leN r : Nat) : Int)
    push_cast
    (first | lia | omega)
def cutL (x : List UInt8) (lo hi : Option Int) : List UInt8 := (x.drop (lo.elim 0 (clipAt x.length))).take (hi.elim x.length (clipAt x.length) - lo.elim 0 (clipAt x.length))
theorem picked_cut (x : List UInt8) (lo hi : Option Int) : KBy.picked x.toArray lo hi = (cutL x lo hi).toArray := KBc.picked_eq _ _ _
section
variable {prog : Program} {w : World} {A : Around} {E : Value → Shared → Prop} {s : Shared} {h₀ : Heap} {L : Addr} {m : PySem.Str → Option Value} {news : List (Addr × Obj)} {Q : Value → Shared → Prop}
theorem to_le {k : Nat} {x : Int} {t u v : Tok} (hk : k ≤ 8) (h0 : 0 ≤ x) (h1 : x.toNat < 256 ^ k) (h : ∀ t' tk, Q (.bytes (leB k x.toNat).toArray t') { s with toks := tk }) :
    wpAny (model prog w) A (call (.builtin "int.to_bytes") [.int x t, .int (k : Int) u, .str (PySem.Str.ofString "little") v]) Q E s := by
  refine KTBy.to_little (B := (256 : Int) ^ k) hk rfl h0 ?_ fun b t' k' hb _ => ?_
  · obtain ⟨n, rfl⟩ := Int.eq_ofNat_of_zero_le h0
    rw [Int.toNat_natCast] at h1
    have : ((256 ^ k : Nat) : Int) = (256 : Int) ^ k := by push_cast; rfl
    rw [← this]
    (first | lia | omega)
  · obtain ⟨n, rfl⟩ := Int.eq_ofNat_of_zero_le h0
    rw [Int.toNat_natCast] at h
    rw [little_leB] at hb
    have e : b.toList = leB k n := ints_inj hb
    have e' : b = (leB k n).toArray := by rw [← e, Array.toArray_toList]
    rw [e']
    exact h _ _
theorem to_le4 {x : Int} {t u v : Tok} (h0 : 0 ≤ x) (h1 : x < 4294967296) (h : ∀ t' tk, Q (.bytes (leB 4 x.toNat).toArray t') { s with toks := tk }) :
    wpAny (model prog w) A (call (.builtin "int.to_bytes") [.int x t, .int 4 u, .str (PySem.Str.ofString "little") v]) Q E s := to_le (k := 4) (by decide) h0 (by (first | lia | omega)) h
theorem to_le8 {x : Int} {t u v : Tok} (h0 : 0 ≤ x) (h1 : x < 1152921504606846976) (h : ∀ t' tk, Q (.bytes (leB 8 x.toNat).toArray t') { s with toks := tk }) :
    wpAny (model prog w) A (call (.builtin "int.to_bytes") [.int x t, .int 8 u, .str (PySem.Str.ofString "little") v]) Q E s := to_le (k := 8) (by decide) h0 (by (first | lia | omega)) h
theorem from_le {x : Addr} {b : List UInt8} {t u : Tok} (N : News h₀ L s.heap news) (hm : (x, KFB.bound) ∈ news) (hl : b.length ≤ 8)
    (h : ∀ t' k, Q (.int (leN b) t') { s with toks := k }) : wpAny (model prog w) A (call (.ref x) [.bytes b.toArray t, .str (PySem.Str.ofString "little") u]) Q E s := by
  refine KFB.call_little (ks := b.map fun c => (c.toNat : Int)) N hm rfl (by rw [List.length_map]; exact hl) fun t' k => ?_
  rw [value_leN]
  exact h _ _
theorem add_l {x y : List UInt8} {t u : Tok} (hz : x.length + y.length ≤ 16777216) (h : ∀ t' k, Q (.bytes (x ++ y).toArray t') { s with toks := k }) :
    wpAny (model prog w) A (binaryOp .Add (.bytes x.toArray t) (.bytes y.toArray u)) Q E s :=
  KBy.add_bytes (by simpa using hz) fun t' k => by rw [List.append_toArray]; exact h _ _
theorem slice_l {value slice : PySem.Expr} {x : List UInt8} {t : Tok} {l u : Value} {lo hi : Option Int} (hF : Fr h₀ L s.heap m) (hN : News h₀ L s.heap news) (hl : IsPart l lo) (hu : IsPart u hi) (hz : x.length ≤ 16777216)
    (h : ∀ h' t' k, Fr h₀ L h' m → News h₀ L h' news → Q (.bytes (cutL x lo hi).toArray t') { s with heap := h', toks := k })
    (hs : subscripted slice false (.bytes x.toArray t) (.ref s.heap.objs.size) = operate [.ref s.heap.objs.size, .bytes x.toArray t] (getItem (.bytes x.toArray t) (.ref s.heap.objs.size)) := by with_unfolding_all rfl)
    (ht : ∀ r, letTemporaryGo value (.bytes x.toArray t) r = pure () := by intro _; with_unfolding_all rfl) :
    wpAny (model prog w) A (subscriptTail value slice (.bytes x.toArray t) (.ref s.heap.objs.size)) Q E { s with heap := s.heap.push { cls := .type "slice", data := .fields #[l, u, .none] } } :=
  KBc.slice_K hF hN rfl hl hu (by rw [KBw.ints_length]; exact hz) (fun h' t' k F N _ => by rw [picked_cut]; exact h _ _ _ F N) hs ht
end
theorem cut_from (x : List UInt8) {k : Int} (h : 0 ≤ k) : cutL x (some k) none = x.drop k.toNat := by
  obtain ⟨n, rfl⟩ := Int.eq_ofNat_of_zero_le h
  rw [Int.toNat_natCast]
  unfold cutL
  show (x.drop (clipAt x.length (n : Int))).take (x.length - clipAt x.length (n : Int)) = _
  rw [clip_nat]
  by_cases hc : n ≤ x.length
  · rw [Nat.min_eq_left hc, List.take_of_length_le (by rw [List.length_drop]; (first | lia | omega))]
  · rw [Nat.min_eq_right (by (first | lia | omega)), List.drop_eq_nil_of_le (by (first | lia | omega)), List.drop_eq_nil_of_le (by (first | lia | omega)), List.take_nil]
theorem cut_to (x : List UInt8) {k : Int} (h : 0 ≤ k) : cutL x none (some k) = x.take k.toNat := by
  obtain ⟨n, rfl⟩ := Int.eq_ofNat_of_zero_le h
  rw [Int.toNat_natCast]
  unfold cutL
  show (x.drop 0).take (clipAt x.length (n : Int) - 0) = _
  rw [clip_nat, List.drop_zero, Nat.sub_zero]
  by_cases hc : n ≤ x.length
  · rw [Nat.min_eq_left hc]
  · rw [Nat.min_eq_right (by (first | lia | omega)), List.take_of_length_le (by (first | lia | omega)), List.take_of_length_le (by (first | lia | omega))]
theorem cut_mid (x : List UInt8) {i j : Int} (h : 0 ≤ i) (hj : i ≤ j) : cutL x (some i) (some j) = (x.drop i.toNat).take (j.toNat - i.toNat) := by
  have := picked_two x.toArray (k := i) (z := j - i) h (by (first | lia | omega))
  rw [show i + (j - i) = j by (first | lia | omega), picked_cut] at this
  rw [show j.toNat - i.toNat = (j - i).toNat by (first | lia | omega)]
  exact this
structure Has1 (h₀ : Heap) (L : Addr) (h : Heap) (a : Addr) (o : Obj) : Prop where
  on : h.get? a = some o ∧ a ≠ L ∧ h₀.get? a = none
theorem News_split {h₀ h : Heap} {L a : Addr} {o : Obj} {r : List (Addr × Obj)} (N : News h₀ L h ((a, o) :: r)) : Has1 h₀ L h a o ∧ News h₀ L h r :=
  ⟨⟨N (a, o) (.head _)⟩, fun p hp => N p (.tail _ hp)⟩
theorem News_join {h₀ h : Heap} {L a : Addr} {o : Obj} {r : List (Addr × Obj)} (H : Has1 h₀ L h a o) (N : News h₀ L h r) : News h₀ L h ((a, o) :: r) := fun p hp => by
  rcases List.mem_cons.mp hp with rfl | hp
  · exact H.on
  · exact N p hp
theorem News_nil {h₀ h : Heap} {L : Addr} : News h₀ L h [] := fun _ h => nomatch h
theorem off_cons {d a : Nat} {o : Obj} {r : List (Addr × Obj)} (h : Apart a d) (hr : Off d r) : Off d ((a, o) :: r) := ⟨fun p hp => by
  rcases List.mem_cons.mp hp with rfl | hp
  · exact h.ne
  · exact hr.off p hp⟩
theorem off_split {d a : Nat} {o : Obj} {r : List (Addr × Obj)} (h : Off d ((a, o) :: r)) : Apart a d ∧ Off d r := ⟨⟨h.off _ (.head _)⟩, ⟨fun p hp => h.off p (.tail _ hp)⟩⟩
theorem off_append {d : Nat} {l r : List (Addr × Obj)} (h : Off d l) (hr : Off d r) : Off d (l ++ r) := ⟨fun p hp => (List.mem_append.mp hp).elim (h.off p) (hr.off p)⟩
/-- no address twice -/
structure Nd (l : List (Addr × Obj)) : Prop where
  nd : (l.map (·.1)).Nodup
theorem Nd.split {a : Addr} {o : Obj} {r : List (Addr × Obj)} (h : Nd ((a, o) :: r)) : Off a r ∧ Nd r := by
  have := List.nodup_cons.mp h.nd
  exact ⟨⟨fun p hp e => this.1 (List.mem_map.mpr ⟨p, hp, e⟩)⟩, ⟨this.2⟩⟩
theorem Nd_hd {a : Addr} {o : Obj} {r : List (Addr × Obj)} (h : Nd ((a, o) :: r)) : Off a r := h.split.1
theorem Nd_tl {a : Addr} {o : Obj} {r : List (Addr × Obj)} (h : Nd ((a, o) :: r)) : Nd r := h.split.2
theorem News_hd {h₀ h : Heap} {L a : Addr} {o : Obj} {r : List (Addr × Obj)} (N : News h₀ L h ((a, o) :: r)) : Has1 h₀ L h a o := ⟨N (a, o) (.head _)⟩
theorem News_tl {h₀ h : Heap} {L a : Addr} {o : Obj} {r : List (Addr × Obj)} (N : News h₀ L h ((a, o) :: r)) : News h₀ L h r := fun p hp => N p (.tail _ hp)
theorem Nd.join {a : Addr} {o : Obj} {r : List (Addr × Obj)} (h : Off a r) (hr : Nd r) : Nd ((a, o) :: r) :=
  ⟨List.nodup_cons.mpr ⟨fun hm => by
    obtain ⟨p, hp, e⟩ := List.mem_map.mp hm
    exact h.off p hp e, hr.nd⟩⟩
theorem Off.of_lt {a : Addr} {r : List (Addr × Obj)} (h : ∀ p ∈ r, p.1 < a) : Off a r := ⟨fun p hp => Nat.ne_of_lt (h p hp)⟩
/-- what a body leaves behind -/
def LeaveN (g : Heap) (L' : Addr) (h₀ : Heap) (L : Addr) (m : PySem.Str → Option Value) (Q : Value → Shared → Prop) (v : Value) (s' : Shared) : Prop :=
  ∃ m' news', Fr g L' s'.heap m' ∧ News g L' s'.heap news' ∧ (Fr h₀ L s'.heap m → News h₀ L s'.heap news' → Q v s')
theorem LeaveN.mk {g h₀ : Heap} {L' L : Addr} {m m' : PySem.Str → Option Value} {news' : List (Addr × Obj)} {Q : Value → Shared → Prop} {v : Value} {s' : Shared} (F : Fr g L' s'.heap m') (N : News g L' s'.heap news')
    (k : Fr h₀ L s'.heap m → News h₀ L s'.heap news' → Q v s') : LeaveN g L' h₀ L m Q v s' := ⟨m', news', F, N, k⟩
section
variable {w : World} {A : Around} {s : Shared} {h₀ : Heap} {L : Addr} {m : PySem.Str → Option Value} {news : List (Addr × Obj)} {n : Nat}
  {name qual : PySem.Str} {params : Arguments} {body : List Stmt} {scope : Scope} {dV kV doc pm cdv ct oc : Value} {an od : Option Addr} {osl : Array (Option Value)} {f : Addr} {args : Args} {binds : List (PySem.Str × Value)}
theorem enterB {E : Value → Shared → Prop} {Q : Value → Shared → Prop} (S : Site w A h₀ L (n + 1)) (F : Fr h₀ L s.heap m) (N : News h₀ L s.heap news)
    (ho : (hd.heap_1 w.params).lookup f = some ⟨oc, od, .func (fnOf name qual params body scope dV kV doc pm an cdv ct), osl⟩) (hcd : codeIn (hd.heap_1 w.params) cdv qual = true)
    (hbind : BindsTo s (fnOf name qual params body scope dV kV doc pm an cdv ct) args binds) (hloc : ∀ y ∈ binds, scope.names.lookup y.1 = some .local)
    (h : ∀ g L' h₁, Fr g L' h₁ (fun y => binds.reverse.lookup y) → News g L' h₁ news → Site w (A.deeper (envOf qual scope L' f cdv)) g L' n → (∀ p ∈ news, p.1 < L') →
      wpAny (model PySem.Challenge.rw_jr0034_01.row.prog w) (A.deeper (envOf qual scope L' f cdv)) (execs body (envOf qual scope L' f cdv))
        (fun fl s' => LeaveN g L' h₀ L m Q (match fl with | .ret v => v | _ => .none) s') noE
        { s with heap := h₁, toks := s.toks + binds.length })
    (hco : scope.isCoroutine = false) (hgen : scope.isGenerator = false) (hk : scope.kind = .function)
    (hcell : ∀ x ∈ scope.names, x.2 ≠ .cell) : codeAny (model PySem.Challenge.rw_jr0034_01.row.prog w) A (.call (.ref f) args) (fun r s' => match r with | .ok (.ret v) => Q v s' | .ok _ => False | .error e => E e s') s :=
  enterA S F N ho hcd hbind hloc h hco hgen hk hcell
end
end
/- part C5 -/
local macro_rules | `(tactic| walk_at "my size") => `(tactic| first | assumption | decide | (first | lia | omega) | (simp only [List.size_toArray, List.length_append, List.length_cons, List.length_nil, leB_length]; (first | lia | omega)))
local macro_rules | `(tactic| walk_at "call builtin:int.to_bytes") => `(tactic| (k_here; k_dflt (first | refine' to_le4 ?k0 ?k1 ?_ | refine' to_le8 ?k0 ?k1 ?_); (case k0 => walk_at "my size"); (case k1 => walk_at "my size"); intro _ _))
local macro_rules | `(tactic| walk_at "binaryOp Add bytes bytes") => `(tactic| (k_here; k_dflt (refine' add_l ?k0 ?_; (case k0 => walk_at "my size")); intro _ _))
local macro_rules | `(tactic| walk_at "call ref") => `(tactic| (k_here; (with_reducible show wpAny _ _ (call (Value.ref _) [Value.bytes _ _, Value.str _ _]) _ _ _); k_dflt (refine' from_le ?k0 ?k1 ?k2 ?_; (case k0 => k_asm); (case k1 => k_mem); (case k2 => walk_at "my size")); intro _ _))
local macro_rules | `(tactic| walk_at "subscriptTail") => `(tactic| (k_here; (with_reducible show wpAny _ _ (subscriptTail _ (PySem.Expr.Slice _ _ none _) (Value.bytes _ _) (Value.ref _)) _ _ _); (with_reducible rename Fr _ _ _ _ => F'); (with_reducible rename News _ _ _ _ => N'); (refine' slice_l (s := ⟨_, _, _, _, _⟩) F' N' ?k1 ?k2 ?k3 ?_; (case k1 => constructor); (case k2 => constructor); (case k3 => walk_at "my size")); intro _ _ _ _ _))
def headL : List UInt8 := [80, 89, 83, 89, 78, 67, 79, 66, 74, 0, 0, 0, 0, 0, 0, 0, 0, 0, 0, 0, 0, 0, 0, 0, 48, 46, 51, 46, 49, 55, 0, 0, 1, 0, 0, 0] ++ leB 4 40
section
variable {w : World} {A : Around} {s : Shared} {h₀ : Heap} {L : Addr} {m : PySem.Str → Option Value} {news : List (Addr × Obj)} {n : Nat}
set_option pp.deepTerms false in
set_option pp.maxSteps 4000 in
theorem header_A {fj : Addr} {E : Value → Shared → Prop} {Q : Value → Shared → Prop} (S : Site w A h₀ L (n + 1)) (F : Fr h₀ L s.heap m) (N : News h₀ L s.heap news)
    (h : ∀ h' tk tv, Fr h₀ L h' m → News h₀ L h' news → Q (.bytes headL.toArray tv) { s with heap := h', toks := tk }) :
    wpAny (model PySem.Challenge.rw_jr0034_01.row.prog w) A (call (.ref 349) [.ref fj]) Q E s := by
  refine' wpAny_call (enterB (E := E) (binds := [(PySem.Str.ofString "self", .ref fj)]) S F N ?ho ?hcd ?hb ?hl ?_ ?c1 ?c2 ?c3 ?c4)
  case ho => k_is
  case hcd => k_is
  case hb => exact BindsTo.of_eq rfl
  case hl => exact locs rfl
  case c1 => exact rfl
  case c2 => exact rfl
  case c3 => exact rfl
  case c4 => decide
  intro g L' h₁ F' N' S' l
  refine Site.use S' fun A₀ base outer env mean mg mb B hA hf hke X T room units calm => ?_
  walk_at "my steps"
  rename Fr g _ _ _ => F1
  rename News g _ _ _ => N1
  refine LeaveN.mk F1 N1 fun F2 N2 => ?_
  exact h _ _ _ F2 N2
end
/- part C6 -/
local macro_rules | `(tactic| walk_at "my size") => `(tactic| first | assumption | decide | (first | lia | omega) | (simp only [List.size_toArray, List.length_append, List.length_cons, List.length_nil, leB_length, List.length_take, List.length_drop, Int.reduceToNat]; (first | lia | omega)))
local macro_rules | `(tactic| walk_at "my perm") => `(tactic| (rename News _ _ _ _ => N'; repeat (have q' := News_split N'; obtain ⟨_, N'⟩ := q'); repeat' (first | assumption | exact News_nil | refine News_join ?_ ?_)))
local macro_rules | `(tactic| walk_at "my perm") => `(tactic| ((rename News _ _ _ _ => N'); (repeat ((have q' := News_hd N'); (replace N' := News_tl N'))); (repeat' (first | with_reducible assumption | exact News_nil | with_reducible refine News_join ?_ ?_)); done))
section
variable {w : World} {A : Around} {s : Shared} {h₀ : Heap} {L : Addr} {m : PySem.Str → Option Value} {rest : List (Addr × Obj)} {n : Nat}
theorem read_L {rf drf mm : Addr} {t1 t2 t3 t u : Tok} {b : Array UInt8} {k z : Int} {E : Value → Shared → Prop} {Q : Value → Shared → Prop} (S : Site w A h₀ L (n + 1)) (F : Fr h₀ L s.heap m)
    (N : News h₀ L s.heap ((rf, instObj 282 drf) :: (drf, rfDict w t1 t2 t3 mm) :: (mm, baObj b) :: rest))
    (h0 : 0 ≤ k) (hz : 0 ≤ z) (hb : b.size ≤ 4000000)
    (h : ∀ h' tk tv, Fr h₀ L h' m → News h₀ L h' ((rf, instObj 282 drf) :: (drf, rfDict w t1 t2 t3 mm) :: (mm, baObj b) :: rest) → Q (.bytes ((b.toList.drop k.toNat).take z.toNat).toArray tv) { s with heap := h', toks := tk }) :
    wpAny (model PySem.Challenge.rw_jr0034_01.row.prog w) A (call (.ref 272) [.ref rf, .int k t, .int z u]) Q E s :=
  read_A S F N h0 hz hb fun h' tk v tv e F1 N1 => by
    have : v = ((b.toList.drop k.toNat).take z.toNat).toArray := by rw [← e, Array.toArray_toList]
    rw [this]
    exact h _ _ _ F1 N1
theorem read_N {news : List (Addr × Obj)} {rf drf mm : Addr} {t1 t2 t3 t u : Tok} {b : Array UInt8} {k z : Int} {E : Value → Shared → Prop} {Q : Value → Shared → Prop} (S : Site w A h₀ L (n + 1)) (F : Fr h₀ L s.heap m) (N : News h₀ L s.heap news)
    (m1 : (rf, instObj 282 drf) ∈ news) (m2 : (drf, rfDict w t1 t2 t3 mm) ∈ news) (m3 : (mm, baObj b) ∈ news)
    (h0 : 0 ≤ k) (hz : 0 ≤ z) (hb : b.size ≤ 4000000)
    (h : ∀ h' tk tv, Fr h₀ L h' m → News h₀ L h' news → Q (.bytes ((b.toList.drop k.toNat).take z.toNat).toArray tv) { s with heap := h', toks := tk }) :
    wpAny (model PySem.Challenge.rw_jr0034_01.row.prog w) A (call (.ref 272) [.ref rf, .int k t, .int z u]) Q E s :=
  read_L (rest := news) S F (News_join ⟨N _ m1⟩ (News_join ⟨N _ m2⟩ (News_join ⟨N _ m3⟩ N))) h0 hz hb fun h' tk tv F1 N1 => h h' tk tv F1 fun p hp => N1 p (.tail _ (.tail _ (.tail _ hp)))
theorem write_L {rf drf mm : Addr} {t1 t2 t3 t u : Tok} {b : Array UInt8} {v : List UInt8} {k : Int} {Q : Value → Shared → Prop} (S : Site w A h₀ L (n + 2)) (F : Fr h₀ L s.heap m)
    (N : News h₀ L s.heap ((rf, instObj 282 drf) :: (drf, rfDict w t1 t2 t3 mm) :: (mm, baObj b) :: rest))
    (d1 : Apart rf mm) (d2 : Apart drf mm) (d3 : Off mm rest) (h0 : 0 ≤ k) (hk : k ≤ b.size) (hb : b.size ≤ 1000000) (hv : v.length ≤ 1000000)
    (h : ∀ h' tk b', b'.toList = putL8 (grownL b.toList (k.toNat + v.length)) k.toNat v → Fr h₀ L h' m → News h₀ L h' ((rf, instObj 282 drf) :: (drf, rfDict w t1 t2 t3 mm) :: (mm, baObj b') :: rest) → Q .none { s with heap := h', toks := tk }) :
    wpS (model PySem.Challenge.rw_jr0034_01.row.prog w) A (call (.ref 265) [.ref rf, .int k t, .bytes v.toArray u]) Q s :=
  write_S S F N d1 d2 d3 h0 hk hb hv h
abbrev ent (w : World) (k : String) (t : Tok) (v : Value) : DictEntry := ⟨PyData.keyHash w.params (PySem.Str.ofString k), .str (PySem.Str.ofString k) t, v⟩
abbrev fj5 (w : World) (k1 k2 k3 k4 k5 : Tok) (rf lj ms md : Addr) : Obj := dictOf [ent w "_FileJournal__journalFile" k1 (.ref rf), ent w "_FileJournal__journal" k2 (.ref lj), ent w "_FileJournal__metaStorer" k3 (.ref ms), ent w "_FileJournal__meta" k4 (.ref md), ent w "_FileJournal__metaSaved" k5 (.bool true)] 5
abbrev fj6 (w : World) (k1 k2 k3 k4 k5 k6 : Tok) (rf lj ms md : Addr) (cur : Int) (tc : Tok) : Obj := dictOf [ent w "_FileJournal__journalFile" k1 (.ref rf), ent w "_FileJournal__journal" k2 (.ref lj), ent w "_FileJournal__metaStorer" k3 (.ref ms), ent w "_FileJournal__meta" k4 (.ref md), ent w "_FileJournal__metaSaved" k5 (.bool true), ent w "_FileJournal__currentOffset" k6 (.int cur tc)] 6
set_option pp.deepTerms false in
set_option pp.maxSteps 4000 in
theorem getLast_A {fj dfj rf drf mm : Addr} {t1 t2 t3 k1 : Tok} {k2 k3 k4 k5 : Tok} {lj ms md : Addr} {b : Array UInt8} {E : Value → Shared → Prop} {Q : Value → Shared → Prop} (S : Site w A h₀ L (n + 2)) (F : Fr h₀ L s.heap m)
    (N : News h₀ L s.heap ((fj, instObj 464 dfj) :: (dfj, fj5 w k1 k2 k3 k4 k5 rf lj ms md) :: (rf, instObj 282 drf) :: (drf, rfDict w t1 t2 t3 mm) :: (mm, baObj b) :: rest))
    (hb : b.size ≤ 4000000)
    (h : ∀ h' tk tv, Fr h₀ L h' m → News h₀ L h' ((fj, instObj 464 dfj) :: (dfj, fj5 w k1 k2 k3 k4 k5 rf lj ms md) :: (rf, instObj 282 drf) :: (drf, rfDict w t1 t2 t3 mm) :: (mm, baObj b) :: rest) → Q (.int (leN ((b.toList.drop 36).take 4)) tv) { s with heap := h', toks := tk }) :
    wpAny (model PySem.Challenge.rw_jr0034_01.row.prog w) A (call (.ref 356) [.ref fj]) Q E s := by
  refine' wpAny_call (enterB (E := E) (binds := [(PySem.Str.ofString "self", .ref fj)]) S F N ?ho ?hcd ?hb ?hl ?_ ?c1 ?c2 ?c3 ?c4)
  case ho => k_is
  case hcd => k_is
  case hb => exact BindsTo.of_eq rfl
  case hl => exact locs rfl
  case c1 => exact rfl
  case c2 => exact rfl
  case c3 => exact rfl
  case c4 => decide
  intro g L' h₁ F' N' S' l
  refine Site.use S' fun A₀ base outer env mean mg mb B hA hf hke X T room units calm => ?_
  walk_at "my steps"
  rename Fr g _ _ _ => F1
  rename News g _ _ _ => N1
  refine' read_N S' F1 N1 ?m1 ?m2 ?m3 (by decide) (by decide) hb ?_
  case m1 => k_mem
  case m2 => k_mem
  case m3 => k_mem
  intro h2 tk2 tv2 F2 N2
  walk_at "my steps"
  rename Fr g _ _ _ => F3
  rename News g _ _ _ => N3
  refine LeaveN.mk F3 N3 fun F4 N4 => ?_
  exact h _ _ _ F4 (fun p hp => N4 p (.tail _ hp))
end
/- part C7 -/
local macro_rules | `(tactic| walk_at "call ref") => `(tactic| (k_here; (with_reducible show wpAny _ _ (call (Value.ref 272) [Value.ref _, Value.int _ _, Value.int _ _]) _ _ _); (with_reducible rename Site _ _ _ _ _ => S9); k_dflt (refine' read_N (n := 0) (S9.less ?k0) ?k1 ?k2 ?k3 ?k4 ?k5 ?k6 ?k7 ?k8 ?_; (case k0 => walk_at "my less"); (case k1 => k_asm); (case k2 => k_asm); (case k3 => k_mem); (case k4 => k_mem); (case k5 => k_mem); (case k6 => walk_at "my size"); (case k7 => walk_at "my size"); (case k8 => walk_at "my size")); intro _ _ _ _ _))
section
variable {w : World} {A : Around} {s : Shared} {h₀ : Heap} {L : Addr} {m : PySem.Str → Option Value} {rest : List (Addr × Obj)} {n : Nat}
set_option pp.deepTerms false in
set_option pp.maxSteps 4000 in
theorem setLast_S {fj dfj rf drf mm lj ms md : Addr} {t1 t2 t3 k1 k2 k3 k4 k5 k6 tc t : Tok} {b : Array UInt8} {cur o : Int} {Q : Value → Shared → Prop} (S : Site w A h₀ L (n + 3)) (F : Fr h₀ L s.heap m)
    (N : News h₀ L s.heap ((fj, instObj 464 dfj) :: (dfj, fj6 w k1 k2 k3 k4 k5 k6 rf lj ms md cur tc) :: (rf, instObj 282 drf) :: (drf, rfDict w t1 t2 t3 mm) :: (mm, baObj b) :: rest))
    (d1 : Apart rf mm) (d2 : Apart drf mm) (d3 : Off mm rest) (d4 : Apart fj mm) (d5 : Apart dfj mm) (hb : 1024 ≤ b.size) (hb2 : b.size ≤ 1000000) (ho : 0 ≤ o) (ho2 : o ≤ 1000000)
    (h : ∀ h' tk b', b'.toList = putL8 b.toList 36 (leB 4 o.toNat) → Fr h₀ L h' m → News h₀ L h' ((fj, instObj 464 dfj) :: (dfj, fj6 w k1 k2 k3 k4 k5 k6 rf lj ms md cur tc) :: (rf, instObj 282 drf) :: (drf, rfDict w t1 t2 t3 mm) :: (mm, baObj b') :: rest) → Q .none { s with heap := h', toks := tk }) :
    wpS (model PySem.Challenge.rw_jr0034_01.row.prog w) A (call (.ref 363) [.ref fj, .int o t]) Q s := by
  refine' wpS_call (enterS (binds := [(PySem.Str.ofString "self", .ref fj), (PySem.Str.ofString "offset", .int o t)]) S F N ?ho ?hcd ?hb ?hl ?_ ?c1 ?c2 ?c3 ?c4)
  case ho => k_is
  case hcd => k_is
  case hb => exact BindsTo.of_eq rfl
  case hl => exact locs rfl
  case c1 => exact rfl
  case c2 => exact rfl
  case c3 => exact rfl
  case c4 => decide
  intro g L' h₁ F' N' S' l
  refine Site.use S' fun A₀ base outer env mean mg mb B hA hf hke X T room units calm => ?_
  refine wpS_abs fun Q9 hQ9 => ?_
  refine S_cons (S_Expr (S_method ?_))
  walk_at "my steps"
  refine S_callWith (K := hd.heap_1 w.params) ?kp (wpS_of ?_)
  case kp => k_is
  walk_at "my steps"
  rename Fr g _ _ _ => F4
  rename News g _ _ _ => N4
  have off : Off mm ((fj, instObj 464 dfj) :: (dfj, fj6 w k1 k2 k3 k4 k5 k6 rf lj ms md cur tc) :: rest) := off_cons d4 (off_cons d5 d3)
  refine' write_L (t1 := t1) (t2 := t2) (t3 := t3) (rf := rf) (drf := drf) (mm := mm) (b := b) (rest := (fj, instObj 464 dfj) :: (dfj, fj6 w k1 k2 k3 k4 k5 k6 rf lj ms md cur tc) :: rest) S' F4 ?perm d1 d2 off (by decide) (by (first | lia | omega)) hb2 (by rw [leB_length]; decide) ?_
  case perm => walk_at "my perm"
  intro h5 tk5 b' e F5 N5
  refine S_nil (hQ9 _ _ ⟨_, _, F5, N5, fun F6 N6 => h _ _ b' ?_ F6 ?_⟩)
  rotate_left
  · walk_at "my perm"
  rw [e, leB_length]
  unfold grownL
  rw [if_pos (by rw [Array.length_toList]; show (36 : Nat) + 4 ≤ _; (first | lia | omega))]
  rfl
end
/- part B2 -/
section
section
variable {prog : Program} {w : World} {A : Around} {E : Value → Shared → Prop} {s : Shared} {h₀ : Heap} {L : Addr} {m : PySem.Str → Option Value} {news : List (Addr × Obj)} {Q : Value → Shared → Prop}
theorem len_l {x : List UInt8} {t : Tok} (hz : x.length ≤ 16777216) (h : ∀ t' k, Q (.int x.length t') { s with toks := k }) : wpAny (model prog w) A (call (.builtin "len") [.bytes x.toArray t]) Q E s :=
  len_bytes (by show x.length ≤ _; (first | lia | omega)) (h _ _)
end
theorem apart_of_lt {a b : Nat} (h : a < b) : Apart a b := ⟨Nat.ne_of_lt h⟩
theorem lt_split {a b : Nat} {P : Prop} (h : a < b ∧ P) : Apart a b ∧ P := ⟨⟨Nat.ne_of_lt h.1⟩, h.2⟩
theorem pick_to (its : Array Value) {k : Int} (h : 0 ≤ k) : slicePick its none (some k) none = (its.toList.take k.toNat).toArray := by
  have e : sliceBounds none (some k) none its.size = (((0 : Nat) : Int), ((min k.toNat its.size : Nat) : Int), 1) := by
    simp only [sliceBounds, Option.getD_none, show (1 : Int) > 0 by decide, if_true, if_neg (show ¬ (k < 0) by (first | lia | omega))]
    congr 1
    congr 1
    (first | lia | omega)
  rw [kmk_pick_nat _ e, List.drop_zero, Nat.sub_zero, ← Array.length_toList, kmk_take_min]
theorem pick_from (its : Array Value) {k : Int} (h : 0 ≤ k) : slicePick its (some k) none none = (its.toList.drop k.toNat).toArray := by
  have e : sliceBounds (some k) none none its.size = (((min k.toNat its.size : Nat) : Int), ((its.size : Nat) : Int), 1) := by
    simp only [sliceBounds, Option.getD_none, show (1 : Int) > 0 by decide, if_true, if_neg (show ¬ (k < 0) by (first | lia | omega))]
    congr 1
    (first | lia | omega)
  rw [kmk_pick_nat _ e, ← Array.length_toList, kmk_drop_min, List.take_of_length_le (by rw [List.length_drop]; (first | lia | omega))]
section
variable {prog : Program} {w : World} {A : Around} {E : Value → Shared → Prop} {s : Shared} {h₀ : Heap} {L l : Addr} {m : PySem.Str → Option Value} {news : List (Addr × Obj)} {value slice : PySem.Expr} {its : Array Value} {vl vu : Value} {k : Int} {tk : Tok} {n : Nat} {Q : Value → Shared → Prop}
theorem slice_to (F : Fr h₀ L s.heap m) (N : News h₀ L s.heap news) (hm : (l, listOf its n) ∈ news) (h0 : 0 ≤ k) (hz : its.size ≤ 100000)
    (h : ∀ D h', Fr h₀ L h' m → News h₀ L h' ((D, listOf (its.toList.take k.toNat).toArray 0) :: news) → (∀ p ∈ news, p.1 < D) → Q (.ref D) { s with heap := h' })
    (hs : subscripted slice false (.ref l) (.ref s.heap.objs.size) = operate [.ref s.heap.objs.size, .ref l] (getItem (.ref l) (.ref s.heap.objs.size)) := by with_unfolding_all rfl) (ht : ∀ r, letTemporaryGo value (.ref l) r = pure () := by intro _; with_unfolding_all rfl) :
    wpAny (model prog w) A (subscriptTail value slice (.ref l) (.ref s.heap.objs.size)) Q E { s with heap := s.heap.push { cls := .type "slice", data := .fields #[.none, .int k tk, .none] } } :=
  kmk_slice F N ⟨_, (N _ hm).1, rfl, _, rfl⟩ .none (.int k tk) (fun D h' F' N' l' => h D h' F' (by rw [← pick_to its h0]; exact N') l') hs ht (by rw [sizeLine_eq]; (first | lia | omega))
theorem slice_from (F : Fr h₀ L s.heap m) (N : News h₀ L s.heap news) (hm : (l, listOf its n) ∈ news) (h0 : 0 ≤ k) (hz : its.size ≤ 100000)
    (h : ∀ D h', Fr h₀ L h' m → News h₀ L h' ((D, listOf (its.toList.drop k.toNat).toArray 0) :: news) → (∀ p ∈ news, p.1 < D) → Q (.ref D) { s with heap := h' })
    (hs : subscripted slice false (.ref l) (.ref s.heap.objs.size) = operate [.ref s.heap.objs.size, .ref l] (getItem (.ref l) (.ref s.heap.objs.size)) := by with_unfolding_all rfl) (ht : ∀ r, letTemporaryGo value (.ref l) r = pure () := by intro _; with_unfolding_all rfl) :
    wpAny (model prog w) A (subscriptTail value slice (.ref l) (.ref s.heap.objs.size)) Q E { s with heap := s.heap.push { cls := .type "slice", data := .fields #[.int k tk, .none, .none] } } :=
  kmk_slice F N ⟨_, (N _ hm).1, rfl, _, rfl⟩ (.int k tk) .none (fun D h' F' N' l' => h D h' F' (by rw [← pick_from its h0]; exact N') l') hs ht (by rw [sizeLine_eq]; (first | lia | omega))
end
section
variable {prog : Program} {w : World} {A : Around} {E : Value → Shared → Prop} {s : Shared} {h₀ : Heap} {L l : Addr} {m : PySem.Str → Option Value} {news : List (Addr × Obj)} {its : Array Value} {n : Nat} {Q : Value → Shared → Prop}
theorem len_v (N : News h₀ L s.heap news) (hm : (l, listOf its n) ∈ news) (hz : its.size ≤ 16384) (h : ∀ t k, Q (.int its.size t) { s with toks := k }) : wpAny (model prog w) A (call (.builtin "len") [.ref l]) Q E s :=
  kun_lenL ⟨_, (N _ hm).1, rfl, _, rfl⟩ rfl (by (first | lia | omega)) (h _ _)
end
end
/- part C8 -/
local macro_rules | `(tactic| size_fits) => `(tactic| first | assumption | (rw [sizeLine_eq]; (first | lia | omega)))
local macro_rules | `(tactic| walk_at "call builtin:len") => `(tactic| (k_here; (with_reducible show wpAny _ _ (call (Value.builtin "len") [Value.bytes (List.toArray _) _]) _ _ _); k_dflt (refine' len_l ?k0 ?_; (case k0 => walk_at "my size")); intro _ _))
local macro_rules | `(tactic| walk_at "my off") => `(tactic| repeat' (first | assumption | (refine Apart.symm ?_; assumption) | refine off_cons ?_ ?_))
local macro_rules | `(tactic| walk_at "my nd") => `(tactic| (repeat (first | ((with_reducible rename Nd (_ :: _) => q'); (have q2 := Nd_hd q'); (have q3 := Nd_tl q'); clear q') | ((with_reducible rename Off _ (_ :: _) => q'); (have q2 := off_hd q'); (have q3 := off_tl q'); clear q'))))
theorem putL8_length {l v : List UInt8} {off : Nat} (h : off + v.length ≤ l.length) : (putL8 l off v).length = l.length := by
  unfold putL8
  rw [List.length_append, List.length_append, List.length_take, List.length_drop]
  (first | lia | omega)
theorem grownL_length (l : List UInt8) (k : Nat) : (grownL l k).length = if k ≤ l.length then l.length else max (2 * l.length) k := by
  unfold grownL
  split
  · rfl
  · rw [List.length_append, List.length_replicate]
    (first | lia | omega)
theorem grownL_ge (l : List UInt8) (k : Nat) : k ≤ (grownL l k).length := by
  rw [grownL_length]
  split <;> (first | lia | omega)
section
variable {w : World} {A : Around} {s : Shared} {h₀ : Heap} {L : Addr} {m : PySem.Str → Option Value} {rest : List (Addr × Obj)} {n : Nat}
set_option pp.deepTerms false in
set_option pp.maxSteps 4000 in
theorem add_S {fj dfj rf drf mm lj ms md : Addr} {t1 t2 t3 k1 k2 k3 k4 k5 k6 tc ta tb td : Tok} {b : Array UInt8} {c : List UInt8} {cur i tm : Int} {vals : Array Value} {nl : Nat} {Q : Value → Shared → Prop} (S : Site w A h₀ L (n + 4)) (F : Fr h₀ L s.heap m)
    (N : News h₀ L s.heap ((fj, instObj 464 dfj) :: (dfj, fj6 w k1 k2 k3 k4 k5 k6 rf lj ms md cur tc) :: (rf, instObj 282 drf) :: (drf, rfDict w t1 t2 t3 mm) :: (mm, baObj b) :: (lj, listOf vals nl) :: rest))
    (nd : Nd ((fj, instObj 464 dfj) :: (dfj, fj6 w k1 k2 k3 k4 k5 k6 rf lj ms md cur tc) :: (rf, instObj 282 drf) :: (drf, rfDict w t1 t2 t3 mm) :: (mm, baObj b) :: (lj, listOf vals nl) :: rest))
    (hb : 1024 ≤ b.size) (hb2 : b.size ≤ 400000) (hc : c.length ≤ 2000) (hcur : 0 ≤ cur) (hcur2 : cur ≤ b.size) (hi : 0 ≤ i) (hi2 : i < 1152921504606846976) (ht : 0 ≤ tm) (ht2 : tm < 1152921504606846976) (hv : vals.size ≤ 1000)
    (h : ∀ h' tk b' x tc' ta' tb' td', b'.toList = putL8 (putL8 (grownL b.toList (cur.toNat + (24 + c.length))) cur.toNat (leB 4 (16 + c.length) ++ leB 8 i.toNat ++ leB 8 tm.toNat ++ c ++ leB 4 (16 + c.length))) 36 (leB 4 (cur.toNat + (24 + c.length))) → Fr h₀ L h' m →
      News h₀ L h' ((x, { cls := .type "tuple", data := .seq #[.bytes c.toArray ta', .int i tb', .int tm td'] 0 }) :: (fj, instObj 464 dfj) :: (dfj, fj6 w k1 k2 k3 k4 k5 k6 rf lj ms md (cur + (24 + c.length)) tc') :: (rf, instObj 282 drf) :: (drf, rfDict w t1 t2 t3 mm) :: (mm, baObj b') :: (lj, listOf (vals.push (.ref x)) (nl + 1)) :: rest) →
      Off x ((fj, instObj 464 dfj) :: (dfj, fj6 w k1 k2 k3 k4 k5 k6 rf lj ms md cur tc) :: (rf, instObj 282 drf) :: (drf, rfDict w t1 t2 t3 mm) :: (mm, baObj b) :: (lj, listOf vals nl) :: rest) → Q .none { s with heap := h', toks := tk }) :
    wpS (model PySem.Challenge.rw_jr0034_01.row.prog w) A (call (.ref 370) [.ref fj, .bytes c.toArray ta, .int i tb, .int tm td]) Q s := by
  refine' wpS_call (enterS (binds := [(PySem.Str.ofString "self", .ref fj), (PySem.Str.ofString "command", .bytes c.toArray ta), (PySem.Str.ofString "idx", .int i tb), (PySem.Str.ofString "term", .int tm td)]) S F N ?ho ?hcd ?hb ?hl ?_ ?c1 ?c2 ?c3 ?c4)
  case ho => k_is
  case hcd => k_is
  case hb => exact BindsTo.of_eq rfl
  case hl => exact locs rfl
  case c1 => exact rfl
  case c2 => exact rfl
  case c3 => exact rfl
  case c4 => decide
  intro g L' h₁ F' N' S' l
  refine Site.use S' fun A₀ base outer env mean mg mb B hA hf hke X T room units calm => ?_
  refine wpS_abs fun Q9 hQ9 => ?_
  have nd0 := nd
  walk_at "my nd"
  refine S_clean ?_
  walk_at "my steps"
  rename_i x hx1 l1 hx2 F2 N2
  refine S_clean ?_
  walk_at "my steps"
  refine S_clean ?_
  walk_at "my steps"
  refine S_clean ?_
  walk_at "my steps"
  refine S_cons (S_Expr (S_method ?_))
  walk_at "my steps"
  refine S_callWith (K := hd.heap_1 w.params) ?kp (wpS_of ?_)
  case kp => k_is
  walk_at "my steps"
  rename Fr g _ _ _ => F4
  rename News g _ _ _ => N4
  generalize hV : (leB 4 (Int.toNat ↑(leB 8 i.toNat ++ leB 8 tm.toNat ++ c).length) ++ (leB 8 i.toNat ++ leB 8 tm.toNat ++ c) ++ leB 4 (Int.toNat ↑(leB 8 i.toNat ++ leB 8 tm.toNat ++ c).length)) = V at F4 ⊢
  have hV' : V = leB 4 (16 + c.length) ++ leB 8 i.toNat ++ leB 8 tm.toNat ++ c ++ leB 4 (16 + c.length) := by
    rw [← hV]
    simp only [List.length_append, leB_length, Int.toNat_natCast, List.append_assoc]
    rw [show 8 + (8 + c.length) = 16 + c.length by (first | lia | omega)]
  have hVl : V.length = 24 + c.length := by
    rw [hV']
    simp only [List.length_append, leB_length]
    (first | lia | omega)
  have x1 : Apart fj x := ⟨Nat.ne_of_lt l1.1⟩
  have x2 : Apart dfj x := ⟨Nat.ne_of_lt l1.2.1⟩
  have x3 : Apart rf x := ⟨Nat.ne_of_lt l1.2.2.1⟩
  have x4 : Apart drf x := ⟨Nat.ne_of_lt l1.2.2.2.1⟩
  have x5 : Apart mm x := ⟨Nat.ne_of_lt l1.2.2.2.2.1⟩
  have x6 : Apart lj x := ⟨Nat.ne_of_lt l1.2.2.2.2.2.1⟩
  have x7 : Off x rest := off_of_allLt l1.2.2.2.2.2.2
  clear l1
  refine' write_L (t1 := t1) (t2 := t2) (t3 := t3) (rf := rf) (drf := drf) (mm := mm) (b := b) (rest := (x, { cls := Value.type "tuple", data := Data.seq #[Value.bytes c.toArray ta, Value.int i tb, Value.int tm td] }) :: (fj, instObj 464 dfj) :: (dfj, fj6 w k1 k2 k3 k4 k5 k6 rf lj ms md cur tc) :: (lj, listOf (vals.push (.ref x)) (nl + 1)) :: rest) S' F4 ?perm ?a1 ?a2 ?a3 hcur hcur2 (by (first | lia | omega)) (by (first | lia | omega)) ?_
  case perm => walk_at "my perm"
  case a1 => walk_at "my off"
  case a2 => walk_at "my off"
  case a3 => walk_at "my off"
  intro h5 tk5 b1 e1 F5 N5
  clear F4 N4
  refine S_clean ?_
  walk_at "my steps"
  refine S_cons (S_Expr (S_method ?_))
  walk_at "my steps"
  refine S_callWith (K := hd.heap_1 w.params) ?kp (wpS_of ?_)
  case kp => k_is
  walk_at "my steps"
  rename Fr g _ _ _ => F6
  rename News g _ _ _ => N6
  have hz1 : b1.size = (grownL b.toList (cur.toNat + V.length)).length := by
    rw [← Array.length_toList, e1, putL8_length]
    have := grownL_ge b.toList (cur.toNat + V.length)
    (first | lia | omega)
  have hz2 := grownL_length b.toList (cur.toNat + V.length)
  rw [show b.toList.length = b.size from Array.length_toList] at hz2
  have hz3 : 1024 ≤ b1.size ∧ b1.size ≤ 1000000 := by
    split at hz2 <;> (first | lia | omega)
  refine' setLast_S (t1 := t1) (t2 := t2) (t3 := t3) (rf := rf) (drf := drf) (mm := mm) (b := b1) (fj := fj) (dfj := dfj) (lj := lj) (ms := ms) (md := md) (k1 := k1) (k2 := k2) (k3 := k3) (k4 := k4) (k5 := k5) (k6 := k6) (cur := cur + V.length) (rest := (x, { cls := Value.type "tuple", data := Data.seq #[Value.bytes c.toArray ta, Value.int i tb, Value.int tm td] }) :: (lj, listOf (vals.push (.ref x)) (nl + 1)) :: rest) S' F6 ?perm ?a1 ?a2 ?a3 ?a4 ?a5 ?b1 ?b2 ?b3 ?b4 ?_
  case b1 => (first | lia | omega)
  case b2 => (first | lia | omega)
  case b3 => (first | lia | omega)
  case b4 => (first | lia | omega)
  case perm => walk_at "my perm"
  case a1 => walk_at "my off"
  case a2 => walk_at "my off"
  case a3 => walk_at "my off"
  case a4 => walk_at "my off"
  case a5 => walk_at "my off"
  intro h7 tk7 b2 e2 F7 N7
  clear F6 N6
  refine S_nil (hQ9 _ _ ⟨_, _, F7, N7, fun F8 N8 => ?_⟩)
  have eV : (V.length : Int) = 24 + c.length := by (first | lia | omega)
  rw [eV] at N8
  have ec : (cur + (V.length : Int)).toNat = cur.toNat + (24 + c.length) := by (first | lia | omega)
  refine' h _ _ b2 x _ ta tb td ?q1 F8 ?q2 ?q3
  case q2 => walk_at "my perm"
  case q1 => rw [e2, e1, ec, hVl, hV']
  case q3 => walk_at "my off"
end
/- part C9 -/
local macro_rules | `(tactic| walk_at "my lt") => `(tactic| ((repeat ((with_reducible rename _ < _ ∧ _ => q'); have q2 := (lt_split q').1; have q3 := (lt_split q').2; clear q')); (repeat ((with_reducible rename AllLt _ (_ :: _) => q'); have q2 := allLt_hd q'; have q3 := allLt_tl q'; clear q')); (repeat ((with_reducible rename AllLt _ _ => q'); have q2 := off_of_allLt q'; clear q'))))
section
variable {w : World} {A : Around} {s : Shared} {h₀ : Heap} {L : Addr} {m : PySem.Str → Option Value} {rest : List (Addr × Obj)} {n : Nat}
set_option pp.deepTerms false in
set_option pp.maxSteps 4000 in
theorem clear_S {fj dfj rf drf mm lj ms md : Addr} {t1 t2 t3 k1 k2 k3 k4 k5 k6 tc : Tok} {b : Array UInt8} {cur : Int} {vals : Array Value} {nl : Nat} {Q : Value → Shared → Prop} (S : Site w A h₀ L (n + 4)) (F : Fr h₀ L s.heap m)
    (N : News h₀ L s.heap ((fj, instObj 464 dfj) :: (dfj, fj6 w k1 k2 k3 k4 k5 k6 rf lj ms md cur tc) :: (rf, instObj 282 drf) :: (drf, rfDict w t1 t2 t3 mm) :: (mm, baObj b) :: (lj, listOf vals nl) :: rest))
    (nd : Nd ((fj, instObj 464 dfj) :: (dfj, fj6 w k1 k2 k3 k4 k5 k6 rf lj ms md cur tc) :: (rf, instObj 282 drf) :: (drf, rfDict w t1 t2 t3 mm) :: (mm, baObj b) :: (lj, listOf vals nl) :: rest)) (hb : 1024 ≤ b.size) (hb2 : b.size ≤ 400000)
    (h : ∀ h' tk b' x tc', b'.toList = putL8 b.toList 36 (leB 4 40) → Fr h₀ L h' m →
      News h₀ L h' ((x, listOf #[] 0) :: (fj, instObj 464 dfj) :: (dfj, fj6 w k1 k2 k3 k4 k5 k6 rf x ms md 40 tc') :: (rf, instObj 282 drf) :: (drf, rfDict w t1 t2 t3 mm) :: (mm, baObj b') :: (lj, listOf vals nl) :: rest) →
      Off x ((fj, instObj 464 dfj) :: (dfj, fj6 w k1 k2 k3 k4 k5 k6 rf lj ms md cur tc) :: (rf, instObj 282 drf) :: (drf, rfDict w t1 t2 t3 mm) :: (mm, baObj b) :: (lj, listOf vals nl) :: rest) → Q .none { s with heap := h', toks := tk }) :
    wpS (model PySem.Challenge.rw_jr0034_01.row.prog w) A (call (.ref 377) [.ref fj]) Q s := by
  refine' wpS_call (enterS (binds := [(PySem.Str.ofString "self", .ref fj)]) S F N ?ho ?hcd ?hb ?hl ?_ ?c1 ?c2 ?c3 ?c4)
  case ho => k_is
  case hcd => k_is
  case hb => exact BindsTo.of_eq rfl
  case hl => exact locs rfl
  case c1 => exact rfl
  case c2 => exact rfl
  case c3 => exact rfl
  case c4 => decide
  intro g L' h₁ F' N' S' l
  refine Site.use S' fun A₀ base outer env mean mg mb B hA hf hke X T room units calm => ?_
  refine wpS_abs fun Q9 hQ9 => ?_
  have nd0 := nd
  walk_at "my nd"
  refine S_clean ?_
  walk_at "my steps"
  rename_i x hx1 l1 hx2 F2 N2
  walk_at "my lt"
  refine S_cons (S_Expr (S_method ?_))
  walk_at "my steps"
  refine S_callWith (K := hd.heap_1 w.params) ?kp (wpS_of ?_)
  case kp => k_is
  walk_at "my steps"
  rename Fr g _ _ _ => F4
  rename News g _ _ _ => N4
  refine' setLast_S (tc := tc) (t1 := t1) (t2 := t2) (t3 := t3) (rf := rf) (drf := drf) (mm := mm) (b := b) (fj := fj) (dfj := dfj) (lj := x) (ms := ms) (md := md) (k1 := k1) (k2 := k2) (k3 := k3) (k4 := k4) (k5 := k5) (k6 := k6) (cur := cur) (rest := (x, listOf #[] 0) :: (lj, listOf vals nl) :: rest) S' F4 ?perm ?a1 ?a2 ?a3 ?a4 ?a5 ?b1 ?b2 ?b3 ?b4 ?_
  case b1 => (first | lia | omega)
  case b2 => (first | lia | omega)
  case b3 => (first | lia | omega)
  case b4 => (first | lia | omega)
  case perm => walk_at "my perm"
  case a1 => walk_at "my off"
  case a2 => walk_at "my off"
  case a3 => walk_at "my off"
  case a4 => walk_at "my off"
  case a5 => walk_at "my off"
  intro h7 tk7 b2 e2 F7 N7
  refine S_clean ?_
  walk_at "my steps"
  rename Fr g _ _ _ => F8
  rename News g _ _ _ => N8
  refine S_nil (hQ9 _ _ ⟨_, _, F8, N8, fun F9 N9 => ?_⟩)
  refine' h _ _ b2 x _ e2 F9 ?q2 ?q3
  case q2 => walk_at "my perm"
  case q3 => walk_at "my off"
end
/- part D1 -/
section
structure Rw where
  c : List UInt8
  i : Nat
  t : Nat
def recL (r : Rw) : List UInt8 := leB 4 (16 + r.c.length) ++ leB 8 r.i ++ leB 8 r.t ++ r.c ++ leB 4 (16 + r.c.length)
def told : List Rw → List UInt8
  | [] => []
  | r :: rs => recL r ++ told rs
def headP : List UInt8 := [80, 89, 83, 89, 78, 67, 79, 66, 74, 0, 0, 0, 0, 0, 0, 0, 0, 0, 0, 0, 0, 0, 0, 0, 48, 46, 51, 46, 49, 55, 0, 0, 1, 0, 0, 0]
def due (rs : List Rw) : List UInt8 := headP ++ leB 4 (40 + (told rs).length) ++ told rs
structure Due (l : List UInt8) (rs : List Rw) : Prop where
  ex : ∃ junk, l = due rs ++ junk
  big : 1024 ≤ l.length
  small : l.length ≤ 40000
/-- what the law holds its rows to -/
structure OkR (r : Rw) : Prop where
  c : r.c.length ≤ 1029
  i : r.i < 1152921504606846976
  t : r.t < 1152921504606846976
theorem recL_length (r : Rw) : (recL r).length = 24 + r.c.length := by
  unfold recL
  simp only [List.length_append, leB_length]
  (first | lia | omega)
theorem told_append (a b : List Rw) : told (a ++ b) = told a ++ told b := by
  induction a with
  | nil => rfl
  | cons r a ih => show recL r ++ told (a ++ b) = recL r ++ told a ++ told b; rw [ih, List.append_assoc]
theorem told_one (r : Rw) : told [r] = recL r := List.append_nil _
theorem told_length_le {rs : List Rw} (h : ∀ r ∈ rs, OkR r) : (told rs).length ≤ 1053 * rs.length := by
  induction rs with
  | nil => exact Nat.le_refl 0
  | cons r rs ih =>
    show (recL r ++ told rs).length ≤ _
    have h1 := (h r (.head _)).c
    have h2 := ih fun q hq => h q (.tail _ hq)
    rw [List.length_append, recL_length, List.length_cons]
    (first | lia | omega)
theorem headP_length : headP.length = 36 := rfl
theorem due_length (rs : List Rw) : (due rs).length = 40 + (told rs).length := by
  unfold due
  simp only [List.length_append, leB_length, headP_length]
theorem Due.le {l : List UInt8} {rs : List Rw} (h : Due l rs) : 40 + (told rs).length ≤ l.length := by
  obtain ⟨j, e⟩ := h.ex
  rw [e, List.length_append, due_length]
  (first | lia | omega)
theorem drop_of {a b : List UInt8} {n : Nat} (h : a.length = n) : (a ++ b).drop n = b := by
  rw [← h]; exact List.drop_left
theorem take_of {a b : List UInt8} {n : Nat} (h : a.length = n) : (a ++ b).take n = a := by
  rw [← h]; exact List.take_left
theorem put_mid {a b c v : List UInt8} {n : Nat} (h : a.length = n) (hb : b.length = v.length) : putL8 (a ++ b ++ c) n v = a ++ v ++ c := by
  have e1 : (a ++ b ++ c).take n = a := by
    rw [List.append_assoc]
    exact take_of h
  have e2 : (a ++ b ++ c).drop (n + v.length) = c := drop_of (by rw [List.length_append, h, hb])
  unfold putL8
  rw [e1, e2]
/-- the last place read -/
theorem Due.last {l : List UInt8} {rs : List Rw} (h : Due l rs) : (l.drop 36).take 4 = leB 4 (40 + (told rs).length) := by
  obtain ⟨j, e⟩ := h.ex
  rw [e]
  unfold due
  rw [List.append_assoc, List.append_assoc, drop_of headP_length, take_of (leB_length _ _)]
theorem Due.setLast {l : List UInt8} {rs : List Rw} {k : Nat} (h : Due l rs) : Due (putL8 l 36 (leB 4 (40 + (told (rs.take k)).length))) (rs.take k) := by
  obtain ⟨j, e⟩ := h.ex
  have hl : (putL8 l 36 (leB 4 (40 + (told (rs.take k)).length))).length = l.length := putL8_length (by rw [leB_length]; have := h.big; (first | lia | omega))
  refine ⟨⟨told (rs.drop k) ++ j, ?_⟩, by rw [hl]; exact h.big, by rw [hl]; exact h.small⟩
  rw [e]
  unfold due
  have et : told rs = told (rs.take k) ++ told (rs.drop k) := by rw [← told_append, List.take_append_drop]
  rw [List.append_assoc (headP ++ _), put_mid headP_length (by rw [leB_length, leB_length]), et]
  simp only [List.append_assoc]
theorem Due.clear {l : List UInt8} {rs : List Rw} (h : Due l rs) : Due (putL8 l 36 (leB 4 40)) [] := h.setLast (k := 0)
theorem Due.add {l : List UInt8} {rs : List Rw} {r : Rw} (h : Due l rs) (hr : 40 + (told rs).length + (24 + r.c.length) ≤ 20000) :
    Due (putL8 (putL8 (grownL l (40 + (told rs).length + (24 + r.c.length))) (40 + (told rs).length) (recL r)) 36 (leB 4 (40 + (told rs).length + (24 + r.c.length)))) (rs ++ [r]) := by
  obtain ⟨j, e⟩ := h.ex
  have hb := h.big
  have hs := h.small
  have g1 := grownL_ge l (40 + (told rs).length + (24 + r.c.length))
  have g2 := grownL_length l (40 + (told rs).length + (24 + r.c.length))
  have g3 : (putL8 (grownL l (40 + (told rs).length + (24 + r.c.length))) (40 + (told rs).length) (recL r)).length = (grownL l (40 + (told rs).length + (24 + r.c.length))).length := putL8_length (by rw [recL_length]; exact g1)
  have g4 : ∃ j', grownL l (40 + (told rs).length + (24 + r.c.length)) = due rs ++ j' := by
    unfold grownL
    split
    · exact ⟨j, e⟩
    · exact ⟨j ++ List.replicate (max (2 * l.length) (40 + (told rs).length + (24 + r.c.length)) - l.length) 0, by rw [e]; simp only [List.append_assoc]⟩
  obtain ⟨j', e'⟩ := g4
  have hj : 24 + r.c.length ≤ j'.length := by
    rw [e', List.length_append, due_length] at g1
    (first | lia | omega)
  have hl : (putL8 (putL8 (grownL l (40 + (told rs).length + (24 + r.c.length))) (40 + (told rs).length) (recL r)) 36 (leB 4 (40 + (told rs).length + (24 + r.c.length)))).length = (grownL l (40 + (told rs).length + (24 + r.c.length))).length := by
    rw [putL8_length (by rw [leB_length, g3]; (first | lia | omega)), g3]
  refine ⟨⟨j'.drop (24 + r.c.length), ?_⟩, ?_, ?_⟩
  · have e2 : due rs ++ j' = due rs ++ j'.take (24 + r.c.length) ++ j'.drop (24 + r.c.length) := by rw [List.append_assoc, List.take_append_drop]
    rw [e', e2, put_mid (due_length rs) (by rw [List.length_take, recL_length]; (first | lia | omega))]
    unfold due
    rw [List.append_assoc (headP ++ _), List.append_assoc (headP ++ _), put_mid headP_length (by rw [leB_length, leB_length]), told_append, told_one, List.length_append, recL_length]
    simp only [List.append_assoc, Nat.add_assoc]
  · rw [hl, g2]
    split <;> (first | lia | omega)
  · rw [hl, g2]
    split <;> (first | lia | omega)
/-- the size behind the last row -/
theorem Due.back {l : List UInt8} {rs : List Rw} {r : Rw} {q : List Rw} (h : Due l (rs ++ r :: q)) : (l.drop (40 + (told rs).length + (24 + r.c.length) - 4)).take 4 = leB 4 (16 + r.c.length) := by
  obtain ⟨j, e⟩ := h.ex
  have et : l = (headP ++ leB 4 (40 + (told (rs ++ r :: q)).length) ++ told rs ++ leB 4 (16 + r.c.length) ++ leB 8 r.i ++ leB 8 r.t ++ r.c) ++ (leB 4 (16 + r.c.length) ++ (told q ++ j)) := by
    rw [e]
    unfold due
    generalize leB 4 (40 + (told (rs ++ r :: q)).length) = z
    rw [told_append]
    show headP ++ z ++ (told rs ++ (recL r ++ told q)) ++ j = _
    unfold recL
    simp only [List.append_assoc]
  rw [et, drop_of (by simp only [List.length_append, leB_length, headP_length] <;> (first | lia | omega)), take_of (leB_length _ _)]
theorem Due.size {l : List UInt8} {rs : List Rw} {r : Rw} {q : List Rw} (h : Due l (rs ++ r :: q)) : (l.drop (40 + (told rs).length)).take 4 = leB 4 (16 + r.c.length) := by
  obtain ⟨j, e⟩ := h.ex
  have et : l = (headP ++ leB 4 (40 + (told (rs ++ r :: q)).length) ++ told rs) ++ (leB 4 (16 + r.c.length) ++ (leB 8 r.i ++ leB 8 r.t ++ r.c ++ leB 4 (16 + r.c.length) ++ told q ++ j)) := by
    rw [e]
    unfold due
    generalize leB 4 (40 + (told (rs ++ r :: q)).length) = z
    rw [told_append]
    show headP ++ z ++ (told rs ++ (recL r ++ told q)) ++ j = _
    unfold recL
    simp only [List.append_assoc]
  rw [et, drop_of (by simp only [List.length_append, leB_length, headP_length]), take_of (leB_length _ _)]
theorem Due.data {l : List UInt8} {rs : List Rw} {r : Rw} {q : List Rw} (h : Due l (rs ++ r :: q)) : (l.drop (40 + (told rs).length + 4)).take (16 + r.c.length) = leB 8 r.i ++ leB 8 r.t ++ r.c := by
  obtain ⟨j, e⟩ := h.ex
  have et : l = (headP ++ leB 4 (40 + (told (rs ++ r :: q)).length) ++ told rs ++ leB 4 (16 + r.c.length)) ++ ((leB 8 r.i ++ leB 8 r.t ++ r.c) ++ (leB 4 (16 + r.c.length) ++ told q ++ j)) := by
    rw [e]
    unfold due
    generalize leB 4 (40 + (told (rs ++ r :: q)).length) = z
    rw [told_append]
    show headP ++ z ++ (told rs ++ (recL r ++ told q)) ++ j = _
    unfold recL
    simp only [List.append_assoc]
  rw [et, drop_of (by simp only [List.length_append, leB_length, headP_length]), take_of (by simp only [List.length_append, leB_length] <;> (first | lia | omega))]
theorem Due.whole {l : List UInt8} {rs : List Rw} (h : Due l rs) : l.take (due rs).length = due rs := by
  obtain ⟨j, e⟩ := h.ex
  rw [e]
  exact List.take_left
theorem leN4 {n : Nat} (h : n < 4294967296) : leN (leB 4 n) = n := leN_leB 4 n (by simpa using h)
theorem leN8 {n : Nat} (h : n < 1152921504606846976) : leN (leB 8 n) = n := leN_leB 8 n (by (first | lia | omega))
theorem headL_eq : headL = headP ++ leB 4 40 := rfl
theorem split_at (rs : List Rw) {n : Nat} (h : n < rs.length) : ∃ r, rs.take (n + 1) = rs.take n ++ [r] ∧ rs = rs.take n ++ r :: rs.drop (n + 1) ∧ r ∈ rs := by
  refine ⟨rs[n], ?_, ?_, List.getElem_mem h⟩
  · rw [List.take_add_one, List.getElem?_eq_getElem h]
    rfl
  · have := List.take_append_drop n rs
    rw [List.drop_eq_getElem_cons h] at this
    exact this.symm
theorem told_take_le (rs : List Rw) (k : Nat) : (told (rs.take k)).length ≤ (told rs).length := by
  have : told rs = told (rs.take k) ++ told (rs.drop k) := by rw [← told_append, List.take_append_drop]
  rw [this, List.length_append]
  (first | lia | omega)
end
/- part C10 -/
local macro_rules | `(tactic| walk_at "call builtin:len") => `(tactic| (k_here; (with_reducible show wpAny _ _ (call (Value.builtin "len") [Value.ref _]) _ _ _); k_dflt (refine' len_v ?k0 ?k1 ?k2 ?_; (case k0 => k_asm); (case k1 => k_mem); (case k2 => walk_at "my size")); intro _ _))
local macro_rules | `(tactic| walk_at "subscriptTail Name Slice ref ref") => `(tactic| (k_here; (with_reducible show wpAny _ _ (subscriptTail _ (PySem.Expr.Slice _ _ none _) (Value.ref _) (Value.ref _)) _ _ _); (with_reducible rename Fr _ _ _ _ => F'); (with_reducible rename News _ _ _ _ => N'); (first | refine' slice_to (s := ⟨_, _, _, _, _⟩) F' N' ?k1 ?k2 ?k3 ?_ | refine' slice_from (s := ⟨_, _, _, _, _⟩) F' N' ?k1 ?k2 ?k3 ?_); (case k1 => k_mem); (case k2 => walk_at "my size"); (case k3 => walk_at "my size"); intro _ _ _ _ l1; (try k_lt l1); (try k_sweep)))
abbrev dfLoc (fj : Addr) (p : Nat) (tp : Tok) (e : Int) (te : Tok) (x : Option Value) (j : Nat) (tj : Tok) (c : Int) (tcc : Tok) : PySem.Str → Option Value := fun z =>
  if z = PySem.Str.ofString "removedEntries" then some (.int j tj) else if z = PySem.Str.ofString "currentOffset" then some (.int c tcc) else if z = PySem.Str.ofString "prevRecordSize" then x else
  if z = PySem.Str.ofString "entriesToRemove" then some (.int e te) else List.lookup z [(PySem.Str.ofString "entryFrom", .int p tp), (PySem.Str.ofString "self", .ref fj)]
theorem dfirst {h₀ h : Heap} {L : Addr} {fj : Addr} {p : Nat} {tp tj tcc te : Tok} {e c : Int} (F : Fr h₀ L h (fun z => if z = PySem.Str.ofString "removedEntries" then some (.int 0 tj) else if z = PySem.Str.ofString "currentOffset" then some (.int c tcc) else
  if z = PySem.Str.ofString "entriesToRemove" then some (.int e te) else List.lookup z [(PySem.Str.ofString "entryFrom", .int p tp), (PySem.Str.ofString "self", .ref fj)])) : Fr h₀ L h (dfLoc fj p tp e te none 0 tj c tcc) := by
  refine Fr_of (fun z => ?_) F
  dsimp only [dfLoc]
  by_cases q1 : z = PySem.Str.ofString "removedEntries"
  · simp only [if_pos q1]
    rfl
  · by_cases q2 : z = PySem.Str.ofString "currentOffset"
    · simp only [if_neg q1, if_pos q2]
    · by_cases q3 : z = PySem.Str.ofString "prevRecordSize"
      · simp only [if_neg q1, if_neg q2, if_pos q3]
        rw [q3]
        rfl
      · simp only [if_neg q1, if_neg q2, if_neg q3]
theorem dnorm {h₀ h : Heap} {L : Addr} {fj : Addr} {p j : Nat} {tp tj tcc te : Tok} {e c : Int} {x y : Option Value} {e1 c1 : Int} {ta tb : Tok} (F : Fr h₀ L h (fun z => if z = PySem.Str.ofString "removedEntries" then some (.int e1 ta) else if z = PySem.Str.ofString "currentOffset" then some (.int c1 tb) else
  if z = PySem.Str.ofString "prevRecordSize" then y else dfLoc fj p tp e te x j tj c tcc z)) {j' : Nat} {c' : Int} (hu : e1 = j') (hv : c1 = c') : Fr h₀ L h (dfLoc fj p tp e te y j' ta c' tb) := by
  subst hu hv
  refine Fr_of (fun z => ?_) F
  dsimp only [dfLoc]
  by_cases q1 : z = PySem.Str.ofString "removedEntries"
  · simp only [if_pos q1]
  · by_cases q2 : z = PySem.Str.ofString "currentOffset"
    · simp only [if_neg q1, if_pos q2]
    · by_cases q3 : z = PySem.Str.ofString "prevRecordSize"
      · simp only [if_neg q1, if_neg q2, if_pos q3]
      · simp only [if_neg q1, if_neg q2, if_neg q3]
section
variable {w : World} {A : Around} {s : Shared} {h₀ : Heap} {L : Addr} {m : PySem.Str → Option Value} {rest : List (Addr × Obj)} {n : Nat}
set_option pp.deepTerms false in
set_option pp.maxSteps 4000 in
theorem delFrom_S {fj dfj rf drf mm lj ms md : Addr} {t1 t2 t3 k1 k2 k3 k4 k5 k6 tc : Tok} {b : Array UInt8} {cur : Int} {vals : Array Value} {nl p : Nat} {tp : Tok} {rs : List Rw} {Q : Value → Shared → Prop} (S : Site w A h₀ L (n + 4)) (F : Fr h₀ L s.heap m)
    (N : News h₀ L s.heap ((fj, instObj 464 dfj) :: (dfj, fj6 w k1 k2 k3 k4 k5 k6 rf lj ms md cur tc) :: (rf, instObj 282 drf) :: (drf, rfDict w t1 t2 t3 mm) :: (mm, baObj b) :: (lj, listOf vals nl) :: rest))
    (nd : Nd ((fj, instObj 464 dfj) :: (dfj, fj6 w k1 k2 k3 k4 k5 k6 rf lj ms md cur tc) :: (rf, instObj 282 drf) :: (drf, rfDict w t1 t2 t3 mm) :: (mm, baObj b) :: (lj, listOf vals nl) :: rest)) (D : Due b.toList rs) (hcur : cur = 40 + (told rs).length) (hv : vals.size = rs.length) (hp : p ≤ rs.length) (hrs : rs.length ≤ 9) (hok : ∀ r ∈ rs, OkR r)
    (h : ∀ h' tk b' x tc', Due b'.toList (rs.take p) → Fr h₀ L h' m →
      News h₀ L h' ((x, listOf (vals.toList.take p).toArray 0) :: (fj, instObj 464 dfj) :: (dfj, fj6 w k1 k2 k3 k4 k5 k6 rf x ms md (40 + (told (rs.take p)).length) tc') :: (rf, instObj 282 drf) :: (drf, rfDict w t1 t2 t3 mm) :: (mm, baObj b') :: (lj, listOf vals nl) :: rest) →
      Off x ((fj, instObj 464 dfj) :: (dfj, fj6 w k1 k2 k3 k4 k5 k6 rf lj ms md cur tc) :: (rf, instObj 282 drf) :: (drf, rfDict w t1 t2 t3 mm) :: (mm, baObj b) :: (lj, listOf vals nl) :: rest) → Q .none { s with heap := h', toks := tk }) :
    wpS (model PySem.Challenge.rw_jr0034_01.row.prog w) A (call (.ref 405) [.ref fj, .int p tp]) Q s := by
  refine' wpS_call (enterS (binds := [(PySem.Str.ofString "self", .ref fj), (PySem.Str.ofString "entryFrom", .int p tp)]) S F N ?ho ?hcd ?hb ?hl ?_ ?c1 ?c2 ?c3 ?c4)
  case ho => k_is
  case hcd => k_is
  case hb => exact BindsTo.of_eq rfl
  case hl => exact locs rfl
  case c1 => exact rfl
  case c2 => exact rfl
  case c3 => exact rfl
  case c4 => decide
  intro g L' h₁ F' N' S' l
  refine Site.use S' fun A₀ base outer env mean mg mb B hA hf hke X T room units calm => ?_
  refine wpS_abs fun Q9 hQ9 => ?_
  have nd0 := nd
  have hbs := D.big
  have hbl := D.small
  have hle := D.le
  rw [show b.toList.length = b.size from Array.length_toList] at hbs hbl hle
  walk_at "my nd"
  refine S_clean ?_
  walk_at "my steps"
  refine S_clean ?_
  walk_at "my steps"
  rename_i x hx1 l1 hx2 F2 N2
  walk_at "my lt"
  refine S_clean ?_
  walk_at "my steps"
  refine S_clean ?_
  walk_at "my steps"
  rename Fr g _ _ _ => F2
  rename News g _ _ _ => N2
  dsimp only [List.reverse_cons, List.reverse_nil, List.nil_append, List.cons_append] at F2
  have F3 := dfirst F2
  rw [hv, show cur = 40 + ((told (rs.take (rs.length - 0))).length : Int) by rw [Nat.sub_zero, List.take_length]; exact hcur] at F3
  refine S_cons (S_While (codeS_while (fun k s' => ∃ h' tk' x' j te tj tcc, s' = { s with heap := h', toks := tk' } ∧ Fr g L' h' (dfLoc fj p tp (rs.length - p) te x' j tj (40 + (told (rs.take (rs.length - j))).length) tcc) ∧
    News g L' h' ((x, listOf (List.take (Int.toNat (p : Int)) vals.toList).toArray 0) :: (fj, instObj 464 dfj) :: (dfj, fj6 w k1 k2 k3 k4 k5 k6 rf x ms md cur tc) :: (rf, instObj 282 drf) :: (drf, rfDict w t1 t2 t3 mm) :: (mm, baObj b) :: (lj, listOf vals nl) :: rest) ∧ j + p ≤ rs.length ∧ k = rs.length - j) ?_ rs.length ⟨_, _, none, 0, _, _, _, rfl, F3, N2, by (first | lia | omega), rfl⟩))
  rintro k s' ⟨h', tk', x', j, te, tj, tcc, rfl, F4, N4, hj, rfl⟩
  clear F2 F3 N2
  refine wpS_of ?_
  walk_at "my steps"
  · refine wpS_abs fun Q8 hQ8 => ?_
    have hj2 : j < rs.length - p := by (first | lia | omega)
    obtain ⟨r, hs1, hs2, hs3⟩ := split_at rs (n := rs.length - (j + 1)) (by (first | lia | omega))
    rw [show rs.length - (j + 1) + 1 = rs.length - j by (first | lia | omega)] at hs1 hs2
    have hlen : (told (rs.take (rs.length - j))).length = (told (rs.take (rs.length - (j + 1)))).length + (24 + r.c.length) := by
      rw [hs1, told_append, told_one, List.length_append, recL_length]
    have hread : (b.toList.drop ((40 + ((told (rs.take (rs.length - j))).length : Int)) - 4).toNat).take (Int.toNat 4) = leB 4 (16 + r.c.length) := by
      have D' := D
      rw [hs2] at D'
      rw [← D'.back, show ((40 + ((told (rs.take (rs.length - j))).length : Int)) - 4).toNat = 40 + (told (rs.take (rs.length - (j + 1)))).length + (24 + r.c.length) - 4 by (first | lia | omega)]
      rfl
    have hrok := (hok r hs3).c
    have hf : ((j : Int) + 1).fmod 10 ≠ 0 := by
      rw [Int.fmod_eq_emod_of_nonneg _ (by decide)]
      (first | lia | omega)
    refine S_clean ?_
    walk_at "my steps"
    rename Fr g _ _ _ => F5
    rename News g _ _ _ => N5
    rw [hread, leN4 (by (first | lia | omega))] at F5
    refine S_clean ?_
    walk_at "my steps"
    refine S_clean ?_
    walk_at "my steps"
    refine S_clean ?_
    walk_at "my steps"
    · exact absurd (by assumption) hf
    rename Fr g _ _ _ => F6
    rename News g _ _ _ => N6
    have F7 := dnorm F6 (j' := j + 1) (c' := 40 + ((told (rs.take (rs.length - (j + 1)))).length : Int)) (by (first | lia | omega)) (by (first | lia | omega))
    refine S_nil (hQ8 _ _ ⟨rs.length - (j + 1), by (first | lia | omega), _, _, _, j + 1, _, _, _, rfl, F7, ?_, by (first | lia | omega), rfl⟩)
    walk_at "my perm"
  refine S_nil ?_
  have hj3 : rs.length - j = p := by (first | lia | omega)
  rw [hj3] at F4
  refine S_clean ?_
  walk_at "my steps"
  refine S_cons (S_Expr (S_method ?_))
  walk_at "my steps"
  refine S_callWith (K := hd.heap_1 w.params) ?kp (wpS_of ?_)
  case kp => k_is
  walk_at "my steps"
  rename Fr g _ _ _ => F4
  rename News g _ _ _ => N4
  have hlp := told_take_le rs p
  refine' setLast_S (tc := _) (t1 := t1) (t2 := t2) (t3 := t3) (rf := rf) (drf := drf) (mm := mm) (b := b) (fj := fj) (dfj := dfj) (lj := x) (ms := ms) (md := md) (k1 := k1) (k2 := k2) (k3 := k3) (k4 := k4) (k5 := k5) (k6 := k6) (cur := 40 + ((told (rs.take p)).length : Int)) (rest := (x, listOf (List.take (Int.toNat (p : Int)) vals.toList).toArray 0) :: (lj, listOf vals nl) :: rest) S' F4 ?perm ?a1 ?a2 ?a3 ?a4 ?a5 ?b1 ?b2 ?b3 ?b4 ?_
  case b1 => (first | lia | omega)
  case b2 => (first | lia | omega)
  case b3 => (first | lia | omega)
  case b4 => (first | lia | omega)
  case perm => walk_at "my perm"
  case a1 => walk_at "my off"
  case a2 => walk_at "my off"
  case a3 => walk_at "my off"
  case a4 => walk_at "my off"
  case a5 => walk_at "my off"
  intro h7 tk7 b2 e2 F7 N7
  refine S_nil (hQ9 _ _ ⟨_, _, F7, N7, fun F9 N9 => ?_⟩)
  refine' h _ _ b2 x _ ?q1 F9 ?q2 ?q3
  case q2 => walk_at "my perm"
  case q1 =>
    rw [e2, show (40 + ((told (rs.take p)).length : Int)).toNat = 40 + (told (rs.take p)).length by (first | lia | omega)]
    exact D.setLast
  case q3 => walk_at "my off"
end
/- part B3 -/
section
section
variable {prog : Program} {w : World} {A : Around} {s : Shared} {h₀ : Heap} {m : PySem.Str → Option Value} {news : List (Addr × Obj)} {env : Env} {target : PySem.Expr} {body : List Stmt} {I l : Addr} {its : Array Value} {nl : Nat} {o : Obj}
def LiObj (l : Addr) (i : Nat) (o : Obj) : Prop := o.cls = .type "list_iterator" ∧ o.data = .fields #[.ref l, .int i 0]
theorem li_at {h : Heap} {i : Nat} (N : h.get? I = some o) (e : LiObj l i o) : h.IsListIter I l i := ⟨o, N, e.1, e.2⟩
theorem S_forListI {R : Flow → Shared → Prop} (J : Nat → (PySem.Str → Option Value) → List (Addr × Obj) → Prop) (hh : A.handled = none)
    (F : Fr h₀ env.locals s.heap m) (N : News h₀ env.locals s.heap ((I, o) :: news)) (ho : LiObj l 0 o) (h0 : J 0 m news) (hoff : ∀ i m₁ news₁, J i m₁ news₁ → Off I news₁ ∧ (l, listOf its nl) ∈ news₁)
    (turn : ∀ i v m₁ news₁ h tk o, its[i]? = some v → LiObj l (i + 1) o → J i m₁ news₁ → Fr h₀ env.locals h m₁ → News h₀ env.locals h ((I, o) :: news₁) →
      wpAny (model prog w) A (assign target env v) (fun _ s₂ => wpS (model prog w) A (execs body env) (fun f s₃ => f = .next ∧ ∃ h' tk' m' news', s₃ = { s with heap := h', toks := tk' } ∧ Fr h₀ env.locals h' m' ∧ News h₀ env.locals h' ((I, o) :: news') ∧ J (i + 1) m' news') s₂) noE { s with heap := h, toks := tk })
    (done : ∀ m₁ news₁ h tk, J its.size m₁ news₁ → Fr h₀ env.locals h m₁ → News h₀ env.locals h news₁ → R .next { s with heap := h, toks := tk })
    (ht : ∀ v, letOwnedTupleGo target (.ref I) v = pure () := by intro _; rfl) :
    codeS (model prog w) A (.forLoop target (.ref I) body [] env) R s := by
  refine codeS_for (fun k s' => ∃ h' tk' m' news' i o, s' = { s with heap := h', toks := tk' } ∧ Fr h₀ env.locals h' m' ∧ News h₀ env.locals h' ((I, o) :: news') ∧ LiObj l i o ∧ J i m' news' ∧ i ≤ its.size ∧ k = its.size + 1 - i) ?_ (its.size + 1)
    ⟨s.heap, s.toks, m, news, 0, o, rfl, F, N, ho, h0, Nat.zero_le _, rfl⟩ ht
  rintro k s' ⟨h', tk', m', news', i, o', rfl, F', N', ho', hJ, hi, rfl⟩
  obtain ⟨hof, hmem⟩ := hoff _ _ _ hJ
  have hit := li_at (N' _ (.head _)).1 ho'
  have hlist : h'.IsList l its := ⟨_, (N' _ (.tail _ hmem)).1, rfl, _, rfl⟩
  by_cases hlt : i < its.size
  · refine wpAny_pyNext_list_item hit hlist (x := its[i]) (by simp [hlt]) fun h₁ hit₁ hs₁ => ?_
    obtain ⟨o₁, hg, hc, hd⟩ := hit₁
    obtain ⟨F1, N1⟩ := upd_head F' N' hof.off hs₁ hg
    refine wpAny_mono (turn i its[i] m' news' h₁ tk' o₁ (by simp [hlt]) ⟨hc, by push_cast at hd ⊢; exact hd⟩ hJ F1 N1) (fun _ s₂ h₂ => wpS_mono h₂ ?_) (fun _ _ x => x)
    rintro f s₃ ⟨rfl, h₃, tk₃, m₃, news₃, rfl, F3, N3, hJ3⟩
    exact ⟨its.size + 1 - (i + 1), by (first | lia | omega), h₃, tk₃, m₃, news₃, i + 1, o₁, rfl, F3, N3, ⟨hc, by push_cast at hd ⊢; exact hd⟩, hJ3, hlt, rfl⟩
  · have hin : i = its.size := by (first | lia | omega)
    subst hin
    refine wpAny_pyNext_list_end hh hit hlist (by simp) fun h₁ he₁ => S_nil ?_
    obtain ⟨F1, N1⟩ := upd_ext F' N' hof.off he₁
    exact done m' news' h₁ tk' hJ F1 N1
theorem S_forList {R : Flow → Shared → Prop} (J : Nat → (PySem.Str → Option Value) → List (Addr × Obj) → Prop) (hh : A.handled = none)
    (F : Fr h₀ env.locals s.heap m) (N : News h₀ env.locals s.heap ((I, o) :: news)) (ho : LiObj l 0 o) (h0 : J 0 m news) (hoff : ∀ i m₁ news₁, J i m₁ news₁ → Off I news₁ ∧ (l, listOf its nl) ∈ news₁)
    (turn : ∀ i v m₁ news₁ h tk o, its[i]? = some v → J i m₁ news₁ → Fr h₀ env.locals h m₁ → News h₀ env.locals h ((I, o) :: news₁) →
      wpAny (model prog w) A (assign target env v) (fun _ s₂ => wpS (model prog w) A (execs body env) (fun f s₃ => f = .next ∧ ∃ h' tk' m' news', s₃ = { s with heap := h', toks := tk' } ∧ Fr h₀ env.locals h' m' ∧ News h₀ env.locals h' ((I, o) :: news') ∧ J (i + 1) m' news') s₂) noE { s with heap := h, toks := tk })
    (done : ∀ m₁ news₁ h tk, J its.size m₁ news₁ → Fr h₀ env.locals h m₁ → News h₀ env.locals h news₁ → R .next { s with heap := h, toks := tk })
    (ht : ∀ v, letOwnedTupleGo target (.ref I) v = pure () := by intro _; rfl) :
    codeS (model prog w) A (.forLoop target (.ref I) body [] env) R s :=
  S_forListI J hh F N ho h0 hoff (fun i v m₁ news₁ h tk o hv _ hJ F N => turn i v m₁ news₁ h tk o hv hJ F N) done ht
theorem iterList {E : Value → Shared → Prop} {L : Addr} {Q : Value → Shared → Prop} (F : Fr h₀ L s.heap m) (N : News h₀ L s.heap news) (hm : (l, listOf its nl) ∈ news)
    (h : ∀ I o h', LiObj l 0 o → Fr h₀ L h' m → News h₀ L h' ((I, o) :: news) → (∀ p ∈ news, p.1 < I) → Q (.ref I) { s with heap := h' }) : wpAny (model prog w) A (pyIter (.ref l)) Q E s :=
  wpAny_pyIter_list ⟨_, (N _ hm).1, rfl, _, rfl⟩ (h _ _ _ ⟨rfl, rfl⟩ (F.push _) (N.push F _) (fun p hp => Heap.lt_size (N p hp).1))
end
section
variable {prog : Program} {w : World} {A : Around} {s : Shared} {h₀ : Heap} {L : Addr} {m : PySem.Str → Option Value} {news : List (Addr × Obj)} {env : Env}
theorem assign_name {x : PySem.Str} {px : Pos} {v : Value} {Q : Unit → Shared → Prop} (hx : env.kindOf x = some .local) (F : Fr h₀ env.locals s.heap m) (N : News h₀ env.locals s.heap news)
    (hp : (env.scope.kind == .class || (env.scope.kind == .module && env.locals != env.globals)) = false)
    (h : ∀ h', Fr h₀ env.locals h' (fun y => if y = x then some v else m y) → News h₀ env.locals h' news → Q () { s with heap := h', toks := s.toks + 1 }) : wpAny (model prog w) A (assign (.Name x px) env v) Q noE s :=
  wpAny_assign_Name (wpAny_storeName_local hx F.ns (fun h₂ hn₂ hs₂ => h _ (F.set hn₂ hs₂) (N.set hs₂)) hp)
end
abbrev tupR (r : Rw) (ta tb td : Tok) : Obj := { cls := .type "tuple", data := .seq #[.bytes r.c.toArray ta, .int r.i tb, .int r.t td] 0 }
def RowAt (news : List (Addr × Obj)) (v : Value) (r : Rw) : Prop := ∃ a ta tb td, v = .ref a ∧ (a, tupR r ta tb td) ∈ news
def RowsAt (news : List (Addr × Obj)) : List Value → List Rw → Prop
  | [], [] => True
  | v :: vs, r :: rs => RowAt news v r ∧ RowsAt news vs rs
  | _, _ => False
theorem RowAt.mono {a b : List (Addr × Obj)} {v : Value} {r : Rw} (h : RowAt a v r) (k : ∀ p ∈ a, p ∈ b) : RowAt b v r := by
  obtain ⟨x, ta, tb, td, e, hm⟩ := h
  exact ⟨x, ta, tb, td, e, k _ hm⟩
theorem RowsAt.mono {a b : List (Addr × Obj)} (k : ∀ p ∈ a, p ∈ b) : ∀ {vs : List Value} {rs : List Rw}, RowsAt a vs rs → RowsAt b vs rs
  | [], [], _ => trivial
  | _ :: _, _ :: _, h => ⟨h.1.mono k, RowsAt.mono k h.2⟩
  | [], _ :: _, h => h.elim
  | _ :: _, [], h => h.elim
theorem RowsAt.length {a : List (Addr × Obj)} : ∀ {vs : List Value} {rs : List Rw}, RowsAt a vs rs → vs.length = rs.length
  | [], [], _ => rfl
  | _ :: _, _ :: _, h => congrArg (· + 1) (RowsAt.length h.2)
  | [], _ :: _, h => h.elim
  | _ :: _, [], h => h.elim
theorem RowsAt.take {a : List (Addr × Obj)} : ∀ {vs : List Value} {rs : List Rw} (k : Nat), RowsAt a vs rs → RowsAt a (vs.take k) (rs.take k)
  | _, _, 0, _ => trivial
  | [], [], _ + 1, _ => trivial
  | _ :: _, _ :: _, k + 1, h => ⟨h.1, RowsAt.take k h.2⟩
  | [], _ :: _, _ + 1, h => h.elim
  | _ :: _, [], _ + 1, h => h.elim
theorem RowsAt.drop {a : List (Addr × Obj)} : ∀ {vs : List Value} {rs : List Rw} (k : Nat), RowsAt a vs rs → RowsAt a (vs.drop k) (rs.drop k)
  | _, _, 0, h => h
  | [], [], _ + 1, _ => trivial
  | _ :: _, _ :: _, k + 1, h => RowsAt.drop k h.2
  | [], _ :: _, _ + 1, h => h.elim
  | _ :: _, [], _ + 1, h => h.elim
theorem RowsAt.snoc {a : List (Addr × Obj)} {v : Value} {r : Rw} (hr : RowAt a v r) : ∀ {vs : List Value} {rs : List Rw}, RowsAt a vs rs → RowsAt a (vs ++ [v]) (rs ++ [r])
  | [], [], _ => ⟨hr, trivial⟩
  | _ :: _, _ :: _, h => ⟨h.1, RowsAt.snoc hr h.2⟩
  | [], _ :: _, h => h.elim
  | _ :: _, [], h => h.elim
theorem RowsAt.get {a : List (Addr × Obj)} : ∀ {vs : List Value} {rs : List Rw} {i : Nat} {v : Value}, RowsAt a vs rs → vs[i]? = some v → ∃ r, rs[i]? = some r ∧ RowAt a v r
  | [], [], i, v, _, e => by simp at e
  | x :: vs, y :: rs, 0, v, h, e => ⟨y, rfl, by cases e; exact h.1⟩
  | x :: vs, y :: rs, i + 1, v, h, e => RowsAt.get (vs := vs) (rs := rs) (i := i) h.2 e
  | [], _ :: _, _, _, h, _ => h.elim
  | _ :: _, [], _, _, h, _ => h.elim
theorem Nd.perm {a b : List (Addr × Obj)} (h : Nd a) (p : (a.map (·.1)).Perm (b.map (·.1))) : Nd b := ⟨p.nodup_iff.mp h.nd⟩
theorem Nd.same {a b : List (Addr × Obj)} (h : Nd a) (e : a.map (·.1) = b.map (·.1)) : Nd b := ⟨e ▸ h.nd⟩
theorem Nd.mid {a b : List (Addr × Obj)} {x : Addr} {o : Obj} (h : Nd (a ++ b)) (hx : Off x (a ++ b)) : Nd (a ++ (x, o) :: b) := by
  refine (Nd.join (o := o) hx h).perm ?_
  rw [List.map_cons, List.map_append, List.map_append, List.map_cons]
  exact List.perm_middle.symm
theorem Nd.unmid {a b : List (Addr × Obj)} {x : Addr} {o : Obj} (h : Nd (a ++ (x, o) :: b)) : Nd (a ++ b) ∧ Off x (a ++ b) := by
  have : Nd ((x, o) :: (a ++ b)) := by
    refine h.perm ?_
    rw [List.map_cons, List.map_append, List.map_append, List.map_cons]
    exact List.perm_middle
  exact ⟨this.split.2, this.split.1⟩
theorem Nd.sub {a b : List (Addr × Obj)} (h : Nd b) (s : List.Sublist (a.map (·.1)) (b.map (·.1))) : Nd a := ⟨s.nodup h.nd⟩
theorem Off.sub {d : Nat} {a b : List (Addr × Obj)} (h : Off d b) (k : ∀ p ∈ a, p ∈ b) : Off d a := ⟨fun p hp => h.off p (k p hp)⟩
abbrev fjL (w : World) (fj dfj rf drf mm lj ms md : Addr) (t1 t2 t3 k1 k2 k3 k4 k5 k6 tc : Tok) (b : Array UInt8) (cur : Int) : List (Addr × Obj) :=
  [(fj, instObj 464 dfj), (dfj, fj6 w k1 k2 k3 k4 k5 k6 rf lj ms md cur tc), (rf, instObj 282 drf), (drf, rfDict w t1 t2 t3 mm), (mm, baObj b)]
theorem Off.same {d : Nat} {a b : List (Addr × Obj)} (h : Off d a) (e : a.map (·.1) = b.map (·.1)) : Off d b := ⟨fun p hp => by
  have : p.1 ∈ a.map (·.1) := e ▸ List.mem_map.mpr ⟨p, hp, rfl⟩
  obtain ⟨q, hq, e'⟩ := List.mem_map.mp this
  rw [← e']
  exact h.off q hq⟩
theorem Nd.cut2 {a T r : List (Addr × Obj)} {p q : Addr × Obj} (h : Nd (a ++ (T ++ p :: q :: r))) : Nd (a ++ (T ++ r)) := by
  rw [← List.append_assoc] at h ⊢
  exact (Nd.unmid (a := a ++ T) (x := q.1) (o := q.2) (b := r) (Nd.unmid (a := a ++ T) (b := q :: r) (x := p.1) (o := p.2) h).1).1
theorem News.cut2 {h₀ h : Heap} {L : Addr} {a T r : List (Addr × Obj)} {p q : Addr × Obj} (N : News h₀ L h (a ++ (T ++ p :: q :: r))) : News h₀ L h (a ++ (T ++ r)) := fun x hx => N x (by
  simp only [List.mem_append, List.mem_cons] at hx ⊢
  rcases hx with e | e | e
  · exact .inl e
  · exact .inr (.inl e)
  · exact .inr (.inr (.inr (.inr e))))
end
/- part C11 -/
section
variable {w : World} {A : Around} {s : Shared} {h₀ : Heap} {L : Addr} {m : PySem.Str → Option Value} {rest : List (Addr × Obj)} {n : Nat}
set_option pp.deepTerms false in
set_option pp.maxSteps 4000 in
theorem delTo_S {fj dfj rf drf mm lj ms md : Addr} {t1 t2 t3 k1 k2 k3 k4 k5 k6 tc : Tok} {b : Array UInt8} {cur : Int} {vals : Array Value} {nl p : Nat} {tp : Tok} {rs : List Rw} {Q : Value → Shared → Prop} (S : Site w A h₀ L (n + 6)) (F : Fr h₀ L s.heap m)
    (N : News h₀ L s.heap ((fj, instObj 464 dfj) :: (dfj, fj6 w k1 k2 k3 k4 k5 k6 rf lj ms md (cur) tc) :: (rf, instObj 282 drf) :: (drf, rfDict w t1 t2 t3 mm) :: (mm, baObj b) :: (lj, listOf vals nl) :: rest))
    (nd : Nd ((fj, instObj 464 dfj) :: (dfj, fj6 w k1 k2 k3 k4 k5 k6 rf lj ms md (cur) tc) :: (rf, instObj 282 drf) :: (drf, rfDict w t1 t2 t3 mm) :: (mm, baObj b) :: (lj, listOf vals nl) :: rest)) (D : Due b.toList rs) (hR : RowsAt rest vals.toList rs) (hrs : rs.length ≤ 9) (hok : ∀ r ∈ rs, OkR r)
    (h : ∀ h' tk b' x vals' nl' T tc', Due b'.toList (rs.drop p) → RowsAt T vals'.toList (rs.drop p) → Fr h₀ L h' m →
      News h₀ L h' ((fj, instObj 464 dfj) :: (dfj, fj6 w k1 k2 k3 k4 k5 k6 rf x ms md (40 + (told (rs.drop p)).length) tc') :: (rf, instObj 282 drf) :: (drf, rfDict w t1 t2 t3 mm) :: (mm, baObj b') :: (x, listOf vals' nl') :: (T ++ rest)) →
      Nd ((fj, instObj 464 dfj) :: (dfj, fj6 w k1 k2 k3 k4 k5 k6 rf x ms md (40 + (told (rs.drop p)).length) tc') :: (rf, instObj 282 drf) :: (drf, rfDict w t1 t2 t3 mm) :: (mm, baObj b') :: (x, listOf vals' nl') :: (T ++ rest)) → Q .none { s with heap := h', toks := tk }) :
    wpS (model PySem.Challenge.rw_jr0034_01.row.prog w) A (call (.ref 412) [.ref fj, .int p tp]) Q s := by
  refine' wpS_call (enterS (binds := [(PySem.Str.ofString "self", .ref fj), (PySem.Str.ofString "entryTo", .int p tp)]) S F N ?ho ?hcd ?hb ?hl ?_ ?c1 ?c2 ?c3 ?c4)
  case ho => k_is
  case hcd => k_is
  case hb => exact BindsTo.of_eq rfl
  case hl => exact locs rfl
  case c1 => exact rfl
  case c2 => exact rfl
  case c3 => exact rfl
  case c4 => decide
  intro g L' h₁ F' N' S' l
  refine Site.use S' fun A₀ base outer env mean mg mb B hA hf hke X T room units calm => ?_
  refine wpS_abs fun Q9 hQ9 => ?_
  have nd0 : Nd (fjL w fj dfj rf drf mm lj ms md t1 t2 t3 k1 k2 k3 k4 k5 k6 tc b (cur) ++ (lj, listOf vals nl) :: rest) := nd
  have hbs := D.big
  have hbl := D.small
  rw [show b.toList.length = b.size from Array.length_toList] at hbs hbl
  have hvl : vals.size = rs.length := by rw [← Array.length_toList]; exact hR.length
  walk_at "my nd"
  refine S_clean ?_
  walk_at "my steps"
  rename_i Dl hx1 l1 hx2 F2 N2
  walk_at "my lt"
  have ndD : Nd ((fj, instObj 464 dfj) :: (dfj, fj6 w k1 k2 k3 k4 k5 k6 rf lj ms md (cur) tc) :: (rf, instObj 282 drf) :: (drf, rfDict w t1 t2 t3 mm) :: (mm, baObj b) :: (lj, listOf vals nl) :: (Dl, listOf (List.drop (Int.toNat (p : Int)) vals.toList).toArray 0) :: rest) := Nd.mid (a := fjL w fj dfj rf drf mm lj ms md t1 t2 t3 k1 k2 k3 k4 k5 k6 tc b cur ++ [(lj, listOf vals nl)]) nd0 (by dsimp only [List.cons_append, List.nil_append]; walk_at "my off")
  refine S_cons (S_Expr (S_method ?_))
  walk_at "my steps"
  refine S_callWith0 (K := hd.heap_1 w.params) ?kx ?kp ?_
  case kp => k_is
  case kx =>
    rename Fr g _ _ _ => F9
    exact X.keeps F9.keep
  show wpS _ _ (call (.ref 377) [.ref fj]) _ _
  rename Fr g _ _ _ => F4
  rename News g _ _ _ => N4
  refine' clear_S (rest := (Dl, listOf (List.drop (Int.toNat (p : Int)) vals.toList).toArray 0) :: rest) (t1 := t1) (t2 := t2) (t3 := t3) (rf := rf) (drf := drf) (mm := mm) (b := b) (fj := fj) (dfj := dfj) (lj := lj) (ms := ms) (md := md) (k1 := k1) (k2 := k2) (k3 := k3) (k4 := k4) (k5 := k5) (k6 := k6) (cur := cur) (tc := tc) (n := n + 1) (S'.less (by walk_at "my less")) F4 ?perm ndD (by (first | lia | omega)) (by (first | lia | omega)) ?_
  case perm => walk_at "my perm"
  intro h5 tk5 b1 x tc1 e1 F5 N5 ox
  have D1 : Due b1.toList [] := by rw [e1]; exact D.clear
  clear F4 N4
  refine S_cons (S_For (wpS_of ?_))
  walk_at "my steps"
  rename Fr g _ _ _ => F6
  rename News g _ _ _ => N6
  refine' iterList F6 N6 (l := Dl) ?m1 fun I o h6 ho F7 N7 l7 => ?_
  case m1 => k_mem
  k_lt l7
  walk_at "my lt"
  clear F6 N6
  have hN0 : Nd ((fjL w fj dfj rf drf mm x ms md t1 t2 t3 k1 k2 k3 k4 k5 k6 tc1 b1 (40)) ++ (x, listOf #[] 0) :: ([] ++ ((lj, listOf vals nl) :: (Dl, listOf (List.drop (Int.toNat (p : Int)) vals.toList).toArray 0) :: rest))) := Nd.mid (a := (fjL w fj dfj rf drf mm x ms md t1 t2 t3 k1 k2 k3 k4 k5 k6 tc1 b1 (40))) (b := ((lj, listOf vals nl) :: (Dl, listOf (List.drop (Int.toNat (p : Int)) vals.toList).toArray 0) :: rest)) (ndD.same rfl) (ox.same rfl)
  refine S_forList (l := Dl) (its := (List.drop (Int.toNat (p : Int)) vals.toList).toArray) (nl := 0) (fun i m₁ news₁ => (∃ z, m₁ = fun y => if y = PySem.Str.ofString "entry" then z else if y = PySem.Str.ofString "journal" then some (.ref Dl) else List.lookup y [(PySem.Str.ofString "entryTo", .int p tp), (PySem.Str.ofString "self", .ref fj)]) ∧
    ∃ b2 tc2 vs nl2 T, Due b2.toList ((rs.drop p).take i) ∧ RowsAt T vs.toList ((rs.drop p).take i) ∧ Nd ((fjL w fj dfj rf drf mm x ms md t1 t2 t3 k1 k2 k3 k4 k5 k6 tc2 b2 (40 + ((told ((rs.drop p).take i)).length : Int))) ++ (x, listOf vs nl2) :: (T ++ ((lj, listOf vals nl) :: (Dl, listOf (List.drop (Int.toNat (p : Int)) vals.toList).toArray 0) :: rest))) ∧ Off I ((fjL w fj dfj rf drf mm x ms md t1 t2 t3 k1 k2 k3 k4 k5 k6 tc2 b2 (40 + ((told ((rs.drop p).take i)).length : Int))) ++ (x, listOf vs nl2) :: (T ++ ((lj, listOf vals nl) :: (Dl, listOf (List.drop (Int.toNat (p : Int)) vals.toList).toArray 0) :: rest))) ∧ news₁ = (fjL w fj dfj rf drf mm x ms md t1 t2 t3 k1 k2 k3 k4 k5 k6 tc2 b2 (40 + ((told ((rs.drop p).take i)).length : Int))) ++ (x, listOf vs nl2) :: (T ++ ((lj, listOf vals nl) :: (Dl, listOf (List.drop (Int.toNat (p : Int)) vals.toList).toArray 0) :: rest))) calm F7 (news := (fjL w fj dfj rf drf mm x ms md t1 t2 t3 k1 k2 k3 k4 k5 k6 tc1 b1 (40)) ++ (x, listOf #[] 0) :: ([] ++ ((lj, listOf vals nl) :: (Dl, listOf (List.drop (Int.toNat (p : Int)) vals.toList).toArray 0) :: rest))) (o := o) ?_ ho ?_ ?_ ?_ ?_
  · dsimp only [List.cons_append, List.nil_append]
    walk_at "my perm"
  · refine ⟨⟨none, if_first rfl⟩, b1, tc1, #[], 0, [], by rw [List.take_zero]; exact D1, by rw [List.take_zero]; trivial, hN0, ?_, rfl⟩
    dsimp only [List.cons_append, List.nil_append]
    walk_at "my off"
  · rintro i m₁ news₁ ⟨_, b2, tc2, vs, nl2, T, _, _, _, hO, rfl⟩
    exact ⟨hO, by simp⟩
  · rintro i v m₁ news₁ h7 tk7 o7 hv ⟨⟨z, rfl⟩, b2, tc2, vs, nl2, T, hD, hRw, hNd, hOI, rfl⟩ F8 N8
    rw [List.getElem?_toArray, Int.toNat_natCast] at hv
    obtain ⟨r, hr, a, ta, tb, td, rfl, hm⟩ := (hR.drop p).get hv
    refine assign_name rfl F8 N8 rfl fun h9 F9 N9 => ?_
    replace F9 := Fr_twice F9
    have N10 := News_join (a := a) (o := tupR r ta tb td) ⟨N9 (a, tupR r ta tb td) (by simp [hm])⟩ N9
    clear N9 N8 F8 F7 N7
    dsimp only [List.cons_append, List.nil_append] at N10
    refine wpS_abs fun Q8 hQ8 => ?_
    refine S_cons (S_Expr (S_method ?_))
    walk_at "my steps"
    refine S_callWith (K := hd.heap_1 w.params) ?kp (wpS_of ?_)
    case kp => k_is
    walk_at "my steps"
    rename Fr g _ _ _ => F11
    rename News g _ _ _ => N11
    have hz2 : b2.toList.length = b2.size := Array.length_toList
    have hb2 := hD.big
    have hs2 := hD.small
    have hl2 := hD.le
    have hvs : vs.size ≤ 1000 := by
      rw [← Array.length_toList, hRw.length, List.length_take, List.length_drop]
      (first | lia | omega)
    have hrm : r ∈ rs := List.mem_of_mem_drop (List.mem_of_getElem? hr)
    have ho1 := hok r hrm
    have ho2 := ho1.c
    have ho3 := ho1.i
    have ho4 := ho1.t
    have hlen9 : ((rs.drop p).take i).length ≤ 9 := by
      rw [List.length_take, List.length_drop]
      (first | lia | omega)
    have hokt : ∀ q ∈ (rs.drop p).take i, OkR q := fun q hq => hok q (List.mem_of_mem_drop (List.mem_of_mem_take hq))
    have htl := told_length_le hokt
    have ndI : Nd ((fjL w fj dfj rf drf mm x ms md t1 t2 t3 k1 k2 k3 k4 k5 k6 tc2 b2 (40 + ((told ((rs.drop p).take i)).length : Int))) ++ [(x, listOf vs nl2)] ++ (I, o7) :: (T ++ ((lj, listOf vals nl) :: (Dl, listOf (List.drop (Int.toNat (p : Int)) vals.toList).toArray 0) :: rest))) := Nd.mid (a := (fjL w fj dfj rf drf mm x ms md t1 t2 t3 k1 k2 k3 k4 k5 k6 tc2 b2 (40 + ((told ((rs.drop p).take i)).length : Int))) ++ [(x, listOf vs nl2)]) (b := T ++ ((lj, listOf vals nl) :: (Dl, listOf (List.drop (Int.toNat (p : Int)) vals.toList).toArray 0) :: rest)) hNd hOI
    refine' add_S (tc := tc2) (t1 := t1) (t2 := t2) (t3 := t3) (rf := rf) (drf := drf) (mm := mm) (b := b2) (fj := fj) (dfj := dfj) (lj := x) (ms := ms) (md := md) (k1 := k1) (k2 := k2) (k3 := k3) (k4 := k4) (k5 := k5) (k6 := k6) (cur := 40 + (told ((rs.drop p).take i)).length) (vals := vs) (nl := nl2) (n := n + 1) (rest := (I, o7) :: (T ++ ((lj, listOf vals nl) :: (Dl, listOf (List.drop (Int.toNat (p : Int)) vals.toList).toArray 0) :: rest))) (S'.less (by walk_at "my less")) F11 ?perm ndI ?b1 ?b2 ?b3 ?b4 ?b5 ?b6 ?b7 ?b8 ?b9 hvs ?_
    case perm => walk_at "my perm"
    case b1 => (first | lia | omega)
    case b2 => (first | lia | omega)
    case b3 => (first | lia | omega)
    case b4 => (first | lia | omega)
    case b5 => (first | lia | omega)
    case b6 => (first | lia | omega)
    case b7 => (first | lia | omega)
    case b8 => (first | lia | omega)
    case b9 => (first | lia | omega)
    intro h12 tk12 b3 y tc3 ta3 tb3 td3 e3 F12 N12 oy
    have htake : (rs.drop p).take (i + 1) = (rs.drop p).take i ++ [r] := by
      rw [List.take_add_one, hr]
      rfl
    have hlen : (told ((rs.drop p).take (i + 1))).length = (told ((rs.drop p).take i)).length + (24 + r.c.length) := by
      rw [htake, told_append, told_one, List.length_append, recL_length]
    have hD3 : Due b3.toList ((rs.drop p).take (i + 1)) := by
      have := hD.add (r := r) (by (first | lia | omega))
      rw [htake, e3]
      rw [show ((40 : Int) + ((told ((rs.drop p).take i)).length : Int)).toNat = 40 + (told ((rs.drop p).take i)).length by (first | lia | omega), Int.toNat_natCast, Int.toNat_natCast]
      exact this
    have oy2 := Nd.unmid (a := (fjL w fj dfj rf drf mm x ms md t1 t2 t3 k1 k2 k3 k4 k5 k6 tc2 b2 (40 + ((told ((rs.drop p).take i)).length : Int))) ++ [(x, listOf vs nl2)]) (b := T ++ ((lj, listOf vals nl) :: (Dl, listOf (List.drop (Int.toNat (p : Int)) vals.toList).toArray 0) :: rest)) (x := I) (o := o7) ndI
    refine S_nil (hQ8 _ _ ⟨rfl, h12, _, _, (fjL w fj dfj rf drf mm x ms md t1 t2 t3 k1 k2 k3 k4 k5 k6 tc3 b3 (40 + ((told ((rs.drop p).take (i + 1))).length : Int))) ++ (x, listOf (vs.push (.ref y)) (nl2 + 1)) :: (((y, tupR r ta3 tb3 td3) :: T) ++ ((lj, listOf vals nl) :: (Dl, listOf (List.drop (Int.toNat (p : Int)) vals.toList).toArray 0) :: rest)), rfl, F12, ?_, ⟨_, rfl⟩, b3, tc3, vs.push (.ref y), nl2 + 1, (y, tupR r ta3 tb3 td3) :: T, hD3, ?_, ?_, ?_, rfl⟩)
    · dsimp only [List.cons_append, List.nil_append]
      rw [show (40 : Int) + ((told ((rs.drop p).take (i + 1))).length : Int) = (40 : Int) + ((told ((rs.drop p).take i)).length : Int) + (24 + (r.c.length : Int)) by (first | lia | omega)]
      walk_at "my perm"
    · rw [htake, Array.toList_push]
      exact RowsAt.snoc ⟨y, _, _, _, rfl, .head _⟩ (hRw.mono fun q hq => .tail _ hq)
    · walk_at "my nd"
      refine Nd.mid (a := (fjL w fj dfj rf drf mm x ms md t1 t2 t3 k1 k2 k3 k4 k5 k6 tc3 b3 (40 + ((told ((rs.drop p).take (i + 1))).length : Int))) ++ [(x, listOf (vs.push (.ref y)) (nl2 + 1))]) (b := T ++ ((lj, listOf vals nl) :: (Dl, listOf (List.drop (Int.toNat (p : Int)) vals.toList).toArray 0) :: rest)) (oy2.1.same rfl) ?_
      dsimp only [List.cons_append, List.nil_append]
      walk_at "my off"
    · have q := hOI.same (b := (fjL w fj dfj rf drf mm x ms md t1 t2 t3 k1 k2 k3 k4 k5 k6 tc3 b3 (40 + ((told ((rs.drop p).take (i + 1))).length : Int))) ++ (x, listOf (vs.push (.ref y)) (nl2 + 1)) :: (T ++ ((lj, listOf vals nl) :: (Dl, listOf (List.drop (Int.toNat (p : Int)) vals.toList).toArray 0) :: rest))) rfl
      dsimp only [List.cons_append, List.nil_append] at q ⊢
      walk_at "my nd"
      walk_at "my off"
  · rintro m₁ news₁ h7 tk7 ⟨_, b2, tc2, vs, nl2, T, hD, hRw, hNd, hOI, rfl⟩ F8 N8
    have hfull : List.take (List.drop (Int.toNat (p : Int)) vals.toList).toArray.size (rs.drop p) = rs.drop p :=
      List.take_of_length_le (by rw [List.size_toArray, List.length_drop, List.length_drop, hR.length, Int.toNat_natCast]; (first | lia | omega))
    rw [hfull] at hD hRw hNd hOI N8
    refine S_nil (hQ9 _ _ ⟨_, _, F8, N8, fun F9 N9 => h _ _ b2 x vs nl2 T tc2 hD hRw F9 ?_ ?_⟩)
    · exact News.cut2 (a := (fjL w fj dfj rf drf mm x ms md t1 t2 t3 k1 k2 k3 k4 k5 k6 tc2 b2 (40 + ((told (rs.drop p)).length : Int))) ++ [(x, listOf vs nl2)]) N9
    · exact Nd.cut2 (a := (fjL w fj dfj rf drf mm x ms md t1 t2 t3 k1 k2 k3 k4 k5 k6 tc2 b2 (40 + ((told (rs.drop p)).length : Int))) ++ [(x, listOf vs nl2)]) hNd
end
/- part B4 -/
section
section
variable {prog : Program} {w : World} {A : Around} {E : Value → Shared → Prop} {s : Shared} {h₀ : Heap} {L d : Addr} {m : PySem.Str → Option Value} {news rest : List (Addr × Obj)} {o : Obj} {kvs : List (PySem.Str × Value)} {k : PySem.Str} {t : Tok} {v : Value}
theorem setItem_D {Q : Unit → Shared → Prop} (F : Fr h₀ L s.heap m) (N : News h₀ L s.heap ((d, o) :: rest)) (hoff : Off d rest) (hd : o.IsDictOf (strKind prog w) kvs) (hz : kvs.length ≤ 1000)
    (h : ∀ h' o', Fr h₀ L h' m → News h₀ L h' ((d, o') :: rest) → o'.IsDictOf (strKind prog w) (stored kvs k v) → Q () { s with heap := h', toks := s.toks + 1 }) : wpAny (model prog w) A (setItem (.ref d) (.str k t) v) Q E s := by
  have hm := N (d, o) (.head _)
  refine wpAny_setItem_pairs (hsz := by rw [sizeLine_eq]; (first | lia | omega)) (strKind_is prog w k t) (Heap.dictOf_iff.mpr ⟨o, hm.1, hd⟩) fun h' hmm hs => ?_
  obtain ⟨o', ho', hd'⟩ := Heap.dictOf_iff.mp hmm
  obtain ⟨F1, N1⟩ := upd_head F N hoff.off hs ho'
  exact h h' o' F1 N1 hd'
theorem getItem_D {Q : Value → Shared → Prop} (N : News h₀ L s.heap news) (hm : (d, o) ∈ news) (hd : o.IsDictOf (strKind prog w) kvs) (hv : valueAt kvs k = some v)
    (h : Q v { s with toks := s.toks + 1 }) : wpAny (model prog w) A (getItem (.ref d) (.str k t)) Q E s :=
  wpAny_getItem_of (strKind_is prog w k t) (Heap.dictOf_iff.mpr ⟨o, (N _ hm).1, hd⟩ : s.heap.DictOf (strKind prog w) d kvs).mapOf hv h
theorem tail_D {value slice : PySem.Expr} {Q : Value → Shared → Prop} (N : News h₀ L s.heap news) (hm : (d, o) ∈ news) (hd : o.IsDictOf (strKind prog w) kvs) (hv : valueAt kvs k = some v)
    (h : Q v { s with toks := s.toks + 1 })
    (hs : subscripted slice false (.ref d) (.str k t) = operate [.ref d, .str k t] (getItem (.ref d) (.str k t)) := by with_unfolding_all rfl) : wpAny (model prog w) A (subscriptTail value slice (.ref d) (.str k t)) Q E s :=
  tail_any (Heap.dictOf_iff.mpr ⟨o, (N _ hm).1, hd⟩ : s.heap.DictOf (strKind prog w) d kvs).typeIs slot_dict_getitem.lookup (getItem_D N hm hd hv h) hs
theorem getMeth_D {pl : Sem Bool} {Q : Value × List Value → Shared → Prop} (N : News h₀ L s.heap news) (hm : (d, o) ∈ news) (hd : o.IsDictOf (strKind prog w) kvs) (h : Q (.builtin "dict.get", [.ref d]) s) :
    wpAny (model prog w) A (getMethod (.ref d) (PySem.Str.ofString "get") pl) Q E s :=
  have D : s.heap.DictOf (strKind prog w) d kvs := Heap.dictOf_iff.mpr ⟨o, (N _ hm).1, hd⟩
  getMethod_builtin D.typeIs F.plainAttrs_dict F.slot_dict_get F.type_dict_get D.mapOf.noDict h
theorem get_D {dflt : Value} {Q : Value → Shared → Prop} (N : News h₀ L s.heap news) (hm : (d, o) ∈ news) (hd : o.IsDictOf (strKind prog w) kvs) (hs : (d == sysModules) = false)
    (h : Q ((valueAt kvs k).getD dflt) { s with toks := s.toks + 1 }) : wpAny (model prog w) A (call (.builtin "dict.get") [.ref d, .str k t, dflt]) Q E s := by
  have D : s.heap.DictOf (strKind prog w) d kvs := Heap.dictOf_iff.mpr ⟨o, (N _ hm).1, hd⟩
  exact call_meetsIn F.slot_dict_get D.typeIs F.entry_dict_get (F.args_dict_get_3 _ _ _) (meets_dict_get_default (strKind prog w) d (strKind_is prog w k t) hs dflt) ⟨_, D.mapOf, h⟩
end
section
variable {prog : Program} {w : World} {A : Around} {s : Shared} {h₀ : Heap} {m : PySem.Str → Option Value} {news : List (Addr × Obj)} {env : Env} {x : PySem.Str} {px : Pos} {body : List Stmt} {I d : Addr} {kvs : List (PySem.Str × Value)} {o od : Obj}
def KiObj (d : Addr) (i n ep : Nat) (o : Obj) : Prop := o.cls = .type "dict_keyiterator" ∧ o.data = .fields #[.ref d, .int i 0, .int n 0, .int ep 0]
theorem iterKeys {E : Value → Shared → Prop} {L : Addr} {Q : Value → Shared → Prop} (F : Fr h₀ L s.heap m) (N : News h₀ L s.heap news) (hm : (d, od) ∈ news) (hd : od.IsDictOf (strKind prog w) kvs) (hs : (d == sysModules) = false)
    (h : ∀ I o h' ep es, od.data = .dict es ep → KiObj d 0 kvs.length ep o → Fr h₀ L h' m → News h₀ L h' ((I, o) :: news) → (∀ p ∈ news, p.1 < I) → Q (.ref I) { s with heap := h' }) : wpAny (model prog w) A (pyIter (.ref d)) Q E s := by
  obtain ⟨es, ep, h1, h2, h3⟩ := hd
  exact wpAny_pyIter_dict (knd := strKind prog w) (kvs := kvs) (ep := ep) hs ⟨od, es, (N _ hm).1, h1, h2, h3⟩ (h _ _ _ ep es h2 ⟨rfl, rfl⟩ (F.push _) (N.push F _) (fun p hp => Heap.lt_size (N p hp).1))
theorem S_forKeys {R : Flow → Shared → Prop} {ep : Nat} {es : Array DictEntry} (J : Nat → (PySem.Str → Option Value) → List (Addr × Obj) → Prop) (hh : A.handled = none) (hx : env.kindOf x = some .local)
    (hp : (env.scope.kind == .class || (env.scope.kind == .module && env.locals != env.globals)) = false)
    (F : Fr h₀ env.locals s.heap m) (N : News h₀ env.locals s.heap ((I, o) :: news)) (hd : od.IsDictOf (strKind prog w) kvs) (hep : od.data = .dict es ep) (ho : KiObj d 0 kvs.length ep o) (h0 : J 0 m news) (hoff : ∀ i m₁ news₁, J i m₁ news₁ → Off I news₁ ∧ (d, od) ∈ news₁)
    (turn : ∀ i k v t m₁ news₁ h tk o, kvs[i]? = some (k, v) → J i m₁ news₁ → Fr h₀ env.locals h (fun y => if y = x then some (.str k t) else m₁ y) → News h₀ env.locals h ((I, o) :: news₁) →
      wpS (model prog w) A (execs body env) (fun f s₃ => f = .next ∧ ∃ h' tk' m' news', s₃ = { s with heap := h', toks := tk' } ∧ Fr h₀ env.locals h' m' ∧ News h₀ env.locals h' ((I, o) :: news') ∧ J (i + 1) m' news') { s with heap := h, toks := tk })
    (done : ∀ m₁ news₁ h tk, J kvs.length m₁ news₁ → Fr h₀ env.locals h m₁ → News h₀ env.locals h news₁ → R .next { s with heap := h, toks := tk }) :
    codeS (model prog w) A (.forLoop (.Name x px) (.ref I) body [] env) R s := by
  obtain ⟨es', ep', q1, q2, q3⟩ := id hd
  rw [hep] at q2
  cases q2
  have DA : ∀ {h' : Heap} {L : Addr} {nw : List (Addr × Obj)}, News h₀ L h' nw → (d, od) ∈ nw → h'.DictAt (strKind prog w) d kvs ep := fun N' hm => ⟨od, es, (N' _ hm).1, q1, hep, q3⟩
  refine codeS_for (fun k s' => ∃ h' tk' m' news' i o, s' = { s with heap := h', toks := tk' } ∧ Fr h₀ env.locals h' m' ∧ News h₀ env.locals h' ((I, o) :: news') ∧ KiObj d i kvs.length ep o ∧ J i m' news' ∧ i ≤ kvs.length ∧ k = kvs.length + 1 - i) ?_ (kvs.length + 1)
    ⟨s.heap, s.toks, m, news, 0, o, rfl, F, N, ho, h0, Nat.zero_le _, rfl⟩
  rintro k s' ⟨h', tk', m', news', i, o', rfl, F', N', ho', hJ, hi, rfl⟩
  obtain ⟨hof, hmem⟩ := hoff _ _ _ hJ
  have hit : h'.IsKeyIter I d i kvs.length ep := ⟨o', (N' _ (.head _)).1, ho'.1, ho'.2⟩
  have hdict := DA N' (.tail _ hmem)
  by_cases hlt : i < kvs.length
  · refine wpAny_pyNext_dict_item hit hdict (k := kvs[i].1) (v := kvs[i].2) (by simp [hlt]) fun key h₁ hkey hit₁ hs₁ => ?_
    obtain ⟨t, rfl⟩ := Value.isStrOf_shape hkey
    obtain ⟨o₁, hg, hc, hdd⟩ := hit₁
    obtain ⟨F1, N1⟩ := upd_head F' N' hof.off hs₁ hg
    refine wpAny_assign_Name (wpAny_storeName_local hx F1.ns (fun h₂ hn₂ hs₂ => ?_) hp)
    refine wpS_mono (turn i kvs[i].1 kvs[i].2 t m' news' h₂ _ o₁ (by simp [hlt]) hJ (F1.set hn₂ hs₂) (N1.set hs₂)) ?_
    rintro f s₃ ⟨rfl, h₃, tk₃, m₃, news₃, rfl, F3, N3, hJ3⟩
    exact ⟨kvs.length + 1 - (i + 1), by (first | lia | omega), h₃, tk₃, m₃, news₃, i + 1, o₁, rfl, F3, N3, ⟨hc, by push_cast at hdd ⊢; exact hdd⟩, hJ3, hlt, rfl⟩
  · have hin : i = kvs.length := by (first | lia | omega)
    subst hin
    refine wpAny_pyNext_dict_end hh hit hdict (by simp) fun h₁ he₁ => S_nil ?_
    obtain ⟨F1, N1⟩ := upd_ext F' N' hof.off he₁
    exact done m' news' h₁ tk' hJ F1 N1
end
abbrev KS (w : World) := strKind PySem.Challenge.rw_jr0034_01.row.prog w
def metaKV : Option (Int × Tok × Value) → List (PySem.Str × Value)
  | none => []
  | some (tm, ti, vv) => [(PySem.Str.ofString "currentTerm", .int tm ti), (PySem.Str.ofString "votedForNodeId", vv)]
theorem stored_meta1 (y : Option (Int × Tok × Value)) (tm : Int) (ti : Tok) (vv : Value) : stored (stored (metaKV y) (PySem.Str.ofString "currentTerm") (.int tm ti)) (PySem.Str.ofString "votedForNodeId") vv = metaKV (some (tm, ti, vv)) := by
  cases y with
  | none => rfl
  | some p => obtain ⟨a, b, c⟩ := p; rfl
theorem metaKV_len (y : Option (Int × Tok × Value)) : (metaKV y).length ≤ 2 := by
  cases y with
  | none => exact Nat.zero_le _
  | some p => exact Nat.le_refl 2
theorem stored_len (l : List (PySem.Str × Value)) (k : PySem.Str) (v : Value) : (stored l k v).length ≤ l.length + 1 := by
  unfold stored
  split
  · rw [List.length_map]; (first | lia | omega)
  · rw [List.length_append]; exact Nat.le_refl _
section
variable {w : World} {A : Around} {s : Shared} {h₀ : Heap} {L : Addr} {m : PySem.Str → Option Value} {news : List (Addr × Obj)} {n : Nat}
  {name qual : PySem.Str} {params : Arguments} {body : List Stmt} {scope : Scope} {dV kV doc pm cdv ct oc : Value} {an od : Option Addr} {osl : Array (Option Value)} {f : Addr} {args : Args} {binds : List (PySem.Str × Value)}
theorem enterT {Q : Value → Shared → Prop} (S : Site w A h₀ L (n + 1)) (F : Fr h₀ L s.heap m) (N : News h₀ L s.heap news)
    (ho : (hd.heap_1 w.params).lookup f = some ⟨oc, od, .func (fnOf name qual params body scope dV kV doc pm an cdv ct), osl⟩) (hcd : codeIn (hd.heap_1 w.params) cdv qual = true)
    (hbind : BindsTo s (fnOf name qual params body scope dV kV doc pm an cdv ct) args binds) (hloc : ∀ y ∈ binds, scope.names.lookup y.1 = some .local)
    (h : ∀ g L' h₁, Fr g L' h₁ (fun y => binds.reverse.lookup y) → News g L' h₁ news → Site w (A.deeper (envOf qual scope L' f cdv)) g L' n → (∀ p ∈ news, p.1 < L') →
      wpS (model PySem.Challenge.rw_jr0034_01.row.prog w) (A.deeper (envOf qual scope L' f cdv)) (execs body (envOf qual scope L' f cdv))
        (fun fl s' => LeaveN g L' h₀ L m Q (match fl with | .ret v => v | _ => .none) s')
        { s with heap := h₁, toks := s.toks + binds.length })
    (hco : scope.isCoroutine = false) (hgen : scope.isGenerator = false) (hk : scope.kind = .function)
    (hcell : ∀ x ∈ scope.names, x.2 ≠ .cell) : codeS (model PySem.Challenge.rw_jr0034_01.row.prog w) A (.call (.ref f) args) (fun f s' => ∃ v, f = .ret v ∧ Q v s') s :=
  enterS S F N ho hcd hbind hloc h hco hgen hk hcell
end
section
variable {prog : Program} {w : World} {A : Around} {E : Value → Shared → Prop} {s : Shared} {h₀ : Heap} {L l : Addr} {m : PySem.Str → Option Value} {news : List (Addr × Obj)} {its : Array Value} {nl : Nat} {k : Int} {t : Tok} {v : Value}
theorem item_v {value slice : PySem.Expr} {Q : Value → Shared → Prop} (N : News h₀ L s.heap news) (hm : (l, listOf its nl) ∈ news) (h0 : 0 ≤ k) (hz : its.size ≤ 100000) (hv : its[k.toNat]? = some v) (h : Q v s)
    (hs : subscripted slice false (.ref l) (.int k t) = operate [.ref l, .int k t] (getItem (.ref l) (.int k t)) := by with_unfolding_all rfl) : wpAny (model prog w) A (subscriptTail value slice (.ref l) (.int k t)) Q E s := by
  have hl : s.heap.IsList l its := ⟨_, (N _ hm).1, rfl, _, rfl⟩
  have hlt : k.toNat < its.size := by
    rcases Nat.lt_or_ge k.toNat its.size with q | q
    · exact q
    · rw [Array.getElem?_eq_none q] at hv; cases hv
  exact tail_any hl.typeIs slot_list_getitem.lookup (wpAny_getItem_list hl h0 (by (first | lia | omega)) hv h) hs
end
theorem Off.of_lt2 {a b : Addr} {r : List (Addr × Obj)} (h : ∀ p ∈ r, p.1 < a) (k : a < b) : Off b r := ⟨fun p hp => Nat.ne_of_lt (Nat.lt_trans (h p hp) k)⟩
theorem told_take_lt {rs : List Rw} {j : Nat} (h : j < rs.length) : (told (rs.take j)).length < (told rs).length := by
  obtain ⟨r, h1, _, _⟩ := split_at rs h
  have := told_take_le rs (j + 1)
  rw [h1, told_append, told_one, List.length_append, recL_length] at this
  (first | lia | omega)
end
/- part C12 -/
section
variable {w : World} {A : Around} {s : Shared} {h₀ : Heap} {L : Addr} {m : PySem.Str → Option Value} {rest : List (Addr × Obj)} {n : Nat}
set_option pp.deepTerms false in
set_option pp.maxSteps 4000 in
theorem storeMeta_S {ms dms mt md : Addr} {k1 ti : Tok} {tm : Int} {vv : Value} {y : Option (Int × Tok × Value)} {ot od : Obj} {Q : Value → Shared → Prop} (S : Site w A h₀ L (n + 1)) (F : Fr h₀ L s.heap m)
    (N : News h₀ L s.heap ((mt, ot) :: (ms, instObj 324 dms) :: (dms, dictOf [ent w "_MetaStorer__path" k1 (.ref mt)] 1) :: (md, od) :: rest))
    (nd : Nd ((mt, ot) :: (ms, instObj 324 dms) :: (dms, dictOf [ent w "_MetaStorer__path" k1 (.ref mt)] 1) :: (md, od) :: rest)) (ht : ot.IsDictOf (KS w) (metaKV y)) (hd : od.IsDictOf (KS w) (metaKV (some (tm, ti, vv)))) (hsm : (md == sysModules) = false)
    (h : ∀ h' tk ot', ot'.IsDictOf (KS w) (metaKV (some (tm, ti, vv))) → Fr h₀ L h' m → News h₀ L h' ((mt, ot') :: (ms, instObj 324 dms) :: (dms, dictOf [ent w "_MetaStorer__path" k1 (.ref mt)] 1) :: (md, od) :: rest) → Q .none { s with heap := h', toks := tk }) :
    wpS (model PySem.Challenge.rw_jr0034_01.row.prog w) A (call (.ref 314) [.ref ms, .ref md]) Q s := by
  refine' wpS_call (enterS (binds := [(PySem.Str.ofString "self", .ref ms), (PySem.Str.ofString "meta", .ref md)]) S F N ?ho ?hcd ?hb ?hl ?_ ?c1 ?c2 ?c3 ?c4)
  case ho => k_is
  case hcd => k_is
  case hb => exact BindsTo.of_eq rfl
  case hl => exact locs rfl
  case c1 => exact rfl
  case c2 => exact rfl
  case c3 => exact rfl
  case c4 => decide
  intro g L' h₁ F' N' S' l
  refine Site.use S' fun A₀ base outer env mean mg mb B hA hf hke X T room units calm => ?_
  refine wpS_abs fun Q9 hQ9 => ?_
  walk_at "my nd"
  refine S_cons (S_For (wpS_of ?_))
  walk_at "my steps"
  rename Fr g _ _ _ => F6
  rename News g _ _ _ => N6
  refine' iterKeys F6 N6 (d := md) ?m1 hd hsm fun I o h6 ep es hes ho F7 N7 l7 => ?_
  case m1 => k_mem
  k_lt l7
  walk_at "my lt"
  clear F6 N6
  refine S_forKeys (d := md) (od := od) (kvs := metaKV (some (tm, ti, vv))) (fun i m₁ news₁ => (∃ z, m₁ = fun y => if y = PySem.Str.ofString "key" then z else List.lookup y [(PySem.Str.ofString "meta", .ref md), (PySem.Str.ofString "self", .ref ms)]) ∧
    ∃ ot', ot'.IsDictOf (KS w) (((metaKV (some (tm, ti, vv))).take i).foldl (fun l p => stored l p.1 p.2) (metaKV y)) ∧ news₁ = ((mt, ot') :: (ms, instObj 324 dms) :: (dms, dictOf [ent w "_MetaStorer__path" k1 (.ref mt)] 1) :: (md, od) :: rest)) calm rfl rfl F7 N7 hd hes ho ?_ ?_ ?_ ?_
  · exact ⟨⟨none, if_first rfl⟩, ot, ht, rfl⟩
  · rintro i m₁ news₁ ⟨_, ot', _, rfl⟩
    exact ⟨by walk_at "my off", by simp⟩
  · rintro i k v t m₁ news₁ h7 tk7 o7 hv ⟨⟨z, rfl⟩, ot', hot, rfl⟩ F8 N8
    clear F7 N7
    replace F8 := Fr_twice F8
    rcases i with _ | _ | i
    all_goals first | (cases hv; done) | skip
    · obtain ⟨rfl, rfl⟩ : k = PySem.Str.ofString "currentTerm" ∧ v = .int tm ti := by
        cases hv
        exact ⟨rfl, rfl⟩
      refine S_clean ?_
      walk_at "my steps"
      rename Fr g _ _ _ => F9
      rename News g _ _ _ => N9
      refine' setItem_D (o := ot') (rest := (I, o7) :: (ms, instObj 324 dms) :: (dms, dictOf [ent w "_MetaStorer__path" k1 (.ref mt)] 1) :: (md, od) :: rest) F9 ?perm ?off hot ?len ?_
      case perm => walk_at "my perm"
      case off => walk_at "my off"
      case len => exact Nat.le_trans (by first | exact metaKV_len y | exact Nat.le_trans (stored_len _ _ _) (Nat.succ_le_succ (metaKV_len y))) (by decide)
      intro h10 o10 F10 N10 hd10
      refine S_nil ⟨rfl, h10, _, _, (mt, o10) :: (ms, instObj 324 dms) :: (dms, dictOf [ent w "_MetaStorer__path" k1 (.ref mt)] 1) :: (md, od) :: rest, rfl, F10, ?_, ⟨_, rfl⟩, o10, hd10, rfl⟩
      walk_at "my perm"
    · obtain ⟨rfl, rfl⟩ : k = PySem.Str.ofString "votedForNodeId" ∧ vv = v := by
        cases hv
        exact ⟨rfl, rfl⟩
      refine S_clean ?_
      walk_at "my steps"
      rename Fr g _ _ _ => F9
      rename News g _ _ _ => N9
      refine' setItem_D (o := ot') (rest := (I, o7) :: (ms, instObj 324 dms) :: (dms, dictOf [ent w "_MetaStorer__path" k1 (.ref mt)] 1) :: (md, od) :: rest) F9 ?perm ?off hot ?len ?_
      case perm => walk_at "my perm"
      case off => walk_at "my off"
      case len => exact Nat.le_trans (by first | exact metaKV_len y | exact Nat.le_trans (stored_len _ _ _) (Nat.succ_le_succ (metaKV_len y))) (by decide)
      intro h10 o10 F10 N10 hd10
      refine S_nil ⟨rfl, h10, _, _, (mt, o10) :: (ms, instObj 324 dms) :: (dms, dictOf [ent w "_MetaStorer__path" k1 (.ref mt)] 1) :: (md, od) :: rest, rfl, F10, ?_, ⟨_, rfl⟩, o10, hd10, rfl⟩
      walk_at "my perm"
  · rintro m₁ news₁ h7 tk7 ⟨_, ot', hot, rfl⟩ F8 N8
    refine S_nil (hQ9 _ _ ⟨_, _, F8, N8, fun F9 N9 => h _ _ ot' ?_ F9 N9⟩)
    rw [← stored_meta1 y]
    exact hot
end
/- part C13 -/
section
variable {w : World} {A : Around} {s : Shared} {h₀ : Heap} {L : Addr} {m : PySem.Str → Option Value} {rest : List (Addr × Obj)} {n : Nat}
set_option pp.deepTerms false in
set_option pp.maxSteps 4000 in
theorem getMeta_S {ms dms mt : Addr} {k1 : Tok} {y : Option (Int × Tok × Value)} {ot : Obj} {Q : Value → Shared → Prop} (S : Site w A h₀ L (n + 1)) (F : Fr h₀ L s.heap m)
    (N : News h₀ L s.heap ((ms, instObj 324 dms) :: (dms, dictOf [ent w "_MetaStorer__path" k1 (.ref mt)] 1) :: (mt, ot) :: rest))
    (ht : ot.IsDictOf (KS w) (metaKV y)) (hsm : (mt == sysModules) = false)
    (h : ∀ h' tk md od, od.IsDictOf (KS w) (metaKV y) → (md == sysModules) = false → Fr h₀ L h' m → News h₀ L h' ((md, od) :: (ms, instObj 324 dms) :: (dms, dictOf [ent w "_MetaStorer__path" k1 (.ref mt)] 1) :: (mt, ot) :: rest) → Off md ((ms, instObj 324 dms) :: (dms, dictOf [ent w "_MetaStorer__path" k1 (.ref mt)] 1) :: (mt, ot) :: rest) → Q (.ref md) { s with heap := h', toks := tk }) :
    wpS (model PySem.Challenge.rw_jr0034_01.row.prog w) A (call (.ref 307) [.ref ms]) Q s := by
  refine' wpS_call (enterT (binds := [(PySem.Str.ofString "self", .ref ms)]) S F N ?ho ?hcd ?hb ?hl ?_ ?c1 ?c2 ?c3 ?c4)
  case ho => k_is
  case hcd => k_is
  case hb => exact BindsTo.of_eq rfl
  case hl => exact locs rfl
  case c1 => exact rfl
  case c2 => exact rfl
  case c3 => exact rfl
  case c4 => decide
  intro g L' h₁ F' N' S' l
  refine Site.use S' fun A₀ base outer env mean mg mb B hA hf hke X T room units calm => ?_
  refine S_clean ?_
  walk_at "my steps"
  rename_i md hx1 od0 lo hs1 fs1 hi1 fi1 l1 hx2 F2 N2
  have omd : Off md ((ms, instObj 324 dms) :: (dms, dictOf [ent w "_MetaStorer__path" k1 (.ref mt)] 1) :: (mt, ot) :: rest) := by
    walk_at "my lt"
    walk_at "my off"
  walk_at "my lt"
  clear hi1 fi1 fs1
  refine S_cons (S_For (wpS_of ?_))
  walk_at "my steps"
  rename Fr g _ _ _ => F6
  rename News g _ _ _ => N6
  refine' iterKeys F6 N6 (d := mt) (od := ot) ?m1 ht hsm fun I o h6 ep es hes ho F7 N7 l7 => ?_
  case m1 => k_mem
  k_lt l7
  walk_at "my lt"
  clear F6 N6
  refine S_forKeys (d := mt) (od := ot) (kvs := metaKV y) (fun i m₁ news₁ => (∃ z, m₁ = fun q => if q = PySem.Str.ofString "key" then z else if q = PySem.Str.ofString "meta" then some (.ref md) else List.lookup q [(PySem.Str.ofString "self", .ref ms)]) ∧
    ∃ od', od'.IsDictOf (KS w) (((metaKV y).take i).foldl (fun l p => stored l p.1 p.2) []) ∧ news₁ = ((md, od') :: (ms, instObj 324 dms) :: (dms, dictOf [ent w "_MetaStorer__path" k1 (.ref mt)] 1) :: (mt, ot) :: rest)) calm rfl rfl F7 N7 ht hes ho ?_ ?_ ?_ ?_
  · exact ⟨⟨none, if_first rfl⟩, od0, hs1, rfl⟩
  · rintro i m₁ news₁ ⟨_, od', _, rfl⟩
    exact ⟨by walk_at "my off", by simp⟩
  · rintro i k v t m₁ news₁ h7 tk7 o7 hv ⟨⟨z, rfl⟩, od', hod, rfl⟩ F8 N8
    clear F7 N7
    replace F8 := Fr_twice F8
    rcases y with _ | ⟨tm, ti, vv⟩
    · cases hv
    · rcases i with _ | _ | i
      all_goals first | (cases hv; done) | skip
      · obtain ⟨rfl, rfl⟩ : k = PySem.Str.ofString "currentTerm" ∧ v = .int tm ti := by
          cases hv
          exact ⟨rfl, rfl⟩
        refine S_clean ?_
        walk_at "my steps"
        rename Fr g _ _ _ => F9
        rename News g _ _ _ => N9
        rename_i h10 o10 hd10
        refine S_nil ⟨rfl, h10, _, _, (md, o10) :: (ms, instObj 324 dms) :: (dms, dictOf [ent w "_MetaStorer__path" k1 (.ref mt)] 1) :: (mt, ot) :: rest, rfl, F9, ?_, ⟨_, rfl⟩, o10, hd10, rfl⟩
        walk_at "my perm"
      · obtain ⟨rfl, rfl⟩ : k = PySem.Str.ofString "votedForNodeId" ∧ v = vv := by
          cases hv
          exact ⟨rfl, rfl⟩
        refine S_clean ?_
        walk_at "my steps"
        rename Fr g _ _ _ => F9
        rename News g _ _ _ => N9
        rename_i h10 o10 hd10
        refine S_nil ⟨rfl, h10, _, _, (md, o10) :: (ms, instObj 324 dms) :: (dms, dictOf [ent w "_MetaStorer__path" k1 (.ref mt)] 1) :: (mt, ot) :: rest, rfl, F9, ?_, ⟨_, rfl⟩, o10, hd10, rfl⟩
        walk_at "my perm"
  · rintro m₁ news₁ h7 tk7 ⟨⟨z, rfl⟩, od', hod, rfl⟩ F8 N8
    refine S_clean ?_
    walk_at "my steps"
    rename Fr g _ _ _ => F8
    rename News g _ _ _ => N8
    refine LeaveN.mk F8 N8 fun F9 N9 => h _ _ md od' ?_ lo F9 N9 omd
    have e : (List.take (metaKV y).length (metaKV y)).foldl (fun l p => stored l p.1 p.2) [] = metaKV y := by
      rcases y with _ | ⟨tm, ti, vv⟩ <;> rfl
    rw [← e]
    exact hod
end
/- part C14 -/
section
variable {w : World} {A : Around} {s : Shared} {h₀ : Heap} {L : Addr} {m : PySem.Str → Option Value} {rest : List (Addr × Obj)} {n : Nat}
set_option pp.deepTerms false in
set_option pp.maxSteps 4000 in
theorem msmake_S {mt : Addr} {Q : Value → Shared → Prop} (S : Site w A h₀ L (n + 3)) (F : Fr h₀ L s.heap m) (N : News h₀ L s.heap rest)
    (h : ∀ h' tk ms dms k0, Fr h₀ L h' m → News h₀ L h' ((ms, instObj 324 dms) :: (dms, dictOf [ent w "_MetaStorer__path" k0 (.ref mt)] 1) :: rest) → (∀ p ∈ rest, p.1 < dms) → dms < ms → Q (.ref ms) { s with heap := h', toks := tk }) :
    wpS (model PySem.Challenge.rw_jr0034_01.row.prog w) A (call (.ref 324) [.ref mt]) Q s := by
  refine Site.use S fun A₁ base₁ outer₁ env₁ mean₁ mg₁ mb₁ B₁ hA₁ hf₁ hke₁ X₁ T₁ _ _ _ => ?_
  refine' wpS_call (codeS_make (fI := 300) F N X₁ ?m1 ?m2 ?m3 fun ms dms h1 F1 N1 l1 l2 => ?_)
  case m1 => k_is
  case m2 => k_is
  case m3 => k_is
  refine codeS_mono (R := fun f s' => ∃ v, f = .ret v ∧ (v = .none ∧ Q (.ref ms) s')) ?_ (by rintro f s' ⟨v, rfl, rfl, h⟩; exact ⟨rfl, _, rfl, h⟩)
  refine' enterS (Q := fun v s' => v = .none ∧ Q (.ref ms) s') (binds := [(PySem.Str.ofString "self", .ref ms), (PySem.Str.ofString "path", .ref mt)]) (n := n + 1) S.make F1 N1 ?ho ?hcd ?hb ?hl ?_ ?c1 ?c2 ?c3 ?c4
  case ho => k_is
  case hcd => k_is
  case hb => exact BindsTo.of_eq rfl
  case hl => exact locs rfl
  case c1 => exact rfl
  case c2 => exact rfl
  case c3 => exact rfl
  case c4 => decide
  intro g L' h₁ F' N' S' l
  refine Site.use S' fun A₀ base outer env mean mg mb B hA hf hke X T room units calm => ?_
  refine wpS_abs fun Q9 hQ9 => ?_
  have a2 : Apart dms ms := ⟨Nat.ne_of_lt l2⟩
  have a4 : Off dms rest := ⟨fun p hp => Nat.ne_of_lt (l1 p hp)⟩
  refine S_clean ?_
  walk_at "my steps"
  rename Fr g _ _ _ => F4
  rename News g _ _ _ => N4
  exact S_nil (hQ9 _ _ ⟨_, _, F4, N4, fun F6 N6 => ⟨rfl, h _ _ _ _ _ F6 N6 l1 l2⟩⟩)
end
section
variable {w : World} {A : Around} {s : Shared} {h₀ : Heap} {L : Addr} {m : PySem.Str → Option Value} {rest : List (Addr × Obj)} {n : Nat}
set_option pp.deepTerms false in
set_option pp.maxSteps 4000 in
theorem setTerm_S {fj dfj rf drf mm lj ms md : Addr} {t1 t2 t3 k1 k2 k3 k4 k5 k6 tc : Tok} {b : Array UInt8} {cur : Int} {dms mt : Addr} {k0 ti tt : Tok} {tm : Int} {vv : Value} {y : Option (Int × Tok × Value)} {ot od : Obj} {Q : Value → Shared → Prop} (S : Site w A h₀ L (n + 3)) (F : Fr h₀ L s.heap m)
    (N : News h₀ L s.heap ((fj, instObj 464 dfj) :: (dfj, fj6 w k1 k2 k3 k4 k5 k6 rf lj ms md cur tc) :: (ms, instObj 324 dms) :: (dms, dictOf [ent w "_MetaStorer__path" k0 (.ref mt)] 1) :: (mt, ot) :: (md, od) :: rest))
    (nd : Nd ((fj, instObj 464 dfj) :: (dfj, fj6 w k1 k2 k3 k4 k5 k6 rf lj ms md cur tc) :: (ms, instObj 324 dms) :: (dms, dictOf [ent w "_MetaStorer__path" k0 (.ref mt)] 1) :: (mt, ot) :: (md, od) :: rest))
    (ht : ot.IsDictOf (KS w) (metaKV y)) (hdd : od.IsDictOf (KS w) (metaKV y)) (hsm : (md == sysModules) = false) (hvv : vv = .none ∨ ∃ q t, vv = .str q t)
    (h : ∀ h' tk ot' od', ot'.IsDictOf (KS w) (metaKV (some (tm, ti, vv))) → od'.IsDictOf (KS w) (metaKV (some (tm, ti, vv))) → Fr h₀ L h' m →
      News h₀ L h' ((fj, instObj 464 dfj) :: (dfj, fj6 w k1 k2 k3 k4 k5 k6 rf lj ms md cur tc) :: (ms, instObj 324 dms) :: (dms, dictOf [ent w "_MetaStorer__path" k0 (.ref mt)] 1) :: (mt, ot') :: (md, od') :: rest) → Q .none { s with heap := h', toks := tk }) :
    wpS (model PySem.Challenge.rw_jr0034_01.row.prog w) A (call (.ref 440) [.ref fj, .int tm ti, vv]) Q s := by
  refine' wpS_call (enterS (binds := [(PySem.Str.ofString "self", .ref fj), (PySem.Str.ofString "term", .int tm ti), (PySem.Str.ofString "votedForNodeId", vv)]) S F N ?ho ?hcd ?hb ?hl ?_ ?c1 ?c2 ?c3 ?c4)
  case ho => k_is
  case hcd => k_is
  case hb => exact BindsTo.of_eq rfl
  case hl => exact locs rfl
  case c1 => exact rfl
  case c2 => exact rfl
  case c3 => exact rfl
  case c4 => decide
  intro g L' h₁ F' N' S' l
  refine Site.use S' fun A₀ base outer env mean mg mb B hA hf hke X T room units calm => ?_
  refine wpS_abs fun Q9 hQ9 => ?_
  have nd0 : Nd ([(fj, instObj 464 dfj)] ++ (dfj, fj6 w k1 k2 k3 k4 k5 k6 rf lj ms md cur tc) :: (ms, instObj 324 dms) :: (dms, dictOf [ent w "_MetaStorer__path" k0 (.ref mt)] 1) :: (mt, ot) :: (md, od) :: rest) := nd
  walk_at "my nd"
  refine S_clean ?_
  walk_at "my steps"
  rename Fr g _ _ _ => F2
  rename News g _ _ _ => N2
  refine' setItem_D (s := ⟨_, _, _, _, _⟩) (o := od) (rest := (fj, instObj 464 dfj) :: (dfj, fj6 w k1 k2 k3 k4 k5 k6 rf lj ms md cur tc) :: (ms, instObj 324 dms) :: (dms, dictOf [ent w "_MetaStorer__path" k0 (.ref mt)] 1) :: (mt, ot) :: rest) F2 ?perm ?off hdd ?len ?_
  case perm => walk_at "my perm"
  case off => walk_at "my off"
  case len => exact Nat.le_trans (metaKV_len y) (by decide)
  intro h3 od3 F3 N3 hd3
  refine S_clean ?_
  walk_at "my steps"
  rename Fr g _ _ _ => F4
  rename News g _ _ _ => N4
  refine' setItem_D (s := ⟨_, _, _, _, _⟩) (o := od3) (rest := (fj, instObj 464 dfj) :: (dfj, fj6 w k1 k2 k3 k4 k5 k6 rf lj ms md cur tc) :: (ms, instObj 324 dms) :: (dms, dictOf [ent w "_MetaStorer__path" k0 (.ref mt)] 1) :: (mt, ot) :: rest) F4 ?perm ?off hd3 ?len ?_
  case perm => walk_at "my perm"
  case off => walk_at "my off"
  case len => exact Nat.le_trans (stored_len _ _ _) (Nat.le_trans (Nat.succ_le_succ (metaKV_len y)) (by decide))
  intro h5 od5 F5 N5 hd5
  rw [stored_meta1] at hd5
  refine S_cons (S_Expr (S_method ?_))
  walk_at "my steps"
  refine S_callWith (K := hd.heap_1 w.params) ?kp (wpS_of ?_)
  case kp => k_is
  walk_at "my steps"
  rename Fr g _ _ _ => F6
  rename News g _ _ _ => N6
  have nd1 : Nd ((mt, ot) :: (ms, instObj 324 dms) :: (dms, dictOf [ent w "_MetaStorer__path" k0 (.ref mt)] 1) :: (md, od5) :: (fj, instObj 464 dfj) :: (dfj, fj6 w k1 k2 k3 k4 k5 k6 rf lj ms md cur tc) :: rest) := by
    refine Nd.join ?_ (Nd.join ?_ (Nd.join ?_ (Nd.join ?_ (Nd.join ?_ (Nd.join ?_ (by assumption))))))
    all_goals walk_at "my off"
  refine' storeMeta_S (n := n + 1) (k1 := k0) (ot := ot) (od := od5) (ti := ti) (tm := tm) (vv := vv) (y := y) (rest := (fj, instObj 464 dfj) :: (dfj, fj6 w k1 k2 k3 k4 k5 k6 rf lj ms md cur tc) :: rest) (S'.less (by walk_at "my less")) F6 ?perm nd1 ht hd5 hsm ?_
  case perm => walk_at "my perm"
  intro h7 tk7 ot7 ht7 F7 N7
  refine S_clean ?_
  walk_at "my steps"
  rename Fr g _ _ _ => F8
  rename News g _ _ _ => N8
  refine S_nil (hQ9 _ _ ⟨_, _, F8, N8, fun F9 N9 => ?_⟩)
  refine' h _ _ ot7 od5 ht7 hd5 F9 ?_
  walk_at "my perm"
end
/- part C15 -/
section
variable {w : World} {A : Around} {s : Shared} {h₀ : Heap} {L : Addr} {m : PySem.Str → Option Value} {rest : List (Addr × Obj)} {n : Nat}
set_option pp.deepTerms false in
set_option pp.maxSteps 4000 in
theorem fjTerm_A {news : List (Addr × Obj)} {fj dfj rf lj ms md : Addr} {k1 k2 k3 k4 k5 k6 tc : Tok} {cur : Int} {E : Value → Shared → Prop} {Q : Value → Shared → Prop} {od : Obj} {y : Option (Int × Tok × Value)} (S : Site w A h₀ L (n + 1)) (F : Fr h₀ L s.heap m) (N : News h₀ L s.heap news) (m1 : (fj, instObj 464 dfj) ∈ news) (m2 : (dfj, fj6 w k1 k2 k3 k4 k5 k6 rf lj ms md cur tc) ∈ news) (m3 : (md, od) ∈ news) (hdd : od.IsDictOf (KS w) (metaKV y)) (hsm : (md == sysModules) = false)
    (h : ∀ h' tk, Fr h₀ L h' m → News h₀ L h' news → ∀ t, Q (.int (match y with | none => 0 | some p => p.1) t) { s with heap := h', toks := tk }) :
    wpAny (model PySem.Challenge.rw_jr0034_01.row.prog w) A (call (.ref 447) [.ref fj]) Q E s := by
  have back : ∀ {h' : Heap}, News h₀ L h' ((fj, instObj 464 dfj) :: (dfj, fj6 w k1 k2 k3 k4 k5 k6 rf lj ms md cur tc) :: (md, od) :: news) → News h₀ L h' news := fun N1 p hp => N1 p (.tail _ (.tail _ (.tail _ hp)))
  replace N : News h₀ L s.heap ((fj, instObj 464 dfj) :: (dfj, fj6 w k1 k2 k3 k4 k5 k6 rf lj ms md cur tc) :: (md, od) :: news) := News_join ⟨N _ m1⟩ (News_join ⟨N _ m2⟩ (News_join ⟨N _ m3⟩ N))
  clear m1 m2 m3
  refine' wpAny_call (enterB (E := E) (binds := [(PySem.Str.ofString "self", .ref fj)]) S F N ?ho ?hcd ?hb ?hl ?_ ?c1 ?c2 ?c3 ?c4)
  case ho => k_is
  case hcd => k_is
  case hb => exact BindsTo.of_eq rfl
  case hl => exact locs rfl
  case c1 => exact rfl
  case c2 => exact rfl
  case c3 => exact rfl
  case c4 => decide
  intro g L' h₁ F' N' S' l
  refine Site.use S' fun A₀ base outer env mean mg mb B hA hf hke X T room units calm => ?_
  walk_at "my steps"
  rename News g _ _ _ => N2
  refine get_D (s := ⟨_, _, _, _, _⟩) N2 (.tail _ (.tail _ (.head _))) hdd hsm ?_
  rename Fr g _ _ _ => F3
  rename News g _ _ _ => N3
  refine LeaveN.mk F3 N3 fun F4 N4 => ?_
  rcases y with _ | ⟨a, b, c⟩
  · exact h _ _ F4 (back N4) _
  · exact h _ _ F4 (back N4) _
end
section
variable {w : World} {A : Around} {s : Shared} {h₀ : Heap} {L : Addr} {m : PySem.Str → Option Value} {rest : List (Addr × Obj)} {n : Nat}
set_option pp.deepTerms false in
set_option pp.maxSteps 4000 in
theorem fjVote_A {news : List (Addr × Obj)} {fj dfj rf lj ms md : Addr} {k1 k2 k3 k4 k5 k6 tc : Tok} {cur : Int} {E : Value → Shared → Prop} {Q : Value → Shared → Prop} {od : Obj} {y : Option (Int × Tok × Value)} (S : Site w A h₀ L (n + 1)) (F : Fr h₀ L s.heap m) (N : News h₀ L s.heap news) (m1 : (fj, instObj 464 dfj) ∈ news) (m2 : (dfj, fj6 w k1 k2 k3 k4 k5 k6 rf lj ms md cur tc) ∈ news) (m3 : (md, od) ∈ news) (hdd : od.IsDictOf (KS w) (metaKV y)) (hsm : (md == sysModules) = false)
    (h : ∀ h' tk, Fr h₀ L h' m → News h₀ L h' news → Q (match y with | none => .none | some p => p.2.2) { s with heap := h', toks := tk }) :
    wpAny (model PySem.Challenge.rw_jr0034_01.row.prog w) A (call (.ref 454) [.ref fj]) Q E s := by
  have back : ∀ {h' : Heap}, News h₀ L h' ((fj, instObj 464 dfj) :: (dfj, fj6 w k1 k2 k3 k4 k5 k6 rf lj ms md cur tc) :: (md, od) :: news) → News h₀ L h' news := fun N1 p hp => N1 p (.tail _ (.tail _ (.tail _ hp)))
  replace N : News h₀ L s.heap ((fj, instObj 464 dfj) :: (dfj, fj6 w k1 k2 k3 k4 k5 k6 rf lj ms md cur tc) :: (md, od) :: news) := News_join ⟨N _ m1⟩ (News_join ⟨N _ m2⟩ (News_join ⟨N _ m3⟩ N))
  clear m1 m2 m3
  refine' wpAny_call (enterB (E := E) (binds := [(PySem.Str.ofString "self", .ref fj)]) S F N ?ho ?hcd ?hb ?hl ?_ ?c1 ?c2 ?c3 ?c4)
  case ho => k_is
  case hcd => k_is
  case hb => exact BindsTo.of_eq rfl
  case hl => exact locs rfl
  case c1 => exact rfl
  case c2 => exact rfl
  case c3 => exact rfl
  case c4 => decide
  intro g L' h₁ F' N' S' l
  refine Site.use S' fun A₀ base outer env mean mg mb B hA hf hke X T room units calm => ?_
  walk_at "my steps"
  rename News g _ _ _ => N2
  refine get_D (s := ⟨_, _, _, _, _⟩) N2 (.tail _ (.tail _ (.head _))) hdd hsm ?_
  rename Fr g _ _ _ => F3
  rename News g _ _ _ => N3
  refine LeaveN.mk F3 N3 fun F4 N4 => ?_
  rcases y with _ | ⟨a, b, c⟩
  · exact h _ _ F4 (back N4)
  · exact h _ _ F4 (back N4)
end
section
variable {w : World} {A : Around} {s : Shared} {h₀ : Heap} {L : Addr} {m : PySem.Str → Option Value} {rest : List (Addr × Obj)} {n : Nat}
set_option pp.deepTerms false in
set_option pp.maxSteps 4000 in
theorem fjLen_A {news : List (Addr × Obj)} {fj dfj rf lj ms md : Addr} {k1 k2 k3 k4 k5 k6 tc : Tok} {cur : Int} {E : Value → Shared → Prop} {Q : Value → Shared → Prop} {vals : Array Value} {nl : Nat} (S : Site w A h₀ L (n + 1)) (F : Fr h₀ L s.heap m) (N : News h₀ L s.heap news) (m1 : (fj, instObj 464 dfj) ∈ news) (m2 : (dfj, fj6 w k1 k2 k3 k4 k5 k6 rf lj ms md cur tc) ∈ news) (m3 : (lj, listOf vals nl) ∈ news) (hz : vals.size ≤ 1000)
    (h : ∀ h' tk, Fr h₀ L h' m → News h₀ L h' news → ∀ t, Q (.int vals.size t) { s with heap := h', toks := tk }) :
    wpAny (model PySem.Challenge.rw_jr0034_01.row.prog w) A (call (.ref 398) [.ref fj]) Q E s := by
  have back : ∀ {h' : Heap}, News h₀ L h' ((fj, instObj 464 dfj) :: (dfj, fj6 w k1 k2 k3 k4 k5 k6 rf lj ms md cur tc) :: (lj, listOf vals nl) :: news) → News h₀ L h' news := fun N1 p hp => N1 p (.tail _ (.tail _ (.tail _ hp)))
  replace N : News h₀ L s.heap ((fj, instObj 464 dfj) :: (dfj, fj6 w k1 k2 k3 k4 k5 k6 rf lj ms md cur tc) :: (lj, listOf vals nl) :: news) := News_join ⟨N _ m1⟩ (News_join ⟨N _ m2⟩ (News_join ⟨N _ m3⟩ N))
  clear m1 m2 m3
  refine' wpAny_call (enterB (E := E) (binds := [(PySem.Str.ofString "self", .ref fj)]) S F N ?ho ?hcd ?hb ?hl ?_ ?c1 ?c2 ?c3 ?c4)
  case ho => k_is
  case hcd => k_is
  case hb => exact BindsTo.of_eq rfl
  case hl => exact locs rfl
  case c1 => exact rfl
  case c2 => exact rfl
  case c3 => exact rfl
  case c4 => decide
  intro g L' h₁ F' N' S' l
  refine Site.use S' fun A₀ base outer env mean mg mb B hA hf hke X T room units calm => ?_
  walk_at "my steps"
  rename Fr g _ _ _ => F3
  rename News g _ _ _ => N3
  refine LeaveN.mk F3 N3 fun F4 N4 => ?_
  exact h _ _ F4 (back N4) _
end
section
variable {w : World} {A : Around} {s : Shared} {h₀ : Heap} {L : Addr} {m : PySem.Str → Option Value} {rest : List (Addr × Obj)} {n : Nat}
set_option pp.deepTerms false in
set_option pp.maxSteps 4000 in
theorem fjItem_A {news : List (Addr × Obj)} {fj dfj rf lj ms md : Addr} {k1 k2 k3 k4 k5 k6 tc : Tok} {cur : Int} {E : Value → Shared → Prop} {Q : Value → Shared → Prop} {vals : Array Value} {nl : Nat} {i : Int} {ti : Tok} {v : Value} (S : Site w A h₀ L (n + 1)) (F : Fr h₀ L s.heap m) (N : News h₀ L s.heap news) (m1 : (fj, instObj 464 dfj) ∈ news) (m2 : (dfj, fj6 w k1 k2 k3 k4 k5 k6 rf lj ms md cur tc) ∈ news) (m3 : (lj, listOf vals nl) ∈ news) (hz : vals.size ≤ 1000) (h0 : 0 ≤ i) (hv : vals[i.toNat]? = some v)
    (h : ∀ h' tk, Fr h₀ L h' m → News h₀ L h' news → Q v { s with heap := h', toks := tk }) :
    wpAny (model PySem.Challenge.rw_jr0034_01.row.prog w) A (call (.ref 384) [.ref fj, .int i ti]) Q E s := by
  have back : ∀ {h' : Heap}, News h₀ L h' ((fj, instObj 464 dfj) :: (dfj, fj6 w k1 k2 k3 k4 k5 k6 rf lj ms md cur tc) :: (lj, listOf vals nl) :: news) → News h₀ L h' news := fun N1 p hp => N1 p (.tail _ (.tail _ (.tail _ hp)))
  replace N : News h₀ L s.heap ((fj, instObj 464 dfj) :: (dfj, fj6 w k1 k2 k3 k4 k5 k6 rf lj ms md cur tc) :: (lj, listOf vals nl) :: news) := News_join ⟨N _ m1⟩ (News_join ⟨N _ m2⟩ (News_join ⟨N _ m3⟩ N))
  clear m1 m2 m3
  refine' wpAny_call (enterB (E := E) (binds := [(PySem.Str.ofString "self", .ref fj), (PySem.Str.ofString "idx", .int i ti)]) S F N ?ho ?hcd ?hb ?hl ?_ ?c1 ?c2 ?c3 ?c4)
  case ho => k_is
  case hcd => k_is
  case hb => exact BindsTo.of_eq rfl
  case hl => exact locs rfl
  case c1 => exact rfl
  case c2 => exact rfl
  case c3 => exact rfl
  case c4 => decide
  intro g L' h₁ F' N' S' l
  refine Site.use S' fun A₀ base outer env mean mg mb B hA hf hke X T room units calm => ?_
  walk_at "my steps"
  rename News g _ _ _ => N2
  refine item_v (s := ⟨_, _, _, _, _⟩) N2 (.tail _ (.tail _ (.head _))) h0 (by (first | lia | omega)) hv ?_
  rename Fr g _ _ _ => F3
  rename News g _ _ _ => N3
  refine LeaveN.mk F3 N3 fun F4 N4 => ?_
  exact h _ _ F4 (back N4)
end
/- part C16 -/
abbrev mj5 (w : World) (q1 q2 q3 q4 q5 z2 z3 : Tok) (lm : Addr) (tv vv : Value) : Obj := dictOf [ent w "_MemoryJournal__journal" q1 (.ref lm), ent w "_MemoryJournal__bytesSize" q2 (.int 0 z2), ent w "_MemoryJournal__lastCommitIndex" q3 (.int 0 z3), ent w "_MemoryJournal__currentTerm" q4 tv, ent w "_MemoryJournal__votedForNodeId" q5 vv] 5
section
variable {w : World} {A : Around} {s : Shared} {h₀ : Heap} {L : Addr} {m : PySem.Str → Option Value} {rest : List (Addr × Obj)} {n : Nat}
set_option pp.deepTerms false in
set_option pp.maxSteps 4000 in
theorem mjmake_S {Q : Value → Shared → Prop} (S : Site w A h₀ L (n + 3)) (F : Fr h₀ L s.heap m) (N : News h₀ L s.heap rest)
    (h : ∀ h' tk mj dmj lm q1 q2 q3 q4 q5 z2 z3 ti, Fr h₀ L h' m → News h₀ L h' ((lm, listOf #[] 0) :: (mj, instObj 241 dmj) :: (dmj, mj5 w q1 q2 q3 q4 q5 z2 z3 lm (.int 0 ti) .none) :: rest) → (∀ p ∈ rest, p.1 < dmj) → dmj < mj → mj < lm → Q (.ref mj) { s with heap := h', toks := tk }) :
    wpS (model PySem.Challenge.rw_jr0034_01.row.prog w) A (call (.ref 241) []) Q s := by
  refine Site.use S fun A₁ base₁ outer₁ env₁ mean₁ mg₁ mb₁ B₁ hA₁ hf₁ hke₁ X₁ T₁ _ _ _ => ?_
  refine' wpS_call (codeS_make (fI := 147) F N X₁ ?m1 ?m2 ?m3 fun mj dmj h1 F1 N1 l1 l2 => ?_)
  case m1 => k_is
  case m2 => k_is
  case m3 => k_is
  refine codeS_mono (R := fun f s' => ∃ v, f = .ret v ∧ (v = .none ∧ Q (.ref mj) s')) ?_ (by rintro f s' ⟨v, rfl, rfl, h⟩; exact ⟨rfl, _, rfl, h⟩)
  refine' enterS (Q := fun v s' => v = .none ∧ Q (.ref mj) s') (binds := [(PySem.Str.ofString "self", .ref mj)]) (n := n + 1) S.make F1 N1 ?ho ?hcd ?hb ?hl ?_ ?c1 ?c2 ?c3 ?c4
  case ho => k_is
  case hcd => k_is
  case hb => exact BindsTo.of_eq rfl
  case hl => exact locs rfl
  case c1 => exact rfl
  case c2 => exact rfl
  case c3 => exact rfl
  case c4 => decide
  intro g L' h₁ F' N' S' l
  refine Site.use S' fun A₀ base outer env mean mg mb B hA hf hke X T room units calm => ?_
  refine wpS_abs fun Q9 hQ9 => ?_
  have a2 : Apart dmj mj := ⟨Nat.ne_of_lt l2⟩
  have a4 : Off dmj rest := ⟨fun p hp => Nat.ne_of_lt (l1 p hp)⟩
  refine S_clean ?_
  walk_at "my steps"
  rename_i lm hx1 l3 hx2 F2 N2
  have l4 : mj < lm := l3.1
  refine S_clean ?_
  walk_at "my steps"
  refine S_clean ?_
  walk_at "my steps"
  refine S_clean ?_
  walk_at "my steps"
  refine S_clean ?_
  walk_at "my steps"
  rename Fr g _ _ _ => F4
  rename News g _ _ _ => N4
  exact S_nil (hQ9 _ _ ⟨_, _, F4, N4, fun F6 N6 => ⟨rfl, h _ _ _ _ _ _ _ _ _ _ _ _ _ F6 N6 l1 l2 l4⟩⟩)
end
section
variable {w : World} {A : Around} {s : Shared} {h₀ : Heap} {L : Addr} {m : PySem.Str → Option Value} {rest : List (Addr × Obj)} {n : Nat}
set_option pp.deepTerms false in
set_option pp.maxSteps 4000 in
theorem mjAdd_S {mj dmj lm : Addr} {q1 q2 q3 q4 q5 z2 z3 ti : Tok} {tm : Int} {vv : Value} {vals : Array Value} {nl : Nat} {c i t : Value} {Q : Value → Shared → Prop} (S : Site w A h₀ L (n + 1)) (F : Fr h₀ L s.heap m)
    (N : News h₀ L s.heap ((mj, instObj 241 dmj) :: (dmj, mj5 w q1 q2 q3 q4 q5 z2 z3 lm (.int tm ti) vv) :: (lm, listOf vals nl) :: rest)) (nd : Nd ((mj, instObj 241 dmj) :: (dmj, mj5 w q1 q2 q3 q4 q5 z2 z3 lm (.int tm ti) vv) :: (lm, listOf vals nl) :: rest)) (hv : vals.size ≤ 1000)
    (h : ∀ h' tk x, Fr h₀ L h' m → News h₀ L h' ((x, { cls := .type "tuple", data := .seq #[c, i, t] 0 }) :: (mj, instObj 241 dmj) :: (dmj, mj5 w q1 q2 q3 q4 q5 z2 z3 lm (.int tm ti) vv) :: (lm, listOf (vals.push (.ref x)) (nl + 1)) :: rest) →
      Off x ((mj, instObj 241 dmj) :: (dmj, mj5 w q1 q2 q3 q4 q5 z2 z3 lm (.int tm ti) vv) :: (lm, listOf vals nl) :: rest) → Q .none { s with heap := h', toks := tk }) :
    wpS (model PySem.Challenge.rw_jr0034_01.row.prog w) A (call (.ref 154) [.ref mj, c, i, t]) Q s := by
  refine' wpS_call (enterS (binds := [(PySem.Str.ofString "self", .ref mj), (PySem.Str.ofString "command", c), (PySem.Str.ofString "idx", i), (PySem.Str.ofString "term", t)]) S F N ?ho ?hcd ?hb ?hl ?_ ?c1 ?c2 ?c3 ?c4)
  case ho => k_is
  case hcd => k_is
  case hb => exact BindsTo.of_eq rfl
  case hl => exact locs rfl
  case c1 => exact rfl
  case c2 => exact rfl
  case c3 => exact rfl
  case c4 => decide
  intro g L' h₁ F' N' S' l
  refine Site.use S' fun A₀ base outer env mean mg mb B hA hf hke X T room units calm => ?_
  refine wpS_abs fun Q9 hQ9 => ?_
  walk_at "my nd"
  refine S_clean ?_
  walk_at "my steps"
  rename_i x hx1 l1 hx2 F2 N2
  walk_at "my lt"
  refine S_nil (hQ9 _ _ ⟨_, _, F2, N2, fun F3 N3 => h _ _ _ F3 N3 ?_⟩)
  walk_at "my off"
end
section
variable {w : World} {A : Around} {s : Shared} {h₀ : Heap} {L : Addr} {m : PySem.Str → Option Value} {rest : List (Addr × Obj)} {n : Nat}
set_option pp.deepTerms false in
set_option pp.maxSteps 4000 in
theorem mjFrom_S {mj dmj lm : Addr} {q1 q2 q3 q4 q5 z2 z3 ti : Tok} {tm : Int} {vv : Value} {vals : Array Value} {nl p : Nat} {tp : Tok} {Q : Value → Shared → Prop} (S : Site w A h₀ L (n + 1)) (F : Fr h₀ L s.heap m)
    (N : News h₀ L s.heap ((mj, instObj 241 dmj) :: (dmj, mj5 w q1 q2 q3 q4 q5 z2 z3 lm (.int tm ti) vv) :: (lm, listOf vals nl) :: rest)) (nd : Nd ((mj, instObj 241 dmj) :: (dmj, mj5 w q1 q2 q3 q4 q5 z2 z3 lm (.int tm ti) vv) :: (lm, listOf vals nl) :: rest)) (hv : vals.size ≤ 1000)
    (h : ∀ h' tk x, Fr h₀ L h' m → News h₀ L h' ((x, listOf (vals.toList.take p).toArray 0) :: (mj, instObj 241 dmj) :: (dmj, mj5 w q1 q2 q3 q4 q5 z2 z3 x (.int tm ti) vv) :: (lm, listOf vals nl) :: rest) →
      Off x ((mj, instObj 241 dmj) :: (dmj, mj5 w q1 q2 q3 q4 q5 z2 z3 lm (.int tm ti) vv) :: (lm, listOf vals nl) :: rest) → Q .none { s with heap := h', toks := tk }) :
    wpS (model PySem.Challenge.rw_jr0034_01.row.prog w) A (call (.ref 168) [.ref mj, .int p tp]) Q s := by
  refine' wpS_call (enterS (binds := [(PySem.Str.ofString "self", .ref mj), (PySem.Str.ofString "entryFrom", .int p tp)]) S F N ?ho ?hcd ?hb ?hl ?_ ?c1 ?c2 ?c3 ?c4)
  case ho => k_is
  case hcd => k_is
  case hb => exact BindsTo.of_eq rfl
  case hl => exact locs rfl
  case c1 => exact rfl
  case c2 => exact rfl
  case c3 => exact rfl
  case c4 => decide
  intro g L' h₁ F' N' S' l
  refine Site.use S' fun A₀ base outer env mean mg mb B hA hf hke X T room units calm => ?_
  refine wpS_abs fun Q9 hQ9 => ?_
  walk_at "my nd"
  refine S_clean ?_
  walk_at "my steps"
  rename_i x hx1 l1 hx2 F2 N2
  walk_at "my lt"
  refine S_nil (hQ9 _ _ ⟨_, _, F2, N2, fun F3 N3 => h _ _ _ F3 N3 ?_⟩)
  walk_at "my off"
end
section
variable {w : World} {A : Around} {s : Shared} {h₀ : Heap} {L : Addr} {m : PySem.Str → Option Value} {rest : List (Addr × Obj)} {n : Nat}
set_option pp.deepTerms false in
set_option pp.maxSteps 4000 in
theorem mjTo_S {mj dmj lm : Addr} {q1 q2 q3 q4 q5 z2 z3 ti : Tok} {tm : Int} {vv : Value} {vals : Array Value} {nl p : Nat} {tp : Tok} {Q : Value → Shared → Prop} (S : Site w A h₀ L (n + 1)) (F : Fr h₀ L s.heap m)
    (N : News h₀ L s.heap ((mj, instObj 241 dmj) :: (dmj, mj5 w q1 q2 q3 q4 q5 z2 z3 lm (.int tm ti) vv) :: (lm, listOf vals nl) :: rest)) (nd : Nd ((mj, instObj 241 dmj) :: (dmj, mj5 w q1 q2 q3 q4 q5 z2 z3 lm (.int tm ti) vv) :: (lm, listOf vals nl) :: rest)) (hv : vals.size ≤ 1000)
    (h : ∀ h' tk x, Fr h₀ L h' m → News h₀ L h' ((x, listOf (vals.toList.drop p).toArray 0) :: (mj, instObj 241 dmj) :: (dmj, mj5 w q1 q2 q3 q4 q5 z2 z3 x (.int tm ti) vv) :: (lm, listOf vals nl) :: rest) →
      Off x ((mj, instObj 241 dmj) :: (dmj, mj5 w q1 q2 q3 q4 q5 z2 z3 lm (.int tm ti) vv) :: (lm, listOf vals nl) :: rest) → Q .none { s with heap := h', toks := tk }) :
    wpS (model PySem.Challenge.rw_jr0034_01.row.prog w) A (call (.ref 175) [.ref mj, .int p tp]) Q s := by
  refine' wpS_call (enterS (binds := [(PySem.Str.ofString "self", .ref mj), (PySem.Str.ofString "entryTo", .int p tp)]) S F N ?ho ?hcd ?hb ?hl ?_ ?c1 ?c2 ?c3 ?c4)
  case ho => k_is
  case hcd => k_is
  case hb => exact BindsTo.of_eq rfl
  case hl => exact locs rfl
  case c1 => exact rfl
  case c2 => exact rfl
  case c3 => exact rfl
  case c4 => decide
  intro g L' h₁ F' N' S' l
  refine Site.use S' fun A₀ base outer env mean mg mb B hA hf hke X T room units calm => ?_
  refine wpS_abs fun Q9 hQ9 => ?_
  walk_at "my nd"
  refine S_clean ?_
  walk_at "my steps"
  rename_i x hx1 l1 hx2 F2 N2
  walk_at "my lt"
  refine S_nil (hQ9 _ _ ⟨_, _, F2, N2, fun F3 N3 => h _ _ _ F3 N3 ?_⟩)
  walk_at "my off"
end
section
variable {w : World} {A : Around} {s : Shared} {h₀ : Heap} {L : Addr} {m : PySem.Str → Option Value} {rest : List (Addr × Obj)} {n : Nat}
set_option pp.deepTerms false in
set_option pp.maxSteps 4000 in
theorem mjTerm_S {mj dmj lm : Addr} {q1 q2 q3 q4 q5 z2 z3 ti : Tok} {tm : Int} {vv : Value} {tv' vv' : Value} {Q : Value → Shared → Prop} (S : Site w A h₀ L (n + 1)) (F : Fr h₀ L s.heap m)
    (N : News h₀ L s.heap ((mj, instObj 241 dmj) :: (dmj, mj5 w q1 q2 q3 q4 q5 z2 z3 lm (.int tm ti) vv) :: rest)) (nd : Nd ((mj, instObj 241 dmj) :: (dmj, mj5 w q1 q2 q3 q4 q5 z2 z3 lm (.int tm ti) vv) :: rest))
    (h : ∀ h' tk, Fr h₀ L h' m → News h₀ L h' ((mj, instObj 241 dmj) :: (dmj, mj5 w q1 q2 q3 q4 q5 z2 z3 lm tv' vv') :: rest) → Q .none { s with heap := h', toks := tk }) :
    wpS (model PySem.Challenge.rw_jr0034_01.row.prog w) A (call (.ref 224) [.ref mj, tv', vv']) Q s := by
  refine' wpS_call (enterS (binds := [(PySem.Str.ofString "self", .ref mj), (PySem.Str.ofString "term", tv'), (PySem.Str.ofString "votedForNodeId", vv')]) S F N ?ho ?hcd ?hb ?hl ?_ ?c1 ?c2 ?c3 ?c4)
  case ho => k_is
  case hcd => k_is
  case hb => exact BindsTo.of_eq rfl
  case hl => exact locs rfl
  case c1 => exact rfl
  case c2 => exact rfl
  case c3 => exact rfl
  case c4 => decide
  intro g L' h₁ F' N' S' l
  refine Site.use S' fun A₀ base outer env mean mg mb B hA hf hke X T room units calm => ?_
  refine wpS_abs fun Q9 hQ9 => ?_
  walk_at "my nd"
  refine S_clean ?_
  walk_at "my steps"
  refine S_clean ?_
  walk_at "my steps"
  rename Fr g _ _ _ => F4
  rename News g _ _ _ => N4
  exact S_nil (hQ9 _ _ ⟨_, _, F4, N4, fun F6 N6 => h _ _ F6 N6⟩)
end
/- part C17 -/
section
variable {w : World} {A : Around} {s : Shared} {h₀ : Heap} {L : Addr} {m : PySem.Str → Option Value} {rest : List (Addr × Obj)} {n : Nat}
set_option pp.deepTerms false in
set_option pp.maxSteps 4000 in
theorem mjGetTerm_A {news : List (Addr × Obj)} {mj dmj lm : Addr} {q1 q2 q3 q4 q5 z2 z3 : Tok} {tm : Int} {ti : Tok} {vv : Value} {E : Value → Shared → Prop} {Q : Value → Shared → Prop}  (S : Site w A h₀ L (n + 1)) (F : Fr h₀ L s.heap m) (N : News h₀ L s.heap news) (m1 : (mj, instObj 241 dmj) ∈ news) (m2 : (dmj, mj5 w q1 q2 q3 q4 q5 z2 z3 lm (.int tm ti) vv) ∈ news)  
    (h : ∀ h' tk, Fr h₀ L h' m → News h₀ L h' news → Q (.int tm ti) { s with heap := h', toks := tk }) :
    wpAny (model PySem.Challenge.rw_jr0034_01.row.prog w) A (call (.ref 231) [.ref mj]) Q E s := by
  have back : ∀ {h' : Heap}, News h₀ L h' ((mj, instObj 241 dmj) :: (dmj, mj5 w q1 q2 q3 q4 q5 z2 z3 lm (.int tm ti) vv) :: news) → News h₀ L h' news := fun N1 p hp => N1 p (.tail _ (.tail _ (hp)))
  replace N : News h₀ L s.heap ((mj, instObj 241 dmj) :: (dmj, mj5 w q1 q2 q3 q4 q5 z2 z3 lm (.int tm ti) vv) :: news) := News_join ⟨N _ m1⟩ (News_join ⟨N _ m2⟩ N)
  clear m1 m2 
  refine' wpAny_call (enterB (E := E) (binds := [(PySem.Str.ofString "self", .ref mj)]) S F N ?ho ?hcd ?hb ?hl ?_ ?c1 ?c2 ?c3 ?c4)
  case ho => k_is
  case hcd => k_is
  case hb => exact BindsTo.of_eq rfl
  case hl => exact locs rfl
  case c1 => exact rfl
  case c2 => exact rfl
  case c3 => exact rfl
  case c4 => decide
  intro g L' h₁ F' N' S' l
  refine Site.use S' fun A₀ base outer env mean mg mb B hA hf hke X T room units calm => ?_
  walk_at "my steps"
  rename Fr g _ _ _ => F3
  rename News g _ _ _ => N3
  refine LeaveN.mk F3 N3 fun F4 N4 => ?_
  exact h _ _ F4 (back N4)
end
section
variable {w : World} {A : Around} {s : Shared} {h₀ : Heap} {L : Addr} {m : PySem.Str → Option Value} {rest : List (Addr × Obj)} {n : Nat}
set_option pp.deepTerms false in
set_option pp.maxSteps 4000 in
theorem mjVote_A {news : List (Addr × Obj)} {mj dmj lm : Addr} {q1 q2 q3 q4 q5 z2 z3 : Tok} {tm : Int} {ti : Tok} {vv : Value} {E : Value → Shared → Prop} {Q : Value → Shared → Prop}  (S : Site w A h₀ L (n + 1)) (F : Fr h₀ L s.heap m) (N : News h₀ L s.heap news) (m1 : (mj, instObj 241 dmj) ∈ news) (m2 : (dmj, mj5 w q1 q2 q3 q4 q5 z2 z3 lm (.int tm ti) vv) ∈ news)  (hvv : vv = .none ∨ ∃ q t, vv = .str q t)
    (h : ∀ h' tk, Fr h₀ L h' m → News h₀ L h' news → Q vv { s with heap := h', toks := tk }) :
    wpAny (model PySem.Challenge.rw_jr0034_01.row.prog w) A (call (.ref 238) [.ref mj]) Q E s := by
  have back : ∀ {h' : Heap}, News h₀ L h' ((mj, instObj 241 dmj) :: (dmj, mj5 w q1 q2 q3 q4 q5 z2 z3 lm (.int tm ti) vv) :: news) → News h₀ L h' news := fun N1 p hp => N1 p (.tail _ (.tail _ (hp)))
  replace N : News h₀ L s.heap ((mj, instObj 241 dmj) :: (dmj, mj5 w q1 q2 q3 q4 q5 z2 z3 lm (.int tm ti) vv) :: news) := News_join ⟨N _ m1⟩ (News_join ⟨N _ m2⟩ N)
  clear m1 m2 
  refine' wpAny_call (enterB (E := E) (binds := [(PySem.Str.ofString "self", .ref mj)]) S F N ?ho ?hcd ?hb ?hl ?_ ?c1 ?c2 ?c3 ?c4)
  case ho => k_is
  case hcd => k_is
  case hb => exact BindsTo.of_eq rfl
  case hl => exact locs rfl
  case c1 => exact rfl
  case c2 => exact rfl
  case c3 => exact rfl
  case c4 => decide
  intro g L' h₁ F' N' S' l
  refine Site.use S' fun A₀ base outer env mean mg mb B hA hf hke X T room units calm => ?_
  rcases hvv with rfl | ⟨q, t, rfl⟩
  all_goals walk_at "my steps"
  all_goals rename Fr g _ _ _ => F3
  all_goals rename News g _ _ _ => N3
  all_goals exact LeaveN.mk F3 N3 fun F4 N4 => h _ _ F4 (back N4)
end
section
variable {w : World} {A : Around} {s : Shared} {h₀ : Heap} {L : Addr} {m : PySem.Str → Option Value} {rest : List (Addr × Obj)} {n : Nat}
set_option pp.deepTerms false in
set_option pp.maxSteps 4000 in
theorem mjLen_A {news : List (Addr × Obj)} {mj dmj lm : Addr} {q1 q2 q3 q4 q5 z2 z3 : Tok} {tm : Int} {ti : Tok} {vv : Value} {E : Value → Shared → Prop} {Q : Value → Shared → Prop} {vals : Array Value} {nl : Nat} (S : Site w A h₀ L (n + 1)) (F : Fr h₀ L s.heap m) (N : News h₀ L s.heap news) (m1 : (mj, instObj 241 dmj) ∈ news) (m2 : (dmj, mj5 w q1 q2 q3 q4 q5 z2 z3 lm (.int tm ti) vv) ∈ news) (m3 : (lm, listOf vals nl) ∈ news) (hz : vals.size ≤ 1000)
    (h : ∀ h' tk, Fr h₀ L h' m → News h₀ L h' news → ∀ t, Q (.int vals.size t) { s with heap := h', toks := tk }) :
    wpAny (model PySem.Challenge.rw_jr0034_01.row.prog w) A (call (.ref 196) [.ref mj]) Q E s := by
  have back : ∀ {h' : Heap}, News h₀ L h' ((mj, instObj 241 dmj) :: (dmj, mj5 w q1 q2 q3 q4 q5 z2 z3 lm (.int tm ti) vv) :: (lm, listOf vals nl) :: news) → News h₀ L h' news := fun N1 p hp => N1 p (.tail _ (.tail _ (.tail _ (hp))))
  replace N : News h₀ L s.heap ((mj, instObj 241 dmj) :: (dmj, mj5 w q1 q2 q3 q4 q5 z2 z3 lm (.int tm ti) vv) :: (lm, listOf vals nl) :: news) := News_join ⟨N _ m1⟩ (News_join ⟨N _ m2⟩ (News_join ⟨N _ m3⟩ N))
  clear m1 m2 m3
  refine' wpAny_call (enterB (E := E) (binds := [(PySem.Str.ofString "self", .ref mj)]) S F N ?ho ?hcd ?hb ?hl ?_ ?c1 ?c2 ?c3 ?c4)
  case ho => k_is
  case hcd => k_is
  case hb => exact BindsTo.of_eq rfl
  case hl => exact locs rfl
  case c1 => exact rfl
  case c2 => exact rfl
  case c3 => exact rfl
  case c4 => decide
  intro g L' h₁ F' N' S' l
  refine Site.use S' fun A₀ base outer env mean mg mb B hA hf hke X T room units calm => ?_
  walk_at "my steps"
  rename Fr g _ _ _ => F3
  rename News g _ _ _ => N3
  refine LeaveN.mk F3 N3 fun F4 N4 => ?_
  exact h _ _ F4 (back N4) _
end
section
variable {w : World} {A : Around} {s : Shared} {h₀ : Heap} {L : Addr} {m : PySem.Str → Option Value} {rest : List (Addr × Obj)} {n : Nat}
set_option pp.deepTerms false in
set_option pp.maxSteps 4000 in
theorem mjItem_A {news : List (Addr × Obj)} {mj dmj lm : Addr} {q1 q2 q3 q4 q5 z2 z3 : Tok} {tm : Int} {ti : Tok} {vv : Value} {E : Value → Shared → Prop} {Q : Value → Shared → Prop} {vals : Array Value} {nl : Nat} {i : Int} {tx : Tok} {v : Value} (S : Site w A h₀ L (n + 1)) (F : Fr h₀ L s.heap m) (N : News h₀ L s.heap news) (m1 : (mj, instObj 241 dmj) ∈ news) (m2 : (dmj, mj5 w q1 q2 q3 q4 q5 z2 z3 lm (.int tm ti) vv) ∈ news) (m3 : (lm, listOf vals nl) ∈ news) (hz : vals.size ≤ 1000) (h0 : 0 ≤ i) (hv : vals[i.toNat]? = some v)
    (h : ∀ h' tk, Fr h₀ L h' m → News h₀ L h' news → Q v { s with heap := h', toks := tk }) :
    wpAny (model PySem.Challenge.rw_jr0034_01.row.prog w) A (call (.ref 182) [.ref mj, .int i tx]) Q E s := by
  have back : ∀ {h' : Heap}, News h₀ L h' ((mj, instObj 241 dmj) :: (dmj, mj5 w q1 q2 q3 q4 q5 z2 z3 lm (.int tm ti) vv) :: (lm, listOf vals nl) :: news) → News h₀ L h' news := fun N1 p hp => N1 p (.tail _ (.tail _ (.tail _ (hp))))
  replace N : News h₀ L s.heap ((mj, instObj 241 dmj) :: (dmj, mj5 w q1 q2 q3 q4 q5 z2 z3 lm (.int tm ti) vv) :: (lm, listOf vals nl) :: news) := News_join ⟨N _ m1⟩ (News_join ⟨N _ m2⟩ (News_join ⟨N _ m3⟩ N))
  clear m1 m2 m3
  refine' wpAny_call (enterB (E := E) (binds := [(PySem.Str.ofString "self", .ref mj), (PySem.Str.ofString "item", .int i tx)]) S F N ?ho ?hcd ?hb ?hl ?_ ?c1 ?c2 ?c3 ?c4)
  case ho => k_is
  case hcd => k_is
  case hb => exact BindsTo.of_eq rfl
  case hl => exact locs rfl
  case c1 => exact rfl
  case c2 => exact rfl
  case c3 => exact rfl
  case c4 => decide
  intro g L' h₁ F' N' S' l
  refine Site.use S' fun A₀ base outer env mean mg mb B hA hf hke X T room units calm => ?_
  walk_at "my steps"
  rename News g _ _ _ => N2
  refine item_v (s := ⟨_, _, _, _, _⟩) N2 (.tail _ (.tail _ (.head _))) h0 (by (first | lia | omega)) hv ?_
  rename Fr g _ _ _ => F3
  rename News g _ _ _ => N3
  refine LeaveN.mk F3 N3 fun F4 N4 => ?_
  exact h _ _ F4 (back N4)
end
/- part C18 -/
local macro_rules | `(tactic| k_all) => `(tactic| first | (refine Off.off ?_; with_reducible assumption) | (refine Off.off (off_of_allLt ?_); with_reducible assumption))
local macro_rules | `(tactic| walk_at "my off") => `(tactic| repeat' (first | with_reducible assumption | (refine Apart.symm ?_; with_reducible assumption) | with_reducible refine off_cons ?_ ?_))
local macro_rules | `(tactic| walk_at "call ref") => `(tactic| (k_here; (with_reducible show wpAny _ _ (call (Value.ref 349) [Value.ref _]) _ _ _); (with_reducible rename Site _ _ _ _ _ => S9); k_dflt (refine' header_A (n := 0) (S9.less ?k0) ?k1 ?k2 ?_; (case k0 => walk_at "my less"); (case k1 => k_asm); (case k2 => k_asm)); intro _ _ _ _ _))
local macro_rules | `(tactic| walk_at "unpackItems ref") => `(tactic| (k_here; k_dflt (refine' unpackItemsN_ ?k1 ?k2 ?k3 ?k4 ?k5 ?_; (case k1 => k_asm); (case k2 => k_asm); (case k3 => kun_tup); (case k4 => assumption); (case k5 => exact rfl); k_whole); intro h' F' N'; (try k_sweep)))
abbrev ilLoc (fj mm mt : Addr) (x1 x2 x3 x4 x5 : Option Value) (lr : Nat) (tl : Tok) (c : Nat) (tcc : Tok) : PySem.Str → Option Value := fun z =>
  if z = PySem.Str.ofString "currentOffset" then some (.int c tcc) else if z = PySem.Str.ofString "term" then x5 else if z = PySem.Str.ofString "idx" then x4 else if z = PySem.Str.ofString "command" then x3 else
  if z = PySem.Str.ofString "nextRecordData" then x2 else if z = PySem.Str.ofString "nextRecordSize" then x1 else if z = PySem.Str.ofString "lastRecordOffset" then some (.int lr tl) else List.lookup z [(PySem.Str.ofString "metaFile", .ref mt), (PySem.Str.ofString "journalFile", .ref mm), (PySem.Str.ofString "self", .ref fj)]
theorem ilFirst {h₀ h : Heap} {L fj mm mt : Addr} {lr : Nat} {tl tcc : Tok} (F : Fr h₀ L h (fun z => if z = PySem.Str.ofString "lastRecordOffset" then some (.int lr tl) else if z = PySem.Str.ofString "currentOffset" then some (.int 40 tcc) else
    List.lookup z [(PySem.Str.ofString "metaFile", .ref mt), (PySem.Str.ofString "journalFile", .ref mm), (PySem.Str.ofString "self", .ref fj)])) : Fr h₀ L h (ilLoc fj mm mt none none none none none lr tl 40 tcc) := by
  refine Fr_of (fun z => ?_) F
  dsimp only [ilLoc]
  by_cases q1 : z = PySem.Str.ofString "currentOffset"
  · subst q1; rfl
  by_cases q2 : z = PySem.Str.ofString "term"
  · subst q2; rfl
  by_cases q3 : z = PySem.Str.ofString "idx"
  · subst q3; rfl
  by_cases q4 : z = PySem.Str.ofString "command"
  · subst q4; rfl
  by_cases q5 : z = PySem.Str.ofString "nextRecordData"
  · subst q5; rfl
  by_cases q6 : z = PySem.Str.ofString "nextRecordSize"
  · subst q6; rfl
  simp only [if_neg q1, if_neg q2, if_neg q3, if_neg q4, if_neg q5, if_neg q6]
theorem ilNorm {h₀ h : Heap} {L fj mm mt : Addr} {lr c : Nat} {tl tcc ta : Tok} {x1 x2 x3 x4 x5 y1 y2 y3 y4 y5 : Option Value} {c1 : Int} (F : Fr h₀ L h (fun z => if z = PySem.Str.ofString "currentOffset" then some (.int c1 ta) else if z = PySem.Str.ofString "idx" then y4 else if z = PySem.Str.ofString "term" then y5 else
    if z = PySem.Str.ofString "command" then y3 else if z = PySem.Str.ofString "nextRecordData" then y2 else if z = PySem.Str.ofString "nextRecordSize" then y1 else ilLoc fj mm mt x1 x2 x3 x4 x5 lr tl c tcc z)) {c' : Nat} (hc : c1 = c') : Fr h₀ L h (ilLoc fj mm mt y1 y2 y3 y4 y5 lr tl c' ta) := by
  subst hc
  refine Fr_of (fun z => ?_) F
  dsimp only [ilLoc]
  by_cases q1 : z = PySem.Str.ofString "currentOffset"
  · simp only [if_pos q1]
  by_cases q2 : z = PySem.Str.ofString "term"
  · subst q2; rfl
  by_cases q3 : z = PySem.Str.ofString "idx"
  · subst q3; rfl
  by_cases q4 : z = PySem.Str.ofString "command"
  · subst q4; rfl
  by_cases q5 : z = PySem.Str.ofString "nextRecordData"
  · subst q5; rfl
  by_cases q6 : z = PySem.Str.ofString "nextRecordSize"
  · subst q6; rfl
  simp only [if_neg q1, if_neg q2, if_neg q3, if_neg q4, if_neg q5, if_neg q6]
section
variable {w : World} {A : Around} {s : Shared} {h₀ : Heap} {L : Addr} {m : PySem.Str → Option Value} {rest : List (Addr × Obj)} {n : Nat}
set_option pp.deepTerms false in
set_option pp.maxSteps 4000 in
theorem fjmake_S {mm mt : Addr} {b : Array UInt8} {ot : Obj} {y : Option (Int × Tok × Value)} {rs : List Rw} {junk : List UInt8} {Q : Value → Shared → Prop} (S : Site w A h₀ L (n + 8)) (F : Fr h₀ L s.heap m)
    (N : News h₀ L s.heap ((mm, baObj b) :: (mt, ot) :: rest)) (nd : Nd ((mm, baObj b) :: (mt, ot) :: rest)) (hb : b.toList = due rs ++ junk) (hbz : b.size ≤ 40000) (hrs : rs.length ≤ 9) (hok : ∀ r ∈ rs, OkR r)
    (ht : ot.IsDictOf (KS w) (metaKV y)) (hsm : (mt == sysModules) = false)
    (h : ∀ h' tk b' fj dfj rf drf lj ms dms md t1 t2 t3 k0 k1 k2 k3 k4 k5 k6 tc vals nl T od, Due b'.toList rs → RowsAt T vals.toList rs → od.IsDictOf (KS w) (metaKV y) → (md == sysModules) = false → Fr h₀ L h' m →
      News h₀ L h' ((fj, instObj 464 dfj) :: (dfj, fj6 w k1 k2 k3 k4 k5 k6 rf lj ms md (40 + (told rs).length) tc) :: (rf, instObj 282 drf) :: (drf, rfDict w t1 t2 t3 mm) :: (mm, baObj b') :: (lj, listOf vals nl) :: (ms, instObj 324 dms) :: (dms, dictOf [ent w "_MetaStorer__path" k0 (.ref mt)] 1) :: (mt, ot) :: (md, od) :: (T ++ rest)) → Nd ((fj, instObj 464 dfj) :: (dfj, fj6 w k1 k2 k3 k4 k5 k6 rf lj ms md (40 + (told rs).length) tc) :: (rf, instObj 282 drf) :: (drf, rfDict w t1 t2 t3 mm) :: (mm, baObj b') :: (lj, listOf vals nl) :: (ms, instObj 324 dms) :: (dms, dictOf [ent w "_MetaStorer__path" k0 (.ref mt)] 1) :: (mt, ot) :: (md, od) :: (T ++ rest)) → Q (.ref fj) { s with heap := h', toks := tk }) :
    wpS (model PySem.Challenge.rw_jr0034_01.row.prog w) A (call (.ref 464) [.ref mm, .ref mt]) Q s := by
  refine Site.use S fun A₁ base₁ outer₁ env₁ mean₁ mg₁ mb₁ B₁ hA₁ hf₁ hke₁ X₁ T₁ _ _ _ => ?_
  refine' wpS_call (codeS_make (fI := 342) F N X₁ ?m1 ?m2 ?m3 fun fj dfj h1 F1 N1 l1 l2 => ?_)
  case m1 => k_is
  case m2 => k_is
  case m3 => k_is
  refine codeS_mono (R := fun f s' => ∃ v, f = .ret v ∧ (v = .none ∧ Q (.ref fj) s')) ?_ (by rintro f s' ⟨v, rfl, rfl, h⟩; exact ⟨rfl, _, rfl, h⟩)
  refine' enterS (Q := fun v s' => v = .none ∧ Q (.ref fj) s') (binds := [(PySem.Str.ofString "self", .ref fj), (PySem.Str.ofString "journalFile", .ref mm), (PySem.Str.ofString "metaFile", .ref mt)]) (n := n + 6) S.make F1 N1 ?ho ?hcd ?hb ?hl ?_ ?c1 ?c2 ?c3 ?c4
  case ho => k_is
  case hcd => k_is
  case hb => exact BindsTo.of_eq rfl
  case hl => exact locs rfl
  case c1 => exact rfl
  case c2 => exact rfl
  case c3 => exact rfl
  case c4 => decide
  intro g L' h₁ F' N' S' l
  refine Site.use S' fun A₀ base outer env mean mg mb B hA hf hke X T room units calm => ?_
  refine wpS_abs fun Q9 hQ9 => ?_
  have nd1 : Nd ([] ++ (fj, instObj 464 dfj) :: (dfj, dictOf [] 0) :: (mm, baObj b) :: (mt, ot) :: rest) := by
    have o1 : Off dfj ((mm, baObj b) :: (mt, ot) :: rest) := .of_lt l1
    exact Nd.join (off_cons (apart_of_lt l2) ⟨fun p hp => Nat.ne_of_lt (Nat.lt_trans (l1 p hp) l2)⟩) (Nd.join o1 nd)
  clear nd
  have nd := nd1
  rw [List.nil_append] at nd
  walk_at "my nd"
  refine S_cons (S_AssignAttr (S_Call_Name ?_))
  walk_at "my steps"
  refine S_callWith_KW (K := hd.heap_1 w.params) ?kp rfl ?_
  case kp => k_is
  walk_at "my steps"
  show wpAny _ _ (call (.ref 349) [.ref fj]) _ _ _
  rename Fr g _ _ _ => F2
  rename News g _ _ _ => N2
  refine' header_A (n := 0) (S'.less ?k0) F2 N2 fun h3 tk3 tv3 F3 N3 => ?_
  case k0 => walk_at "my less"
  walk_at "my steps"
  rename Fr g _ _ _ => F4
  rename News g _ _ _ => N4
  show wpS _ _ (call (.ref 282) [.ref mm] [(PySem.Str.ofString "defaultContent", .bytes headL.toArray tv3)]) _ _
  have hbl : b.toList.length = b.size := Array.length_toList
  have hb40 : 40 ≤ b.size := by
    rw [← hbl, hb, List.length_append, due_length]
    (first | lia | omega)
  refine' rfmake_S (n := n) (b := b) (rest := (fj, instObj 464 dfj) :: (dfj, dictOf [] 0) :: (mt, ot) :: rest) (S'.less (by walk_at "my less")) F4 ?perm ?off (by (first | lia | omega)) (by (first | lia | omega)) ?_
  case perm => walk_at "my perm"
  case off => walk_at "my off"
  intro h5 tk5 rf drf t1 t2 t3 b1 e1 F5 N5 l5 l6
  have D : Due b1.toList rs := by
    have hl : b1.toList.length = b.size + (1024 - b.size) := by rw [e1, List.length_append, List.length_replicate, hbl]
    exact ⟨⟨junk ++ List.replicate (1024 - b.size) 0, by rw [e1, hb, List.append_assoc]⟩, by (first | lia | omega), by (first | lia | omega)⟩
  have hb1l : b1.toList.length = b1.size := Array.length_toList
  have hb1s := D.small
  have hb1b := D.big
  have hle := D.le
  have htl := told_length_le hok
  have q1 : Off drf ((mm, baObj b) :: (fj, instObj 464 dfj) :: (dfj, dictOf [] 0) :: (mt, ot) :: rest) := .of_lt l5
  have q2 : Off rf ((mm, baObj b) :: (fj, instObj 464 dfj) :: (dfj, dictOf [] 0) :: (mt, ot) :: rest) := ⟨fun p hp => Nat.ne_of_lt (Nat.lt_trans (l5 p hp) l6)⟩
  have q3 : Apart drf rf := apart_of_lt l6
  clear l5 l6 F4 N4
  walk_at "my nd"
  show wpAny _ _ _ _ _ _
  walk_at "my steps"
  refine S_clean ?_
  walk_at "my steps"
  rename_i lj hx1 l1 hx2 F7 N7
  walk_at "my lt"
  refine S_cons (S_AssignAttr (S_Call_Name ?_))
  walk_at "my steps"
  refine S_callWith (K := hd.heap_1 w.params) ?kp (wpS_of ?_)
  case kp => k_is
  walk_at "my steps"
  rename Fr g _ _ _ => F8
  rename News g _ _ _ => N8
  refine msmake_S (n := n) (S'.less (by walk_at "my less")) F8 N8 fun h9 tk9 ms dms k0 F9 N9 l9 l10 => ?_
  have q4 := Off.of_lt l9
  have q5 := Off.of_lt2 l9 l10
  have q6 : Apart dms ms := apart_of_lt l10
  clear l9 l10
  walk_at "my nd"
  show wpAny _ _ _ _ _ _
  walk_at "my steps"
  refine S_cons (S_AssignAttr (S_method ?_))
  walk_at "my steps"
  rename Fr g _ _ _ => F10
  rename News g _ _ _ => N10
  refine S_callWith0 (K := hd.heap_1 w.params) (X.keeps F10.keep) ?kp ?_
  case kp => k_is
  show wpS _ _ (call (.ref 307) [.ref ms]) _ _
  refine' getMeta_S (n := n) (mt := mt) (ot := ot) (y := y) (k1 := k0) (rest := (lj, listOf #[] 0) :: (rf, instObj 282 drf) :: (drf, rfDict w t1 t2 t3 mm) :: (mm, baObj b1) :: (fj, instObj 464 dfj) :: (dfj, _) :: rest) (S'.less (by walk_at "my less")) F10 ?perm ht hsm fun h11 tk11 md od hod hmd F11 N11 l11 => ?_
  case perm => walk_at "my perm"
  walk_at "my nd"
  show wpAny _ _ _ _ _ _
  walk_at "my steps"
  refine S_clean ?_
  walk_at "my steps"
  refine S_clean ?_
  walk_at "my steps"
  refine S_clean ?_
  walk_at "my steps"
  rename Fr g _ _ _ => F12
  rename News g _ _ _ => N12
  show wpAny _ _ (call (.ref 356) [.ref fj]) _ _ _
  refine' getLast_A (n := 0) (b := b1) (rf := rf) (drf := drf) (mm := mm) (fj := fj) (dfj := dfj) (lj := lj) (ms := ms) (md := md) (t1 := t1) (t2 := t2) (t3 := t3) (rest := (lj, listOf #[] 0) :: (ms, instObj 324 dms) :: (dms, dictOf [ent w "_MetaStorer__path" k0 (.ref mt)] 1) :: (mt, ot) :: (md, od) :: rest) (S'.less (by walk_at "my less")) F12 ?perm (by (first | lia | omega)) ?_
  case perm => walk_at "my perm"
  intro h13 tk13 tv13 F13 N13
  rw [D.last, leN4 (by (first | lia | omega))] 
  walk_at "my steps"
  rename_i h14 F14 N14
  obtain ⟨k1, k2, k3, k4, k5, N15⟩ : ∃ k1 k2 k3 k4 k5, News g L' h14 ((fj, instObj 464 dfj) :: (dfj, fj5 w k1 k2 k3 k4 k5 rf lj ms md) :: (rf, instObj 282 drf) :: (drf, rfDict w t1 t2 t3 mm) :: (mm, baObj b1) :: (lj, listOf #[] 0) :: (ms, instObj 324 dms) :: (dms, dictOf [ent w "_MetaStorer__path" k0 (.ref mt)] 1) :: (mt, ot) :: (md, od) :: rest) := ⟨_, _, _, _, _, N14⟩
  have nd2 : Nd ((fj, instObj 464 dfj) :: (dfj, fj5 w k1 k2 k3 k4 k5 rf lj ms md) :: (rf, instObj 282 drf) :: (drf, rfDict w t1 t2 t3 mm) :: (mm, baObj b1) :: (lj, listOf #[] 0) :: (ms, instObj 324 dms) :: (dms, dictOf [ent w "_MetaStorer__path" k0 (.ref mt)] 1) :: (mt, ot) :: (md, od) :: ([] ++ rest)) := by
    rw [List.nil_append]
    refine Nd.join ?_ (Nd.join ?_ (Nd.join ?_ (Nd.join ?_ (Nd.join ?_ (Nd.join ?_ (Nd.join ?_ (Nd.join ?_ (Nd.join ?_ (Nd.join ?_ (by assumption))))))))))
    all_goals walk_at "my off"
  have F15 := ilFirst F14
  clear N14 F14
  refine S_cons (S_While (codeS_while (fun k s' => ∃ h' tk' j x1 x2 x3 x4 x5 tl tcc vals nl T, s' = { s with heap := h', toks := tk' } ∧ Fr g L' h' (ilLoc fj mm mt x1 x2 x3 x4 x5 (40 + (told rs).length : Nat) tl (40 + (told (rs.take j)).length : Nat) tcc) ∧
    News g L' h' ((fj, instObj 464 dfj) :: (dfj, fj5 w k1 k2 k3 k4 k5 rf lj ms md) :: (rf, instObj 282 drf) :: (drf, rfDict w t1 t2 t3 mm) :: (mm, baObj b1) :: (lj, listOf vals nl) :: (ms, instObj 324 dms) :: (dms, dictOf [ent w "_MetaStorer__path" k0 (.ref mt)] 1) :: (mt, ot) :: (md, od) :: (T ++ rest)) ∧ Nd ((fj, instObj 464 dfj) :: (dfj, fj5 w k1 k2 k3 k4 k5 rf lj ms md) :: (rf, instObj 282 drf) :: (drf, rfDict w t1 t2 t3 mm) :: (mm, baObj b1) :: (lj, listOf vals nl) :: (ms, instObj 324 dms) :: (dms, dictOf [ent w "_MetaStorer__path" k0 (.ref mt)] 1) :: (mt, ot) :: (md, od) :: (T ++ rest)) ∧ RowsAt T vals.toList (rs.take j) ∧ j ≤ rs.length ∧ k = rs.length - j) ?_ rs.length ⟨_, _, 0, none, none, none, none, none, _, _, #[], 0, [], rfl, F15, N15, nd2, trivial, Nat.zero_le _, rfl⟩))
  rintro k s' ⟨h', tk', j, x1, x2, x3, x4, x5, tl, tcc, vals, nl, T, rfl, F4, N4, hnd, hR, hj, rfl⟩
  refine wpS_of ?_
  walk_at "my steps"
  · have hjl : j < rs.length := by
      rcases Nat.lt_or_ge j rs.length with q | q
      · exact q
      · have : rs.take j = rs := List.take_of_length_le q
        have e : (told (rs.take j)).length = (told rs).length := by rw [this]
        exfalso
        (first | lia | omega)
    obtain ⟨r, hs1, hs2, hs3⟩ := split_at rs hjl
    have D' := D
    rw [hs2] at D'
    have hread1 : (b1.toList.drop (Int.toNat ((40 + (told (rs.take j)).length : Nat) : Int))).take (Int.toNat 4) = leB 4 (16 + r.c.length) := by
      rw [Int.toNat_natCast]
      exact D'.size
    have hread2 : (b1.toList.drop (Int.toNat (((40 + (told (rs.take j)).length : Nat) : Int) + 4))).take (Int.toNat ((16 + r.c.length : Nat) : Int)) = leB 8 r.i ++ leB 8 r.t ++ r.c := by
      rw [show Int.toNat (((40 + (told (rs.take j)).length : Nat) : Int) + 4) = 40 + (told (rs.take j)).length + 4 by (first | lia | omega), Int.toNat_natCast]
      exact D'.data
    have ho1 := hok r hs3
    have ho2 := ho1.c
    have ho3 := ho1.i
    have ho4 := ho1.t
    have hvs : vals.size ≤ 9 := by
      rw [← Array.length_toList, hR.length, List.length_take]
      (first | lia | omega)
    have hnd0 : Nd ([] ++ ((fj, instObj 464 dfj) :: (dfj, fj5 w k1 k2 k3 k4 k5 rf lj ms md) :: (rf, instObj 282 drf) :: (drf, rfDict w t1 t2 t3 mm) :: (mm, baObj b1) :: (lj, listOf vals nl) :: (ms, instObj 324 dms) :: (dms, dictOf [ent w "_MetaStorer__path" k0 (.ref mt)] 1) :: (mt, ot) :: (md, od) :: (T ++ rest))) := hnd
    walk_at "my nd"
    refine wpS_abs fun Q8 hQ8 => ?_
    refine S_clean ?_
    walk_at "my steps"
    rename Fr g _ _ _ => F5
    rename News g _ _ _ => N5
    rw [hread1, leN4 (by (first | lia | omega))] at F5
    refine S_clean ?_
    walk_at "my steps"
    rename Fr g _ _ _ => F6
    rename News g _ _ _ => N6
    rw [hread2] at F6
    refine S_clean ?_
    walk_at "my steps"
    rename Fr g _ _ _ => F7
    rename News g _ _ _ => N7
    rw [cut_from _ (by decide), show List.drop (Int.toNat 16) (leB 8 r.i ++ leB 8 r.t ++ r.c) = r.c from drop_of (by rw [List.length_append, leB_length, leB_length]; rfl)] at F7
    refine S_clean ?_
    walk_at "my steps"
    rw [cut_to _ (by decide), show List.take (Int.toNat 8) (leB 8 r.i ++ leB 8 r.t ++ r.c) = leB 8 r.i by rw [List.append_assoc]; exact take_of (leB_length _ _)]
    walk_at "my steps"
    rw [cut_mid _ (by decide) (by decide), show List.take (Int.toNat 16 - Int.toNat 8) (List.drop (Int.toNat 8) (leB 8 r.i ++ leB 8 r.t ++ r.c)) = leB 8 r.t by rw [List.append_assoc, show Int.toNat 8 = 8 from rfl, drop_of (leB_length _ _)]; exact take_of (leB_length _ _)]
    walk_at "my steps"
    rename Fr g _ _ _ => F8
    rename News g _ _ _ => N8
    rename_i h8
    rw [leN8 ho3, leN8 ho4] at F8
    have N9 : News g L' h8 ((fj, instObj 464 dfj) :: (dfj, fj5 w k1 k2 k3 k4 k5 rf lj ms md) :: (rf, instObj 282 drf) :: (drf, rfDict w t1 t2 t3 mm) :: (mm, baObj b1) :: (lj, listOf vals nl) :: (ms, instObj 324 dms) :: (dms, dictOf [ent w "_MetaStorer__path" k0 (.ref mt)] 1) :: (mt, ot) :: (md, od) :: (T ++ rest)) := by walk_at "my perm"
    clear N8
    refine S_clean ?_
    walk_at "my steps"
    rename_i x hx3 l3 hx4 F9 N10
    walk_at "my lt"
    refine S_clean ?_
    walk_at "my steps"
    rename Fr g _ _ _ => F10
    rename News g _ _ _ => N10
    have F11 := ilNorm F10 (c' := 40 + (told (rs.take (j + 1))).length) (by rw [hs1, told_append, told_one, List.length_append, recL_length]; (first | lia | omega))
    refine' S_nil (hQ8 _ _ ⟨rs.length - (j + 1), by (first | lia | omega), _, _, j + 1, _, _, _, _, _, _, _, vals.push (.ref x), nl + 1, (x, tupR r _ _ _) :: T, rfl, F11, ?pm, ?nd9, ?rw9, hjl, rfl⟩)
    case pm =>
      dsimp only [List.cons_append]
      walk_at "my perm"
    case nd9 => exact Nd.mid (a := [(fj, instObj 464 dfj), (dfj, fj5 w k1 k2 k3 k4 k5 rf lj ms md), (rf, instObj 282 drf), (drf, rfDict w t1 t2 t3 mm), (mm, baObj b1), (lj, listOf (vals.push (.ref x)) (nl + 1)), (ms, instObj 324 dms), (dms, dictOf [ent w "_MetaStorer__path" k0 (.ref mt)] 1), (mt, ot), (md, od)]) (b := T ++ rest) (Nd.same hnd0 rfl) (by dsimp only [List.cons_append, List.nil_append]; walk_at "my off")
    case rw9 =>
      rw [hs1, Array.toList_push]
      exact RowsAt.snoc ⟨x, _, _, _, rfl, .head _⟩ (hR.mono fun q hq => .tail _ hq)
  · have hjr : rs.take j = rs := by
      rcases Nat.lt_or_ge j rs.length with q | q
      · have := told_take_lt q
        exfalso
        (first | lia | omega)
      · exact List.take_of_length_le q
    rw [hjr] at F4 hR
    have hnd0 : Nd ([] ++ ((fj, instObj 464 dfj) :: (dfj, fj5 w k1 k2 k3 k4 k5 rf lj ms md) :: (rf, instObj 282 drf) :: (drf, rfDict w t1 t2 t3 mm) :: (mm, baObj b1) :: (lj, listOf vals nl) :: (ms, instObj 324 dms) :: (dms, dictOf [ent w "_MetaStorer__path" k0 (.ref mt)] 1) :: (mt, ot) :: (md, od) :: (T ++ rest))) := hnd
    walk_at "my nd"
    refine S_nil ?_
    refine S_clean ?_
    walk_at "my steps"
    rename Fr g _ _ _ => F5
    rename News g _ _ _ => N5
    refine S_nil (hQ9 _ _ ⟨_, _, F5, N5, fun F6 N6 => ⟨rfl, ?_⟩⟩)
    refine' h _ _ b1 fj dfj rf drf lj ms dms md t1 t2 t3 k0 k1 k2 k3 k4 k5 _ _ vals nl T od D hR hod hmd F6 ?pm ?nd9
    case pm => exact N6
    case nd9 => exact hnd0.same rfl
end
/- part C19 -/
section
variable {w : World} {A : Around} {s : Shared} {h₀ : Heap} {L : Addr} {m : PySem.Str → Option Value} {rest : List (Addr × Obj)} {n : Nat}
set_option pp.deepTerms false in
set_option pp.maxSteps 4000 in
theorem cjM_S {Q : Value → Shared → Prop} (S : Site w A h₀ L (n + 4)) (F : Fr h₀ L s.heap m) (N : News h₀ L s.heap rest)
    (h : ∀ h' tk mj dmj lm q1 q2 q3 q4 q5 z2 z3 ti, Fr h₀ L h' m → News h₀ L h' ((lm, listOf #[] 0) :: (mj, instObj 241 dmj) :: (dmj, mj5 w q1 q2 q3 q4 q5 z2 z3 lm (.int 0 ti) .none) :: rest) → (∀ p ∈ rest, p.1 < dmj) → dmj < mj → mj < lm → Q (.ref mj) { s with heap := h', toks := tk }) :
    wpS (model PySem.Challenge.rw_jr0034_01.row.prog w) A (call (.ref 474) []) Q s := by
  refine Site.use S fun A₁ base₁ outer₁ env₁ mean₁ mg₁ mb₁ B₁ hA₁ hf₁ hke₁ X₁ T₁ _ _ _ => ?_
  refine' wpS_call (enterT (binds := [(PySem.Str.ofString "journalFile", .none), (PySem.Str.ofString "metaFile", .none)]) S F N ?ho ?hcd ?hb ?hl ?_ ?c1 ?c2 ?c3 ?c4)
  case ho => k_is
  case hcd => k_is
  case hb => exact binds_K (X₁.keeps F.keep) rfl (by k_is) rfl rfl rfl
  case hl => exact locs rfl
  case c1 => exact rfl
  case c2 => exact rfl
  case c3 => exact rfl
  case c4 => decide
  intro g L' h₁ F' N' S' l
  refine Site.use S' fun A₀ base outer env mean mg mb B hA hf hke X T room units calm => ?_
  refine S_cons (S_If (wpS_of ?_))
  walk_at "my steps"
  refine S_cons (S_Return (S_Call_Name ?_))
  walk_at "my steps"
  rename Fr g _ _ _ => F2
  rename News g _ _ _ => N2
  refine S_callWith0 (K := hd.heap_1 w.params) (X.keeps F2.keep) ?kp ?_
  case kp => k_is
  show wpS _ _ (call (.ref 241) []) _ _
  refine mjmake_S (n := n) S' F2 N2 fun h3 tk3 mj dmj lm q1 q2 q3 q4 q5 z2 z3 ti F3 N3 l1 l2 l3 => ?_
  exact LeaveN.mk F3 N3 fun F4 N4 => h _ _ _ _ _ _ _ _ _ _ _ _ _ F4 N4 l1 l2 l3
end
section
variable {w : World} {A : Around} {s : Shared} {h₀ : Heap} {L : Addr} {m : PySem.Str → Option Value} {rest : List (Addr × Obj)} {n : Nat}
set_option pp.deepTerms false in
set_option pp.maxSteps 4000 in
theorem cjF_S {mm mt : Addr} {b : Array UInt8} {ot : Obj} {y : Option (Int × Tok × Value)} {rs : List Rw} {junk : List UInt8} {Q : Value → Shared → Prop} (S : Site w A h₀ L (n + 9)) (F : Fr h₀ L s.heap m)
    (N : News h₀ L s.heap ((mm, baObj b) :: (mt, ot) :: rest)) (nd : Nd ((mm, baObj b) :: (mt, ot) :: rest)) (hb : b.toList = due rs ++ junk) (hbz : b.size ≤ 40000) (hrs : rs.length ≤ 9) (hok : ∀ r ∈ rs, OkR r)
    (ht : ot.IsDictOf (KS w) (metaKV y)) (hsm : (mt == sysModules) = false)
    (h : ∀ h' tk b' fj dfj rf drf lj ms dms md t1 t2 t3 k0 k1 k2 k3 k4 k5 k6 tc vals nl T od, Due b'.toList rs → RowsAt T vals.toList rs → od.IsDictOf (KS w) (metaKV y) → (md == sysModules) = false → Fr h₀ L h' m →
      News h₀ L h' ((fj, instObj 464 dfj) :: (dfj, fj6 w k1 k2 k3 k4 k5 k6 rf lj ms md (40 + (told rs).length) tc) :: (rf, instObj 282 drf) :: (drf, rfDict w t1 t2 t3 mm) :: (mm, baObj b') :: (lj, listOf vals nl) :: (ms, instObj 324 dms) :: (dms, dictOf [ent w "_MetaStorer__path" k0 (.ref mt)] 1) :: (mt, ot) :: (md, od) :: (T ++ rest)) → Nd ((fj, instObj 464 dfj) :: (dfj, fj6 w k1 k2 k3 k4 k5 k6 rf lj ms md (40 + (told rs).length) tc) :: (rf, instObj 282 drf) :: (drf, rfDict w t1 t2 t3 mm) :: (mm, baObj b') :: (lj, listOf vals nl) :: (ms, instObj 324 dms) :: (dms, dictOf [ent w "_MetaStorer__path" k0 (.ref mt)] 1) :: (mt, ot) :: (md, od) :: (T ++ rest)) → Q (.ref fj) { s with heap := h', toks := tk }) :
    wpS (model PySem.Challenge.rw_jr0034_01.row.prog w) A (call (.ref 474) [.ref mm, .ref mt]) Q s := by
  refine Site.use S fun A₁ base₁ outer₁ env₁ mean₁ mg₁ mb₁ B₁ hA₁ hf₁ hke₁ X₁ T₁ _ _ _ => ?_
  refine' wpS_call (enterT (binds := [(PySem.Str.ofString "journalFile", .ref mm), (PySem.Str.ofString "metaFile", .ref mt)]) S F N ?ho ?hcd ?hb ?hl ?_ ?c1 ?c2 ?c3 ?c4)
  case ho => k_is
  case hcd => k_is
  case hb => exact binds_K (X₁.keeps F.keep) rfl (by k_is) rfl rfl rfl
  case hl => exact locs rfl
  case c1 => exact rfl
  case c2 => exact rfl
  case c3 => exact rfl
  case c4 => decide
  intro g L' h₁ F' N' S' l
  refine Site.use S' fun A₀ base outer env mean mg mb B hA hf hke X T room units calm => ?_
  refine S_cons (S_If (wpS_of ?_))
  walk_at "my steps"
  refine S_nil ?_
  refine S_cons (S_Return (S_Call_Name ?_))
  walk_at "my steps"
  refine S_callWith (K := hd.heap_1 w.params) ?kp (wpS_of ?_)
  case kp => k_is
  walk_at "my steps"
  rename Fr g _ _ _ => F2
  rename News g _ _ _ => N2
  refine fjmake_S (n := n) S' F2 N2 nd hb hbz hrs hok ht hsm fun h3 tk3 b' fj dfj rf drf lj ms dms md t1 t2 t3 k0 k1 k2 k3 k4 k5 k6 tc vals nl T od a1 a2 a3 a4 F3 N3 nd3 => ?_
  exact LeaveN.mk F3 N3 fun F4 N4 => h _ _ _ _ _ _ _ _ _ _ _ _ _ _ _ _ _ _ _ _ _ _ _ _ _ _ a1 a2 a3 a4 F4 N4 nd3
end
/- part B5 -/
section
section
variable {prog : Program} {w : World} {A : Around} {s : Shared} {env : Env}
theorem codeS_forT {target : PySem.Expr} {it : Value} {body orelse : List Stmt} {R : Flow → Shared → Prop} (I : Nat → Shared → Prop)
    (turn : ∀ n s, I n s → wpAny (model prog w) A (pyNext it) (fun r s₁ => match r with
      | none => wpS (model prog w) A (execs orelse env) R s₁
      | some v => wpAny (model prog w) A (letOwnedTupleGo target it v) (fun _ s₁ => wpAny (model prog w) A (assign target env v) (fun _ s₂ => wpS (model prog w) A (execs body env) (fun f s₃ => match f with
          | .next | .cont => ∃ m, m < n ∧ I m s₃
          | .brk => R .next s₃
          | .ret v => R (.ret v) s₃) s₂) noE s₁) noE s₁) noE s)
    (n : Nat) (h : I n s) : codeS (model prog w) A (.forLoop target it body orelse env) R s := by
  refine codeS_loop rfl I (fun n s hI => ?_) rfl n h
  show wpS _ A ((forTurn target it body orelse env).onRaise (fun x => do noteFrame x env; theTreesLotGoes x)) _ s
  refine wpS_onRaise ?_
  simp only [forTurn]
  refine wpS_bind (wpS_standAt (wpS_bind (wpS_onRaise (wpS_mono (wpS_of (turn n s hI)) (fun r s₁ h₁ => ?_)))))
  cases r with
  | none => exact wpS_pure (.inr ⟨rfl, codeS_block h₁⟩)
  | some v =>
    refine wpS_bindAny (wpAny_mono h₁ (fun _ s₁' h₁' => ?_) fun _ _ h' => h')
    refine wpS_bindAny (wpAny_mono h₁' (fun _ s₂ h₂ => wpS_bind (wpS_mono h₂ (fun f s₃ h₃ => ?_))) fun _ _ h' => h')
    cases f with
    | next => exact wpS_pure (.inl ⟨rfl, h₃⟩)
    | cont => exact wpS_pure (.inl ⟨rfl, h₃⟩)
    | brk => exact wpS_pure h₃
    | ret v => exact wpS_pure h₃
end
section
variable {prog : Program} {w : World} {A : Around} {s : Shared} {h₀ : Heap} {m : PySem.Str → Option Value} {news : List (Addr × Obj)} {env : Env} {elts : List PySem.Expr} {x1 : Nat} {pos : Pos} {body : List Stmt} {I l : Addr} {its : Array Value} {nl : Nat} {o : Obj}
theorem S_forListT {R : Flow → Shared → Prop} (J : Nat → (PySem.Str → Option Value) → List (Addr × Obj) → Prop) (hh : A.handled = none)
    (F : Fr h₀ env.locals s.heap m) (N : News h₀ env.locals s.heap ((I, o) :: news)) (ho : LiObj l 0 o) (h0 : J 0 m news) (hoff : ∀ i m₁ news₁, J i m₁ news₁ → Off I news₁ ∧ (l, listOf its nl) ∈ news₁)
    (hrefs : ∀ (i : Nat) (v : Value), its[i]? = some v → ∃ a : Addr, v = Value.ref a)
    (turn : ∀ i v m₁ news₁ h tk o, its[i]? = some v → J i m₁ news₁ → Fr h₀ env.locals h m₁ → News h₀ env.locals h ((I, o) :: news₁) →
      wpAny (model prog w) A (assign (.Tuple elts x1 pos) env v) (fun _ s₂ => wpS (model prog w) A (execs body env) (fun f s₃ => f = .next ∧ ∃ h' tk' m' news', s₃ = { s with heap := h', toks := tk' } ∧ Fr h₀ env.locals h' m' ∧ News h₀ env.locals h' ((I, o) :: news') ∧ J (i + 1) m' news') s₂) noE { s with heap := h, toks := tk })
    (done : ∀ m₁ news₁ h tk, J its.size m₁ news₁ → Fr h₀ env.locals h m₁ → News h₀ env.locals h news₁ → R .next { s with heap := h, toks := tk }) :
    codeS (model prog w) A (.forLoop (.Tuple elts x1 pos) (.ref I) body [] env) R s := by
  refine codeS_forT (fun k s' => ∃ h' tk' m' news' i o, s' = { s with heap := h', toks := tk' } ∧ Fr h₀ env.locals h' m' ∧ News h₀ env.locals h' ((I, o) :: news') ∧ LiObj l i o ∧ J i m' news' ∧ i ≤ its.size ∧ k = its.size + 1 - i) ?_ (its.size + 1)
    ⟨s.heap, s.toks, m, news, 0, o, rfl, F, N, ho, h0, Nat.zero_le _, rfl⟩
  rintro k s' ⟨h', tk', m', news', i, o', rfl, F', N', ho', hJ, hi, rfl⟩
  obtain ⟨hof, hmem⟩ := hoff _ _ _ hJ
  have hit := li_at (N' _ (.head _)).1 ho'
  have hlist : h'.IsList l its := ⟨_, (N' _ (.tail _ hmem)).1, rfl, _, rfl⟩
  by_cases hlt : i < its.size
  · refine wpAny_pyNext_list_item hit hlist (x := its[i]) (by simp [hlt]) fun h₁ hit₁ hs₁ => ?_
    obtain ⟨a, ea⟩ := hrefs i its[i] (by simp [hlt])
    have hit₂ := hit₁
    obtain ⟨o₁, hg, hc, hd⟩ := hit₁
    obtain ⟨F1, N1⟩ := upd_head F' N' hof.off hs₁ hg
    have ht := turn i its[i] m' news' h₁ tk' o₁ (by simp [hlt]) hJ F1 N1
    dsimp only
    rw [ea] at ht ⊢
    refine wpAny_letOwnedTupleGo_listiter (s := ⟨h₁, _, _, _, _⟩) hit₂ ?_
    refine wpAny_mono ht (fun _ s₂ h₂ => wpS_mono h₂ ?_) (fun _ _ x => x)
    rintro f s₃ ⟨rfl, h₃, tk₃, m₃, news₃, rfl, F3, N3, hJ3⟩
    exact ⟨its.size + 1 - (i + 1), by (first | lia | omega), h₃, tk₃, m₃, news₃, i + 1, o₁, rfl, F3, N3, ⟨hc, by push_cast at hd ⊢; exact hd⟩, hJ3, hlt, rfl⟩
  · have hin : i = its.size := by (first | lia | omega)
    subst hin
    refine wpAny_pyNext_list_end hh hit hlist (by simp) fun h₁ he₁ => S_nil ?_
    obtain ⟨F1, N1⟩ := upd_ext F' N' hof.off he₁
    exact done m' news' h₁ tk' hJ F1 N1
end
theorem RowsAt.refs {a : List (Addr × Obj)} {vs : Array Value} {rs : List Rw} (h : RowsAt a vs.toList rs) : ∀ (i : Nat) (v : Value), vs[i]? = some v → ∃ x, v = .ref x := fun i v e => by
  rw [← Array.getElem?_toList] at e
  obtain ⟨r, _, x, _, _, _, e', _⟩ := h.get e
  exact ⟨x, e'⟩
end
/- part B6 -/
section
open Builtin
namespace BA
theorem look_bytes_int : typeLookup (.type "int") "__bytes__" = pure none := by rw [typeLookup_type, builtinLookup_eq_fast]; kernel_rfl
section
variable {prog : Program} {w : World} {A : Around} {E : Value → Shared → Prop} {s : Shared} {i : Int} {t : Tok}
theorem bytes_count {Q : Value → Shared → Prop} (h0 : 0 ≤ i) (hz : i ≤ 1000) (h : ∀ t k, Q (.bytes (List.replicate i.toNat (0 : UInt8)).toArray t) { s with toks := k }) : wpAny (model prog w) A (call (.type "bytes") [.int i t]) Q E s := by
  refine callType_codes (Q₁ := fun obj s₁ => s₁.TypeIs obj "bytes" ∧ Q obj s₁) PySem.F.bm_called (PySem.F.bm_typeCall _) PySem.F.entry_object_init ?_ fun obj s₁ h₁ =>
    ⟨h₁.1, PySem.F.args_object_init_2 obj _, object_init_meets PySem.F.bm_called.init.lookup PySem.F.bm_called.made (by decide) prog w A.in1 _ s₁ ⟨h₁.1, rfl, h₁.2⟩⟩
  refine codeAny_of_tree ?_
  show wpAny _ A.in1.in1 (do checkBuiltinCall "bytes.__new__" ⟨[.type "bytes", .int i t], []⟩; again (.builtin "bytes.__new__" ⟨[.type "bytes", .int i t], []⟩)) _ _ s
  refine wpAny_bind (wpAny_of_eq (PySem.F.bm_newCall _) (wpAny_pure ⟨plainId_quiet PySem.F.bm_plain _, codeAny_builtin PySem.F.bm_entry ?_⟩))
  rw [Around.under_plainId PySem.F.bm_plain _]
  unfold Builtin.«bytes.__new__»
  refine wpAny_bind (wpAny_of_eq (a := true) (by kernel_rfl) ?_)
  refine wpAny_ite ?_
  rw [if_neg (by decide)]
  refine wpAny_bind (wpAny_of_eq PySem.F.bm_sub ?_)
  refine wpAny_ite ?_
  rw [if_neg (by decide)]
  refine wpAny_bind (wpAny_of_eq (PySem.F.bm_bind _) ?_)
  refine wpAny_bind (wpAny_of_eq (a := ()) rfl ?_)
  refine wpAny_bind (wpAny_of_eq (a := ()) rfl ?_)
  dsimp only
  refine wpAny_ite ?_
  rw [if_neg (by decide)]
  refine wpAny_bind (wpAny_specialOf (T := "int") (typeIs_int _ _ _) look_bytes_int ?_)
  dsimp only
  refine wpAny_bind (wpAny_of_eq (a := false) rfl ?_)
  refine wpAny_ite ?_
  rw [if_neg (by decide)]
  refine wpAny_bind (wpAny_specialOf (T := "int") (typeIs_int _ _ _) PySem.F.slot_int_index.lookup ?_)
  refine wpAny_ite ?_
  rw [if_neg (by decide)]
  refine wpAny_bind (wpAny_attempt (wpAny_of_eq (a := i) rfl ?_))
  dsimp only
  have hf : Bytes.fitsIndex i = true := by
    unfold Bytes.fitsIndex
    rw [decide_eq_true (by (first | lia | omega)), decide_eq_true (by (first | lia | omega))]; rfl
  refine wpAny_ite ?_
  rw [hf, if_neg (by decide)]
  refine wpAny_ite ?_
  rw [if_neg (by (first | lia | omega))]
  refine wpAny_ite ?_
  rw [if_neg (by (first | lia | omega))]
  refine wpAny_ite ?_
  rw [if_neg (by
    unfold Bytes.tooLong
    rw [decide_eq_true_eq, sizeLine_eq]
    (first | lia | omega))]
  refine wpAny_bind (wpAny_rule (wpAny_bind (wpAny_mkBytes ?_ (by rw [Array.size_replicate, sizeLine_eq]; (first | lia | omega)))))
  show wpAny _ _ (if (Value.type "bytes" == Value.type "bytes") = true then _ else _) _ _ _
  refine wpAny_ite ?_
  rw [if_pos (by decide), ← List.toArray_replicate]
  exact wpAny_bind (wpAny_pure (wpAny_pure ⟨PySem.W.typeIs_bytes _ _ _, h _ _⟩))
end
end BA
section
variable {prog : Program} {w : World} {A : Around} {E : Value → Shared → Prop} {s : Shared} {h₀ : Heap} {L D : Addr} {m : PySem.Str → Option Value} {news : List (Addr × Obj)} {vs : List Value} {ns : List Int} {nl : Nat}
theorem bytes_lits {Q : Value → Shared → Prop} (hh : A.handled = none) (F : Fr h₀ L s.heap m) (N : News h₀ L s.heap news) (hm : (D, listOf vs.toArray nl) ∈ news) (hi : IntsAre vs ns) (hr : ∀ n ∈ ns, 0 ≤ n ∧ n < 256) (hn : ns.length ≤ 1000)
    (h : ∀ h' t' k, Fr h₀ L h' m → News h₀ L h' news → Q (.bytes (ns.map fun n => n.toNat.toUInt8).toArray t') { s with heap := h', toks := k }) : wpAny (model prog w) A (call (.type "bytes") [.ref D]) Q E s :=
  KBa.make_K F N hh ⟨_, (N _ hm).1, rfl, _, rfl⟩ hi hr (by (first | lia | omega)) fun h' t' k F' N' _ => h h' t' k F' N'
theorem mul_l {b : List UInt8} {i : Int} {t u : Tok} {Q : Value → Shared → Prop} (hb : b ≠ []) (h2 : 2 ≤ i) (hn : i ≤ 1000) (hs : b.length ≤ 1000) (h : ∀ t' k, Q (.bytes ((List.replicate i.toNat b).flatten).toArray t') { s with toks := k }) :
    wpAny (model prog w) A (binaryOp .Mult (.bytes b.toArray t) (.int i u)) Q E s := by
  refine bytes_mul_K hb h2 (by (first | lia | omega)) ?_ rfl h
  have : b.length * i.toNat ≤ 1000 * 1000 := Nat.mul_le_mul hs (by (first | lia | omega))
  (first | lia | omega)
end
end
/- part C20 -/
local macro_rules | `(tactic| walk_at "my size") => `(tactic| first | assumption | decide | (first | lia | omega) | (simp only [List.size_toArray, List.length_append, List.length_cons, List.length_nil, leB_length, List.length_replicate, List.length_map, List.length_take, List.length_drop, Int.reduceToNat]; (first | lia | omega)))
local macro_rules | `(tactic| walk_at "call type:bytes") => `(tactic| (k_here; (with_reducible show wpAny _ _ (call (Value.type "bytes") [Value.int _ _]) _ _ _); k_dflt (refine' BA.bytes_count ?k0 ?k1 ?_; (case k0 => walk_at "my size"); (case k1 => walk_at "my size")); intro _ _))
local macro_rules | `(tactic| walk_at "call type:bytes") => `(tactic| (k_here; (with_reducible show wpAny _ _ (call (Value.type "bytes") [Value.ref _]) _ _ _); k_dflt (refine' bytes_lits ?k0 ?k1 ?k2 ?k3 ?k4 ?k5 ?k6 ?_; (case k0 => assumption); (case k1 => k_asm); (case k2 => k_asm); (case k3 => k_mem); (case k4 => repeat' constructor); (case k5 => (simp only [List.mem_cons, List.not_mem_nil, or_false, forall_eq_or_imp, forall_eq]; (first | lia | omega))); (case k6 => decide)); intro _ _ _ _ _; (try dsimp only [List.map_cons, List.map_nil])))
abbrev octLoc (lr : Addr) (x1 x2 x3 x4 : Option Value) (l : List UInt8) (t : Tok) : PySem.Str → Option Value := fun z =>
  if z = PySem.Str.ofString "told" then some (.bytes l.toArray t) else if z = PySem.Str.ofString "size" then x4 else if z = PySem.Str.ofString "term" then x3 else if z = PySem.Str.ofString "idx" then x2 else
  if z = PySem.Str.ofString "command" then x1 else List.lookup z [(PySem.Str.ofString "rows", .ref lr)]
theorem octNorm {h₀ h : Heap} {L lr : Addr} {x1 x2 x3 x4 y1 y2 y3 y4 : Option Value} {l l1 : List UInt8} {t ta : Tok} (F : Fr h₀ L h (fun z => if z = PySem.Str.ofString "told" then some (.bytes l1.toArray ta) else if z = PySem.Str.ofString "size" then y4 else if z = PySem.Str.ofString "term" then y3 else
    if z = PySem.Str.ofString "idx" then y2 else if z = PySem.Str.ofString "command" then y1 else octLoc lr x1 x2 x3 x4 l t z)) {l' : List UInt8} (hl : l1 = l') : Fr h₀ L h (octLoc lr y1 y2 y3 y4 l' ta) := by
  subst hl
  refine Fr_of (fun z => ?_) F
  dsimp only [octLoc]
  by_cases q1 : z = PySem.Str.ofString "told"
  · simp only [if_pos q1]
  by_cases q2 : z = PySem.Str.ofString "size"
  · simp only [if_neg q1, if_pos q2]
  by_cases q3 : z = PySem.Str.ofString "term"
  · simp only [if_neg q1, if_neg q2, if_pos q3]
  by_cases q4 : z = PySem.Str.ofString "idx"
  · simp only [if_neg q1, if_neg q2, if_neg q3, if_pos q4]
  by_cases q5 : z = PySem.Str.ofString "command"
  · simp only [if_neg q1, if_neg q2, if_neg q3, if_neg q4, if_pos q5]
  simp only [if_neg q1, if_neg q2, if_neg q3, if_neg q4, if_neg q5]
theorem octFirst {lr : Addr} {t : Tok} : (fun y => if y = PySem.Str.ofString "told" then some (Value.bytes #[] t) else List.lookup y [(PySem.Str.ofString "rows", Value.ref lr)].reverse) = octLoc lr none none none none (told (List.take 0 ([] : List Rw))) t := by
  funext z
  dsimp only [octLoc]
  by_cases q1 : z = PySem.Str.ofString "told"
  · subst q1; rfl
  by_cases q2 : z = PySem.Str.ofString "size"
  · subst q2; rfl
  by_cases q3 : z = PySem.Str.ofString "term"
  · subst q3; rfl
  by_cases q4 : z = PySem.Str.ofString "idx"
  · subst q4; rfl
  by_cases q5 : z = PySem.Str.ofString "command"
  · subst q5; rfl
  simp only [if_neg q1, if_neg q2, if_neg q3, if_neg q4, if_neg q5]
  rfl
section
variable {w : World} {A : Around} {s : Shared} {h₀ : Heap} {L : Addr} {m : PySem.Str → Option Value} {rest : List (Addr × Obj)} {n : Nat}
set_option pp.deepTerms false in
set_option pp.maxSteps 4000 in
theorem octets_S {news : List (Addr × Obj)} {lr : Addr} {vals : Array Value} {nl : Nat} {rs : List Rw} {Q : Value → Shared → Prop} (S : Site w A h₀ L (n + 1)) (F : Fr h₀ L s.heap m) (N : News h₀ L s.heap news)
    (hm : (lr, listOf vals nl) ∈ news) (hR : RowsAt news vals.toList rs) (hrs : rs.length ≤ 9) (hok : ∀ r ∈ rs, OkR r)
    (h : ∀ h' tk t, Fr h₀ L h' m → News h₀ L h' news → Q (.bytes (due rs).toArray t) { s with heap := h', toks := tk }) :
    wpS (model PySem.Challenge.rw_jr0034_01.row.prog w) A (call (.ref 481) [.ref lr]) Q s := by
  refine' wpS_call (enterT (binds := [(PySem.Str.ofString "rows", .ref lr)]) S F N ?ho ?hcd ?hb ?hl ?_ ?c1 ?c2 ?c3 ?c4)
  case ho => k_is
  case hcd => k_is
  case hb => exact BindsTo.of_eq rfl
  case hl => exact locs rfl
  case c1 => exact rfl
  case c2 => exact rfl
  case c3 => exact rfl
  case c4 => decide
  intro g L' h₁ F' N' S' l
  refine Site.use S' fun A₀ base outer env mean mg mb B hA hf hke X T room units calm => ?_
  refine wpS_abs fun Q9 hQ9 => ?_
  refine S_clean ?_
  walk_at "my steps"
  refine S_cons (S_For (wpS_of ?_))
  walk_at "my steps"
  rename Fr g _ _ _ => F6
  rename News g _ _ _ => N6
  refine' iterList F6 N6 (l := lr) hm fun I o h6 ho F7 N7 l7 => ?_
  have hI := Off.of_lt l7
  clear F6 N6 l7
  refine S_forListT (l := lr) (its := vals) (nl := nl) (fun i m₁ news₁ => news₁ = news ∧ ∃ x1 x2 x3 x4 t, m₁ = octLoc lr x1 x2 x3 x4 (told (rs.take i)) t) calm F7 N7 ho ?_ ?_ hR.refs ?_ ?_
  · exact ⟨rfl, none, none, none, none, _, octFirst⟩
  · rintro i m₁ news₁ ⟨rfl, _⟩
    exact ⟨hI, hm⟩
  · rintro i v m₁ news₁ h7 tk7 o7 hv ⟨rfl, x1, x2, x3, x4, t, rfl⟩ F8 N8
    rw [← Array.getElem?_toList] at hv
    obtain ⟨r, hr, a, ta, tb, td, rfl, hma⟩ := hR.get hv
    have N10 := News_join (a := a) (o := tupR r ta tb td) ⟨N8 (a, tupR r ta tb td) (.tail _ hma)⟩ N8
    clear N8 F7 N7
    have ho1 := hok r (List.mem_of_getElem? hr)
    have ho2 := ho1.c
    have ho3 := ho1.i
    have ho4 := ho1.t
    have htl := told_take_le rs i
    have htl2 := told_length_le hok
    refine unpackN_ (s := ⟨_, _, _, _, _⟩) (items := #[.bytes r.c.toArray ta, .int r.i tb, .int r.t td]) F8 N10 ⟨_, (N10 _ (.head _)).1, rfl, 0, rfl⟩ calm rfl rfl fun h8 F9 N9 => ?_
    clear N10 F8
    walk_at "my steps"
    refine S_clean ?_
    walk_at "my steps"
    refine S_clean ?_
    walk_at "my steps"
    rename Fr g _ _ _ => F10
    rename News g _ _ _ => N10
    have hs1 : rs.take (i + 1) = rs.take i ++ [r] := by
      rw [List.take_add_one, hr]
      rfl
    have F11 := octNorm F10 (l' := told (rs.take (i + 1))) (by
      rw [hs1, told_append, told_one, show (16 + (r.c.length : Int)).toNat = 16 + r.c.length by (first | lia | omega)]
      unfold recL
      simp only [List.append_assoc, Int.toNat_natCast])
    exact S_nil ⟨rfl, _, _, _, news₁, rfl, F11, fun p hp => N10 p (.tail _ hp), rfl, _, _, _, _, _, rfl⟩
  · rintro m₁ news₁ h7 tk7 ⟨rfl, x1, x2, x3, x4, t, rfl⟩ F8 N8
    rw [List.take_of_length_le (by rw [← Array.length_toList, hR.length]; exact Nat.le_refl _)] at F8
    have htl2 := told_length_le hok
    refine S_clean ?_
    walk_at "my steps"
    refine S_clean ?_
    walk_at "my steps"
    rename Fr g _ _ _ => F9
    rename News g _ _ _ => N9
    refine hQ9 _ _ ?_
    refine LeaveN.mk F9 N9 fun F10 N10 => ?_
    rw [show (40 + ((told rs).length : Int)).toNat = 40 + (told rs).length by (first | lia | omega)]
    exact h _ _ _ F10 fun p hp => N10 p (.tail _ hp)
end
/- part B7 -/
section
open SeqAt MeetsSeq
theorem all_true (n : Nat) : (List.range n).all (fun _ => true) = true := List.all_eq_true.mpr fun _ _ => rfl
section
variable {A : Around} {s : Shared}
theorem eqAt_of {x y : Value} {b : Bool} (h : RcAt A s x y b) (hb : (x == y) = true → b = true) (hf : ∀ a t, x ≠ .float a t) : EqAt A s x y b := fun prog w E Q hq => by
  unfold eqBool
  refine wpAny_holding ?_
  refine wpAny_ite_split (fun hab => ?_) (fun _ => ?_)
  · rw [hb hab] at hq
    exact wpAny_bind (wpAny_rule (wpAny_pure hq))
  · cases x with
    | float a t => exact absurd rfl (hf a t)
    | _ => exact wpAny_bind (h prog w E _ (wpAny_truthy_bool hq))
theorem rc_bytes {b c : Array UInt8} {t u : Tok} : RcAt A s (.bytes b t) (.bytes c u) (b.toList == c.toList) := fun prog w E Q h => PySem.W.eq_bytes h
theorem eqAt_bytes {b : Array UInt8} {t u : Tok} : EqAt A s (.bytes b t) (.bytes b u) true := eqAt_of (by have := rc_bytes (A := A) (s := s) (b := b) (c := b) (t := t) (u := u); rwa [beq_self_eq_true] at this) (fun _ => rfl) (fun _ _ e => by cases e)
theorem eqAt_int {a : Int} {t u : Tok} : EqAt A s (.int a t) (.int a u) true := by
  have := (EqGives.int a a t u).at A s
  rwa [beq_self_eq_true] at this
theorem eqAt_str {a : PySem.Str} {t u : Tok} : EqAt A s (.str a t) (.str a u) true := by
  refine eqAt_of ?_ (fun _ => rfl) (fun _ _ e => by cases e)
  have := RcAt.str_str (A := A) (s := s) a t a u
  rwa [beq_self_eq_true] at this
theorem isTup_of {h₀ : Heap} {L : Addr} {news : List (Addr × Obj)} {a : Addr} {its : Array Value} {n : Nat} (N : News h₀ L s.heap news) (hm : (a, { cls := .type "tuple", data := .seq its n }) ∈ news) : s.heap.IsTuple a its := ⟨_, (N _ hm).1, rfl, n, rfl⟩
theorem eqAt_row {h₀ : Heap} {L : Addr} {news : List (Addr × Obj)} {x y : Value} {r : Rw} (N : News h₀ L s.heap news) (hx : RowAt news x r) (hy : RowAt news y r) (hu : A.units < cLine) : EqAt A s x y true := by
  obtain ⟨a, ta, tb, td, rfl, ha⟩ := hx
  obtain ⟨b, ua, ub, ud, rfl, hb⟩ := hy
  by_cases e : a = b
  · subst e
    exact EqAt.same _
  · refine EqAt.of_refs e ?_
    have := RcAt.tuples (A := A) (e := fun _ => true) (isTup_of N ha) (isTup_of N hb) hu (fun j h1 h2 => ?_)
    · rw [all_true] at this
      exact this
    · have hj : j < 3 := h1
      rcases j with _ | _ | _ | j
      · exact eqAt_bytes
      · exact eqAt_int
      · exact eqAt_int
      · (first | lia | omega)
theorem RowsAt.at {a : List (Addr × Obj)} : ∀ {vs us : List Value} {rs : List Rw}, RowsAt a vs rs → RowsAt a us rs → ∀ (j : Nat) (h1 : j < vs.length) (h2 : j < us.length), ∃ r, RowAt a vs[j] r ∧ RowAt a us[j] r
  | _ :: _, _ :: _, r :: _, h, k, 0, _, _ => ⟨r, h.1, k.1⟩
  | _ :: _, _ :: _, _ :: _, h, k, j + 1, h1, h2 => RowsAt.at h.2 k.2 j (by simpa using h1) (by simpa using h2)
  | [], _, _, _, _, _, h1, _ => absurd h1 (Nat.not_lt_zero _)
  | _ :: _, [], _, _, _, _, _, h2 => absurd h2 (Nat.not_lt_zero _)
  | _ :: _, _ :: _, [], h, _, _, _, _ => h.elim
end
section
variable {prog : Program} {w : World} {A : Around} {E : Value → Shared → Prop} {s : Shared} {h₀ : Heap} {L : Addr} {news : List (Addr × Obj)}
theorem ne_rows {a b : Addr} {va vb : Array Value} {na nb : Nat} {rs : List Rw} {Q : Value → Shared → Prop} (N : News h₀ L s.heap news) (ha : (a, listOf va na) ∈ news) (hb : (b, listOf vb nb) ∈ news) (Ra : RowsAt news va.toList rs) (Rb : RowsAt news vb.toList rs) (hu : A.units + 1 < cLine)
    (h : Q (.bool false) s) : wpAny (model prog w) A (compareOp .NotEq (.ref a) (.ref b)) Q E s := by
  have hsz : va.size = vb.size := by
    rw [← Array.length_toList, ← Array.length_toList, Ra.length, Rb.length]
  refine RcNeAt.lists (A := A) (e := fun _ => true) ⟨_, (N _ ha).1, rfl, _, rfl⟩ ⟨_, (N _ hb).1, rfl, _, rfl⟩ hsz (by (first | lia | omega)) (fun j h1 h2 => ?_) prog w E Q (by rw [all_true]; exact h)
  obtain ⟨r, p, q⟩ := Ra.at Rb j (by simpa using h1) (by simpa using h2)
  rw [Array.getElem_toList] at p q
  exact eqAt_row N p q hu
theorem ne_now {a b : Addr} {tm : Int} {t u : Tok} {v v' : Value} {na nb : Nat} {Q : Value → Shared → Prop} (N : News h₀ L s.heap news) (ha : (a, { cls := .type "tuple", data := .seq #[.int tm t, v] na }) ∈ news) (hb : (b, { cls := .type "tuple", data := .seq #[.int tm u, v'] nb }) ∈ news)
    (hv : (v = .none ∧ v' = .none) ∨ ∃ q x y, v = .str q x ∧ v' = .str q y) (hu : A.units + 1 < cLine) (h : Q (.bool false) s) : wpAny (model prog w) A (compareOp .NotEq (.ref a) (.ref b)) Q E s := by
  refine RcNeAt.tuples (A := A) (e := fun _ => true) (isTup_of N ha) (isTup_of N hb) (by (first | lia | omega)) (fun j h1 h2 => ?_) prog w E Q (by rw [all_true]; exact h)
  have hj : j < 2 := h1
  rcases j with _ | _ | j
  · exact eqAt_int
  · rcases hv with ⟨rfl, rfl⟩ | ⟨q, x, y, rfl, rfl⟩
    · exact EqAt.same _
    · exact eqAt_str
  · (first | lia | omega)
end
end
/- part B8 -/
section
section
variable {w : World} {A : Around} {s : Shared} {h₀ : Heap} {L : Addr} {m : PySem.Str → Option Value} {news : List (Addr × Obj)} {n : Nat}
  {name qual : PySem.Str} {params : Arguments} {body : List Stmt} {scope : Scope} {dV kV doc pm cdv ct oc : Value} {an od : Option Addr} {osl : Array (Option Value)} {f : Addr} {args : Args} {binds : List (PySem.Str × Value)}
theorem enterC {Q : Value → Shared → Prop} (S : Site w A h₀ L (n + 1)) (F : Fr h₀ L s.heap m) (N : News h₀ L s.heap news)
    (ho : (hd.heap_1 w.params).lookup f = some ⟨oc, od, .func (fnOf name qual params body scope dV kV doc pm an cdv ct), osl⟩) (hcd : codeIn (hd.heap_1 w.params) cdv qual = true)
    (hbind : BindsTo s (fnOf name qual params body scope dV kV doc pm an cdv ct) args binds) (hkind : (binds.all fun y => scope.names.lookup y.1 == some .local || scope.names.lookup y.1 == some .cell) = true)
    (hnd : ((cellsFrom 0 scope.names []).map (·.1)).Nodup)
    (h : ∀ g L' h₁ tk cells, Fr g L' h₁ (bindL (envOfC qual scope L' f cdv).kindOf binds fun _ => none) → News g L' h₁ (cells ++ news) →
      CellsAre (bindC (envOfC qual scope L' f cdv).kindOf binds fun _ => none) (cellsFrom (L' + 1) scope.names []) cells → Site w (A.deeper (envOfC qual scope L' f cdv)) g L' n → (∀ p ∈ news, p.1 < L') →
      wpS (model PySem.Challenge.rw_jr0034_01.row.prog w) (A.deeper (envOfC qual scope L' f cdv)) (execs body (envOfC qual scope L' f cdv))
        (fun fl s' => LeaveN g L' h₀ L m Q (match fl with | .ret v => v | _ => .none) s')
        { s with heap := h₁, toks := tk })
    (hco : scope.isCoroutine = false) (hgen : scope.isGenerator = false) (hk : scope.kind = .function) :
    codeS (model PySem.Challenge.rw_jr0034_01.row.prog w) A (.call (.ref f) args) (fun f s' => ∃ v, f = .ret v ∧ Q v s') s := by
  obtain ⟨⟨A₀, base, outer, env, mean, mg, mb, B, hA, hf, hke, X, T⟩, room, units, calm⟩ := S
  refine codeS_defC B F X N T hA hf hke ho hcd (by (first | lia | omega)) hbind hkind hnd (fun g L' h₁ tk cells FG F' N' Y B' X' T' l => ?_) hco hgen hk
  refine wpS_mono (h g L' h₁ tk cells F' N' Y ⟨⟨A, base, env :: outer, envOfC qual scope L' f cdv, mean, mg, mb, B', Around.frames_deeper hA, rfl, hk, X', T'⟩, ?_, ?_, calm⟩ l) ?_
  · show A.depth + 1 + n < _
    (first | lia | omega)
  · show A.units + 3 + 5 * n < _
    (first | lia | omega)
  · rintro fl s' ⟨m', news', F1, N1, k⟩
    exact ⟨L', m', news', F1, N1, fun F2 N2 => ⟨_, rfl, k F2 N2⟩⟩
end
section
variable {M : Model} {A : Around} {s : Shared} {env : Env}
theorem S_Assign1 {x : PySem.Str} {px : Pos} {value : PySem.Expr} {pos : Pos} {Q : Flow → Shared → Prop}
    (h : wpS M A (eval value env) (fun v s₁ => wpAny M A (assign (.Name x px) env v) (fun _ => Q .next) noE s₁) s)
    (hs : swapsWithSole [.Name x px] value pos.line env = pure false := by rfl)
    (hw : swappedStores [.Name x px] value env = pure none := by rfl) :
    wpS M A (exec (.Assign [.Name x px] value pos) env) Q s := by
  rw [exec_Assign]
  refine wpS_bind (wpS_standAt ?_)
  rw [hs]
  refine wpS_bind (wpS_pure ?_)
  rw [if_neg (by decide)]
  refine wpS_bind (wpS_mono h (fun v s₁ h₁ => ?_))
  rw [hw]
  refine wpS_bind (wpS_pure (wpS_of ?_))
  show wpAny M A (do assignAll v [assign (.Name x px) env]; pure .next) Q noE s₁
  exact wpAny_bind (wpAny_mono h₁ (fun _ _ x => wpAny_pure x) fun _ _ x => x)
end
end
/- part B9 -/
section
section
variable {prog : Program} {w : World} {A : Around} {s : Shared} {h₀ : Heap} {m : PySem.Str → Option Value} {news : List (Addr × Obj)} {env : Env} {x : PySem.Str} {px : Pos} {body : List Stmt} {I t : Addr} {its : Array Value} {nt : Nat} {o : Obj}
/-- keeps the walk out -/
def Hide (P : Prop) : Prop := P
theorem Hide.mk {P : Prop} (h : P) : Hide P := h
def TiObj (t : Addr) (i : Nat) (o : Obj) : Prop := o.cls = .type "tuple_iterator" ∧ o.data = .fields #[.ref t, .int i 0]
abbrev tupO (its : Array Value) (n : Nat) : Obj := { cls := .type "tuple", data := .seq its n }
theorem iterTup {E : Value → Shared → Prop} {L : Addr} {Q : Value → Shared → Prop} (F : Fr h₀ L s.heap m) (N : News h₀ L s.heap news) (hm : (t, tupO its nt) ∈ news)
    (h : ∀ I o h', TiObj t 0 o → Fr h₀ L h' m → News h₀ L h' ((I, o) :: news) → (∀ p ∈ news, p.1 < I) → Q (.ref I) { s with heap := h' }) : wpAny (model prog w) A (pyIter (.ref t)) Q E s :=
  wpAny_pyIter_tuple ⟨_, (N _ hm).1, rfl, _, rfl⟩ (h _ _ _ ⟨rfl, rfl⟩ (F.push _) (N.push F _) (fun p hp => Heap.lt_size (N p hp).1))
theorem S_forTup {R : Flow → Shared → Prop} (J : Nat → (PySem.Str → Option Value) → List (Addr × Obj) → Prop) (hh : A.handled = none)
    (F : Fr h₀ env.locals s.heap m) (N : News h₀ env.locals s.heap ((I, o) :: news)) (ho : TiObj t 0 o) (h0 : J 0 m news) (hoff : ∀ i m₁ news₁, J i m₁ news₁ → Off I news₁ ∧ (t, tupO its nt) ∈ news₁)
    (turn : ∀ i v m₁ news₁ h tk o, its[i]? = some v → J i m₁ news₁ → Fr h₀ env.locals h m₁ → News h₀ env.locals h ((I, o) :: news₁) →
      wpAny (model prog w) A (assign (.Name x px) env v) (fun _ s₂ => wpS (model prog w) A (execs body env) (fun f s₃ => Hide (f = .next ∧ ∃ h' tk' m' news', s₃ = { s with heap := h', toks := tk' } ∧ Fr h₀ env.locals h' m' ∧ News h₀ env.locals h' ((I, o) :: news') ∧ J (i + 1) m' news')) s₂) noE { s with heap := h, toks := tk })
    (done : ∀ m₁ news₁ h tk, J its.size m₁ news₁ → Fr h₀ env.locals h m₁ → News h₀ env.locals h news₁ → R .next { s with heap := h, toks := tk }) :
    codeS (model prog w) A (.forLoop (.Name x px) (.ref I) body [] env) R s := by
  refine codeS_for (fun k s' => ∃ h' tk' m' news' i o, s' = { s with heap := h', toks := tk' } ∧ Fr h₀ env.locals h' m' ∧ News h₀ env.locals h' ((I, o) :: news') ∧ TiObj t i o ∧ J i m' news' ∧ i ≤ its.size ∧ k = its.size + 1 - i) ?_ (its.size + 1)
    ⟨s.heap, s.toks, m, news, 0, o, rfl, F, N, ho, h0, Nat.zero_le _, rfl⟩
  rintro k s' ⟨h', tk', m', news', i, o', rfl, F', N', ho', hJ, hi, rfl⟩
  obtain ⟨hof, hmem⟩ := hoff _ _ _ hJ
  have hit : h'.IsTupleIter I t i := ⟨o', (N' _ (.head _)).1, ho'.1, ho'.2⟩
  have htup : h'.IsTuple t its := ⟨_, (N' _ (.tail _ hmem)).1, rfl, _, rfl⟩
  by_cases hlt : i < its.size
  · refine wpAny_pyNext_tuple_item hit htup (x := its[i]) (by simp [hlt]) fun h₁ hit₁ hs₁ => ?_
    obtain ⟨o₁, hg, hc, hd⟩ := hit₁
    obtain ⟨F1, N1⟩ := upd_head F' N' hof.off hs₁ hg
    refine wpAny_mono (turn i its[i] m' news' h₁ tk' o₁ (by simp [hlt]) hJ F1 N1) (fun _ s₂ h₂ => wpS_mono h₂ ?_) (fun _ _ x => x)
    rintro f s₃ ⟨rfl, h₃, tk₃, m₃, news₃, rfl, F3, N3, hJ3⟩
    exact ⟨its.size + 1 - (i + 1), by (first | lia | omega), h₃, tk₃, m₃, news₃, i + 1, o₁, rfl, F3, N3, ⟨hc, by push_cast at hd ⊢; exact hd⟩, hJ3, hlt, rfl⟩
  · have hin : i = its.size := by (first | lia | omega)
    subst hin
    refine wpAny_pyNext_tuple_end hh hit htup (by simp) fun h₁ he₁ => S_nil ?_
    obtain ⟨F1, N1⟩ := upd_ext F' N' hof.off he₁
    exact done m' news' h₁ tk' hJ F1 N1
end
/-- one of the journals, as the ledger tells it -/
def Tells (w : World) (R : List (Addr × Obj)) (rs : List Rw) (tm : Int) (v1 : Value) (one : Value) : Prop :=
  (∃ fj dfj rf lj ms md k1 k2 k3 k4 k5 k6 tc cur vF nF od y, one = .ref fj ∧ (fj, instObj 464 dfj) ∈ R ∧ (dfj, fj6 w k1 k2 k3 k4 k5 k6 rf lj ms md cur tc) ∈ R ∧ (lj, listOf vF nF) ∈ R ∧ (md, od) ∈ R ∧ RowsAt R vF.toList rs ∧
    od.IsDictOf (KS w) (metaKV y) ∧ (md == sysModules) = false ∧ ((y = none ∧ tm = 0 ∧ v1 = .none) ∨ ∃ ty, y = some (tm, ty, v1))) ∨
  (∃ mj dmj lm q1 q2 q3 q4 q5 z2 z3 ti v2 vM nM, one = .ref mj ∧ (mj, instObj 241 dmj) ∈ R ∧ (dmj, mj5 w q1 q2 q3 q4 q5 z2 z3 lm (.int tm ti) v2) ∈ R ∧ (lm, listOf vM nM) ∈ R ∧ RowsAt R vM.toList rs ∧
    ((v1 = .none ∧ v2 = .none) ∨ ∃ q a b, v1 = .str q a ∧ v2 = .str q b))
theorem mem_cut1 {a T r : List (Addr × Obj)} {q : Addr × Obj} {p : Addr × Obj} (h : p ∈ a ++ (T ++ r)) : p ∈ a ++ (T ++ q :: r) := by
  simp only [List.mem_append, List.mem_cons] at h ⊢
  rcases h with e | e | e
  · exact .inl e
  · exact .inr (.inl e)
  · exact .inr (.inr (.inr e))
theorem Nd.off1 {a T r : List (Addr × Obj)} {x : Addr} {o : Obj} (h : Nd (a ++ (T ++ (x, o) :: r))) : Off x (a ++ (T ++ r)) := by
  rw [← List.append_assoc] at h ⊢
  exact (Nd.unmid (a := a ++ T) h).2
theorem allLt_app {d : Nat} : ∀ {a b : List (Addr × Obj)}, AllLt d (a ++ b) → ∀ p ∈ a ++ b, p.1 < d
  | [], [], _, p, hp => nomatch hp
  | [], b :: r, h, p, hp => by
    rcases List.mem_cons.mp hp with rfl | hp
    · exact h.1
    · exact allLt_app (a := []) (b := r) h.2 p hp
  | a :: l, b, h, p, hp => by
    rcases List.mem_cons.mp hp with rfl | hp
    · exact h.1
    · exact allLt_app (a := l) (b := b) h.2 p hp
theorem Site.in1 {w : World} {A : Around} {h₀ : Heap} {L : Addr} {n : Nat} (S : Site w A h₀ L (n + 1)) : Site w A.in1 h₀ L n := by
  obtain ⟨⟨A₀, base, outer, env, mean, mg, mb, B, hA, hf, hke, X, T⟩, room, units, calm⟩ := S
  refine ⟨⟨A₀, base, outer, env, mean, mg, mb, B, hA, hf, hke, X, T⟩, ?_, ?_, calm⟩
  · show A.depth + n < _
    (first | lia | omega)
  · show A.units + 1 + 5 * n < _
    (first | lia | omega)
open LCg in
theorem compRest_vals {prog : Program} {w : World} {A : Around} {h₀ : Heap} {L : Addr} {m : PySem.Str → Option Value} {env : Env} {elt : PySem.Expr} {x : PySem.Str} {scope : Scope} {cl : List (PySem.Str × Addr)} {s : Shared} {S : List (Addr × Obj) → Prop} {P : Nat → Value → Prop} {Fin : List Value → List (Addr × Obj) → Prop} {news : List (Addr × Obj)}
    (vals : List Value) (fin : Fin vals news)
    (turn : ∀ (i : Nat) (y v : Value) (I : Addr) (oI : Obj) (C : Addr) (oC : Obj) (D : Addr) (ys : List Value) (m₂ : PySem.Str → Option Value) (h : Heap) (tk : Nat) (E' : Value → Shared → Prop) (K : Value → List (Addr × Obj) → Prop), vals[i]? = some y → P i v → NsObj oC m₂ → m₂ x = some v → Fr h₀ L h m →
      News h₀ L h ((I, oI) :: (C, oC) :: (D, lst ys) :: news) → Off3 I C D news → ((@Ne Nat I C) ∧ (@Ne Nat I D) ∧ (@Ne Nat C D)) → K y news →
      wpAny (model prog w) A (eval elt (compEnvC scope cl C env)) (CompEnd h₀ L m { s with heap := h, toks := tk } I oI C oC D (lst ys) S K) E' { s with heap := h, toks := tk }) :
    CompRest prog w A h₀ L m env elt x scope cl s S P Fin vals.length 0 [] news := by
  have aux : ∀ k i, i + k = vals.length → CompRest prog w A h₀ L m env elt x scope cl s S P Fin k i (vals.take i) news := by
    intro k
    induction k with
    | zero =>
      intro i hi
      rw [List.take_of_length_le (by (first | lia | omega))]
      exact CompRest.zero fin
    | succ k ih =>
      intro i hi
      refine CompRest.succ fun v I oI C oC D m₂ h tk E' hP hn hx F N o3 ne => ?_
      have hl : i < vals.length := by (first | lia | omega)
      refine turn i vals[i] v I oI C oC D _ m₂ h tk E' _ (List.getElem?_eq_getElem hl) hP hn hx F N o3 ne ?_
      have := ih (i + 1) (by (first | lia | omega))
      rw [List.take_add_one, List.getElem?_eq_getElem hl] at this
      exact this
  exact aux vals.length 0 (by (first | lia | omega))
end
/- part C21 -/
local macro_rules | `(tactic| walk_at "call type:bytes") => `(tactic| (k_here; (with_reducible show wpAny _ _ (call (Value.type "bytes") [Value.ref _]) _ _ _); k_dflt (refine' BA.bytes_N ?k0 ?k1 ?k2 ?_; (case k0 => k_asm); (case k1 => k_mem); (case k2 => walk_at "my picked")); intro _ _))
local macro_rules | `(tactic| walk_at "my picked") => `(tactic| first | assumption | (first | lia | omega) | (refine Nat.le_trans (KBc.size_picked_le _ _ _) ?_; first | assumption | (first | lia | omega)))
local macro_rules | `(tactic| walk_at "subscriptTail Name Slice ref ref") => `(tactic| (k_here; (with_reducible show wpAny _ _ (subscriptTail _ (PySem.Expr.Slice _ _ none _) (Value.ref _) (Value.ref _)) _ _ _); (with_reducible rename Fr _ _ _ _ => F'); (with_reducible rename News _ _ _ _ => N'); (refine' BA.slice_N (s := ⟨_, _, _, _, _⟩) F' N' ?k1 ?k2 ?k3 ?k4 ?_); (case k1 => k_mem); (case k2 => constructor); (case k3 => constructor); (case k4 => (rw [sizeLine_eq]; (first | lia | omega))); intro _ _ _ _ l1; (try k_lt l1); (try k_sweep)))
section
variable {w : World} {A : Around} {s : Shared} {h₀ : Heap} {L : Addr} {m : PySem.Str → Option Value} {n : Nat}
theorem fjTerm_T {news : List (Addr × Obj)} {fj dfj rf lj ms md : Addr} {k1 k2 k3 k4 k5 k6 tc : Tok} {cur tm : Int} {v1 : Value} {E : Value → Shared → Prop} {Q : Value → Shared → Prop} {od : Obj} {y : Option (Int × Tok × Value)} (S : Site w A h₀ L (n + 1)) (F : Fr h₀ L s.heap m) (N : News h₀ L s.heap news) (m1 : (fj, instObj 464 dfj) ∈ news) (m2 : (dfj, fj6 w k1 k2 k3 k4 k5 k6 rf lj ms md cur tc) ∈ news) (m3 : (md, od) ∈ news) (hdd : od.IsDictOf (KS w) (metaKV y)) (hsm : (md == sysModules) = false)
    (c8 : (y = none ∧ tm = 0 ∧ v1 = .none) ∨ ∃ ty, y = some (tm, ty, v1)) (h : ∀ h' tk t, Fr h₀ L h' m → News h₀ L h' news → Q (.int tm t) { s with heap := h', toks := tk }) : wpAny (model PySem.Challenge.rw_jr0034_01.row.prog w) A (call (.ref 447) [.ref fj]) Q E s :=
  fjTerm_A S F N m1 m2 m3 hdd hsm fun h' tk F' N' t => by rcases c8 with ⟨rfl, rfl, _⟩ | ⟨_, rfl⟩ <;> exact h h' tk t F' N'
theorem fjVote_T {news : List (Addr × Obj)} {fj dfj rf lj ms md : Addr} {k1 k2 k3 k4 k5 k6 tc : Tok} {cur tm : Int} {v1 : Value} {E : Value → Shared → Prop} {Q : Value → Shared → Prop} {od : Obj} {y : Option (Int × Tok × Value)} (S : Site w A h₀ L (n + 1)) (F : Fr h₀ L s.heap m) (N : News h₀ L s.heap news) (m1 : (fj, instObj 464 dfj) ∈ news) (m2 : (dfj, fj6 w k1 k2 k3 k4 k5 k6 rf lj ms md cur tc) ∈ news) (m3 : (md, od) ∈ news) (hdd : od.IsDictOf (KS w) (metaKV y)) (hsm : (md == sysModules) = false)
    (c8 : (y = none ∧ tm = 0 ∧ v1 = .none) ∨ ∃ ty, y = some (tm, ty, v1)) (h : ∀ h' tk, Fr h₀ L h' m → News h₀ L h' news → Q v1 { s with heap := h', toks := tk }) : wpAny (model PySem.Challenge.rw_jr0034_01.row.prog w) A (call (.ref 454) [.ref fj]) Q E s :=
  fjVote_A S F N m1 m2 m3 hdd hsm fun h' tk F' N' => by rcases c8 with ⟨rfl, _, rfl⟩ | ⟨_, rfl⟩ <;> exact h h' tk F' N'
end
local macro_rules | `(tactic| walk_at "compareOp NotEq ref ref") => `(tactic| (k_here; (with_reducible rename News _ _ _ _ => N'); (refine' ne_now (s := ⟨_, _, _, _, _⟩) N' ?a ?b ?v ?u ?_; (case a => k_mem); (case b => k_mem); (case v => with_reducible assumption); (case u => with_reducible assumption))))
local macro_rules | `(tactic| walk_at "eval Name") => `(tactic| (k_here; k_dflt (refine' nameX_L ?F ?v ?_ ?a ?b; (case F => k_asm); (case v => with_reducible assumption); (case a => rfl); (case b => rfl); k_whole)))
noncomputable def fnStmts (w : World) (f : Addr) : List Stmt := match (hd.heap_1 w.params).lookup f with
  | some o => match o.data with
    | .func fd => match fd.body with | .stmts b => b | _ => []
    | _ => []
  | none => []
noncomputable def fnEnvC (w : World) (f : Addr) (L' : Addr) : Env := match (hd.heap_1 w.params).lookup f with
  | some o => match o.data with
    | .func fd => envOfC fd.qualname fd.scope L' f fd.code
    | _ => default
  | none => default
noncomputable def rightBody (w : World) : List Stmt := match fnStmts w 486 with
  | [_, _, .For _ _ b _ _, _] => b
  | _ => []
section
variable {w : World} {A : Around} {s : Shared} {h₀ : Heap} {L : Addr} {m : PySem.Str → Option Value} {rest : List (Addr × Obj)} {n : Nat}
set_option pp.deepTerms false in
set_option pp.maxSteps 4000 in
theorem rightF_S {g : Heap} {L' : Addr} {m0 : PySem.Str → Option Value} {news : List (Addr × Obj)} {oc : Obj} {lr nw : Addr} {nR nn wn : Nat} {vR wF : Array Value} {rs : List Rw} {tm : Int} {tj : Tok} {v1 v3 : Value} {fj dfj rf lj ms md : Addr} {k1 k2 k3 k4 k5 k6 tc : Tok} {cur : Int} {od : Obj} {y : Option (Int × Tok × Value)}
    (S' : Site w (A.deeper (fnEnvC w 486 L')) g L' (n + 11)) (F : Fr g L' s.heap m0) (N : News g L' s.heap news) (mc : (L' + 1, oc) ∈ news) (hoc : oc.data = .cell (some (.ref fj)))
    (hr : m0 (PySem.Str.ofString "rows") = some (.ref lr)) (hn : m0 (PySem.Str.ofString "now") = some (.ref nw)) (mR : (lr, listOf vR nR) ∈ news) (mN : (nw, tupO #[.int tm tj, v3] nn) ∈ news)
    (c5 : RowsAt news wF.toList rs) (hR : RowsAt news vR.toList rs) (hrs : rs.length ≤ 9) (c1 : (fj, instObj 464 dfj) ∈ news) (c2 : (dfj, fj6 w k1 k2 k3 k4 k5 k6 rf lj ms md cur tc) ∈ news) (c3 : (lj, listOf wF wn) ∈ news) (c4 : (md, od) ∈ news)
    (c6 : od.IsDictOf (KS w) (metaKV y)) (c7 : (md == sysModules) = false) (c8 : (y = none ∧ tm = 0 ∧ v1 = .none) ∨ ∃ ty, y = some (tm, ty, v1)) (hv : (v1 = .none ∧ v3 = .none) ∨ ∃ q a b, v1 = .str q a ∧ v3 = .str q b) :
    wpS (model PySem.Challenge.rw_jr0034_01.row.prog w) (A.deeper (fnEnvC w 486 L')) (execs (rightBody w) (fnEnvC w 486 L')) (fun f s₃ => Hide (f = .next ∧ ∃ h' tk', s₃ = { s with heap := h', toks := tk' } ∧ Fr g L' h' m0 ∧ News g L' h' news)) s := by
  change Site w (A.deeper (envOfC _ _ L' _ _)) g L' (n + 11) at S'
  dsimp only at S'
  change wpS _ (A.deeper (envOfC _ _ L' _ _)) (execs (_ :: _ :: []) (envOfC _ _ L' _ _)) _ _
  dsimp only
  refine Site.use S' fun A₀ base outer env mean mg mb B hA hf hke X T room units calm => ?_
  have hu1 := Nat.lt_of_le_of_lt (Nat.add_le_add_left (show 1 ≤ 5 * (n + 11) by (first | lia | omega)) _) units
  have hvR : vR.size = rs.length := by rw [← Array.length_toList]; exact hR.length
  have hwF : wF.size = rs.length := by rw [← Array.length_toList]; exact c5.length
  have hwl : wF.toList.length = vR.size := by rw [c5.length, hvR]
  refine S_clean ?_
  walk_at "my steps"
  rename Fr g _ _ _ => F18
  rename News g _ _ _ => N18
  refine' fjLen_A (n := 0) (S'.less (show 2 ≤ n + 11 by (first | lia | omega))).in1 F18 N18 c1 c2 (vals := wF) (nl := wn) c3 ?zz fun h19 tk19 F19 N19 tl19 => ?_
  case zz => (first | lia | omega)
  clear F18 N18
  refine ⟨⟨by (first | lia | omega), by (first | lia | omega)⟩, ?_⟩
  show wpAny _ _ _ _ _ _
  walk_at "my steps"
  any_goals (exfalso; (first | lia | omega))
  rename IsRange _ _ _ _ _ _ _ _ => hr20
  rename Fr g _ _ _ => F20
  rename News g _ _ _ => N20
  have hsm : Builtin.Range.small 0 (vR.size : Int) 1 = true := small_one (by (first | lia | omega)) (by (first | lia | omega)) (by (first | lia | omega)) (by (first | lia | omega))
  have hrz : Builtin.Range.rangeSize 0 (vR.size : Int) 1 = ((wF.toList.length : Nat) : Int) := by rw [rangeSize_nat]; (first | lia | omega)
  refine LCg.CompSrc.range (n := wF.toList.length) calm F20 N20 hr20 hsm hrz (by rw [sizeLine_eq]; (first | lia | omega)) ?_
  intro h21
  with_reducible refine compRest_vals wF.toList ?_ ?_
  · unfold LCg.FinE
    intro D23 h23 tk23 F23 N23 o23
    dsimp only
    k_fold
    walk1
    k_unfold
    try dsimp only
    rename Fr g _ _ _ => F24
    rename News g _ _ _ => N24
    refine ne_rows (s := ⟨_, _, _, _, _⟩) (va := wF.toList.toArray) (vb := vR) (rs := rs) N24 (.head _) (.tail _ mR) (by rw [List.toList_toArray]; exact c5.mono fun p hp => .tail _ hp) (hR.mono fun p hp => .tail _ hp) (Nat.lt_of_le_of_lt (Nat.add_le_add_left (by (first | lia | omega)) _) S'.units) ?_
    walk_at "my steps"
    refine S_clean ?_
    walk_at "my steps"
    rename Fr g _ _ _ => F30
    rename News g _ _ _ => N30
    refine' fjTerm_T (n := 0) (s := ⟨_, _, _, _, _⟩) (S'.less (show 1 ≤ n + 11 by (first | lia | omega))) F30 N30 (by k_mem) (by k_mem) (by k_mem) c6 c7 c8 fun h31 tk31 t31 F31 N31 => ?_
    clear F30 N30
    dsimp only
    walk_at "my steps"
    rename Fr g _ _ _ => F32
    rename News g _ _ _ => N32
    refine' fjVote_T (n := 0) (s := ⟨_, _, _, _, _⟩) (S'.less (show 1 ≤ n + 11 by (first | lia | omega))) F32 N32 (by k_mem) (by k_mem) (by k_mem) c6 c7 c8 fun h33 tk33 F33 N33 => ?_
    clear F32 N32
    dsimp only
    walk_at "my steps"
    rename Fr g _ _ _ => F40
    rename News g _ _ _ => N40
    exact S_nil (Hide.mk ⟨rfl, _, _, rfl, F40, fun p hp => N40 p (List.mem_cons_of_mem _ (List.mem_cons_of_mem _ hp))⟩)
  · rintro i2 y3 v3' I2 oI2 C2 oC2 D2' ys2 m2 h22 tk22 E22 K22 hy3 ⟨t22, rfl⟩ hns hm22 F22 N22 off22 ne22 hK
    walk_at "my steps"
    refine' fjItem_A (n := 0) (s := ⟨_, _, _, _, _⟩) (S'.less (show 2 ≤ n + 11 by (first | lia | omega))).in1 F22 N22 (by k_mem) (by k_mem) (vals := wF) (nl := wn) ?mm ?zz (by (first | lia | omega)) ?vv fun h23 tk23 F23 N23 => ?_
    case mm => k_mem
    case zz => (first | lia | omega)
    case vv =>
      rw [show ((0 : Int) + (i2 : Int)).toNat = i2 by (first | lia | omega), ← Array.getElem?_toList]
      exact hy3
    exact LCg.CompEnd.intro F23 N23 _ (fun p hp => hp) off22 trivial hK
theorem rightM_S {g : Heap} {L' : Addr} {m0 : PySem.Str → Option Value} {news : List (Addr × Obj)} {oc : Obj} {lr nw : Addr} {nR nn wn : Nat} {vR wF : Array Value} {rs : List Rw} {tm : Int} {tj : Tok} {v1 v3 : Value} {mj dmj lm : Addr} {q1 q2 q3 q4 q5 z2 z3 ti : Tok}
    (S' : Site w (A.deeper (fnEnvC w 486 L')) g L' (n + 11)) (F : Fr g L' s.heap m0) (N : News g L' s.heap news) (mc : (L' + 1, oc) ∈ news) (hoc : oc.data = .cell (some (.ref mj)))
    (hr : m0 (PySem.Str.ofString "rows") = some (.ref lr)) (hn : m0 (PySem.Str.ofString "now") = some (.ref nw)) (mR : (lr, listOf vR nR) ∈ news) (mN : (nw, tupO #[.int tm tj, v3] nn) ∈ news)
    (c5 : RowsAt news wF.toList rs) (hR : RowsAt news vR.toList rs) (hrs : rs.length ≤ 9) (c1 : (mj, instObj 241 dmj) ∈ news) (c2 : (dmj, mj5 w q1 q2 q3 q4 q5 z2 z3 lm (.int tm ti) v1) ∈ news) (c3 : (lm, listOf wF wn) ∈ news)
    (hv : (v1 = .none ∧ v3 = .none) ∨ ∃ q a b, v1 = .str q a ∧ v3 = .str q b) :
    wpS (model PySem.Challenge.rw_jr0034_01.row.prog w) (A.deeper (fnEnvC w 486 L')) (execs (rightBody w) (fnEnvC w 486 L')) (fun f s₃ => Hide (f = .next ∧ ∃ h' tk', s₃ = { s with heap := h', toks := tk' } ∧ Fr g L' h' m0 ∧ News g L' h' news)) s := by
  change Site w (A.deeper (envOfC _ _ L' _ _)) g L' (n + 11) at S'
  dsimp only at S'
  change wpS _ (A.deeper (envOfC _ _ L' _ _)) (execs (_ :: _ :: []) (envOfC _ _ L' _ _)) _ _
  dsimp only
  refine Site.use S' fun A₀ base outer env mean mg mb B hA hf hke X T room units calm => ?_
  have hu1 := Nat.lt_of_le_of_lt (Nat.add_le_add_left (show 1 ≤ 5 * (n + 11) by (first | lia | omega)) _) units
  have hvv : v1 = .none ∨ ∃ q t, v1 = .str q t := by
    rcases hv with ⟨e, _⟩ | ⟨q, a, _, e, _⟩
    · exact .inl e
    · exact .inr ⟨q, a, e⟩
  have hvR : vR.size = rs.length := by rw [← Array.length_toList]; exact hR.length
  have hwF : wF.size = rs.length := by rw [← Array.length_toList]; exact c5.length
  have hwl : wF.toList.length = vR.size := by rw [c5.length, hvR]
  refine S_clean ?_
  walk_at "my steps"
  rename Fr g _ _ _ => F18
  rename News g _ _ _ => N18
  refine' mjLen_A (n := 0) (S'.less (show 2 ≤ n + 11 by (first | lia | omega))).in1 F18 N18 c1 c2 (vals := wF) (nl := wn) c3 ?zz fun h19 tk19 F19 N19 tl19 => ?_
  case zz => (first | lia | omega)
  clear F18 N18
  refine ⟨⟨by (first | lia | omega), by (first | lia | omega)⟩, ?_⟩
  show wpAny _ _ _ _ _ _
  walk_at "my steps"
  any_goals (exfalso; (first | lia | omega))
  rename IsRange _ _ _ _ _ _ _ _ => hr20
  rename Fr g _ _ _ => F20
  rename News g _ _ _ => N20
  have hsm : Builtin.Range.small 0 (vR.size : Int) 1 = true := small_one (by (first | lia | omega)) (by (first | lia | omega)) (by (first | lia | omega)) (by (first | lia | omega))
  have hrz : Builtin.Range.rangeSize 0 (vR.size : Int) 1 = ((wF.toList.length : Nat) : Int) := by rw [rangeSize_nat]; (first | lia | omega)
  refine LCg.CompSrc.range (n := wF.toList.length) calm F20 N20 hr20 hsm hrz (by rw [sizeLine_eq]; (first | lia | omega)) ?_
  intro h21
  with_reducible refine compRest_vals wF.toList ?_ ?_
  · unfold LCg.FinE
    intro D23 h23 tk23 F23 N23 o23
    dsimp only
    k_fold
    walk1
    k_unfold
    try dsimp only
    rename Fr g _ _ _ => F24
    rename News g _ _ _ => N24
    refine ne_rows (s := ⟨_, _, _, _, _⟩) (va := wF.toList.toArray) (vb := vR) (rs := rs) N24 (.head _) (.tail _ mR) (by rw [List.toList_toArray]; exact c5.mono fun p hp => .tail _ hp) (hR.mono fun p hp => .tail _ hp) (Nat.lt_of_le_of_lt (Nat.add_le_add_left (by (first | lia | omega)) _) S'.units) ?_
    walk_at "my steps"
    refine S_clean ?_
    walk_at "my steps"
    rename Fr g _ _ _ => F30
    rename News g _ _ _ => N30
    refine' mjGetTerm_A (n := 0) (s := ⟨_, _, _, _, _⟩) (S'.less (show 1 ≤ n + 11 by (first | lia | omega))) F30 N30 (by k_mem) (by k_mem) fun h31 tk31 F31 N31 => ?_
    clear F30 N30
    dsimp only
    walk_at "my steps"
    rename Fr g _ _ _ => F32
    rename News g _ _ _ => N32
    refine' mjVote_A (n := 0) (s := ⟨_, _, _, _, _⟩) (S'.less (show 1 ≤ n + 11 by (first | lia | omega))) F32 N32 (by k_mem) (by k_mem) hvv fun h33 tk33 F33 N33 => ?_
    clear F32 N32
    dsimp only
    walk_at "my steps"
    rename Fr g _ _ _ => F40
    rename News g _ _ _ => N40
    exact S_nil (Hide.mk ⟨rfl, _, _, rfl, F40, fun p hp => N40 p (List.mem_cons_of_mem _ (List.mem_cons_of_mem _ hp))⟩)
  · rintro i2 y3 v3' I2 oI2 C2 oC2 D2' ys2 m2 h22 tk22 E22 K22 hy3 ⟨t22, rfl⟩ hns hm22 F22 N22 off22 ne22 hK
    walk_at "my steps"
    refine' mjItem_A (n := 0) (s := ⟨_, _, _, _, _⟩) (S'.less (show 2 ≤ n + 11 by (first | lia | omega))).in1 F22 N22 (by k_mem) (by k_mem) (vals := wF) (nl := wn) ?mm ?zz (by (first | lia | omega)) ?vv fun h23 tk23 F23 N23 => ?_
    case mm => k_mem
    case zz => (first | lia | omega)
    case vv =>
      rw [show ((0 : Int) + (i2 : Int)).toNat = i2 by (first | lia | omega), ← Array.getElem?_toList]
      exact hy3
    exact LCg.CompEnd.intro F23 N23 _ (fun p hp => hp) off22 trivial hK
end
/- part C22 -/
section
variable {w : World} {A : Around} {s : Shared} {h₀ : Heap} {L : Addr} {m : PySem.Str → Option Value} {rest : List (Addr × Obj)} {n : Nat}
set_option pp.deepTerms false in
set_option pp.maxSteps 4000 in
theorem right_S {news : List (Addr × Obj)} {fj dfj rf lj ms md mm mt mj dmj lm lr nw : Addr} {ot od : Obj} {k1 k2 k3 k4 k5 k6 tc q1 q2 q3 q4 q5 z2 z3 ti tj : Tok} {cur : Int} {tm : Int} {v1 v2 v3 : Value} {b : Array UInt8} {vF vM vR : Array Value} {nF nM nR nn : Nat} {y : Option (Int × Tok × Value)} {rs : List Rw} {Q : Value → Shared → Prop} (S : Site w A h₀ L (n + 12)) (F : Fr h₀ L s.heap m)
    (N : News h₀ L s.heap ((mt, ot) :: news)) (nd : Nd ((mt, ot) :: news))
    (i1 : (fj, instObj 464 dfj) ∈ news) (i2 : (dfj, fj6 w k1 k2 k3 k4 k5 k6 rf lj ms md cur tc) ∈ news) (i3 : (lj, listOf vF nF) ∈ news) (i4 : (md, od) ∈ news) (i5 : (mm, baObj b) ∈ news)
    (i6 : (mj, instObj 241 dmj) ∈ news) (i7 : (dmj, mj5 w q1 q2 q3 q4 q5 z2 z3 lm (.int tm ti) v2) ∈ news) (i8 : (lm, listOf vM nM) ∈ news) (i9 : (lr, listOf vR nR) ∈ news)
    (i10 : (nw, { cls := .type "tuple", data := .seq #[.int tm tj, v3] nn }) ∈ news)
    (D : Due b.toList rs) (hF : RowsAt news vF.toList rs) (hM : RowsAt news vM.toList rs) (hR : RowsAt news vR.toList rs) (hrs : rs.length ≤ 9) (hok : ∀ r ∈ rs, OkR r)
    (ht : ot.IsDictOf (KS w) (metaKV y)) (hdd : od.IsDictOf (KS w) (metaKV y)) (hsm : (mt == sysModules) = false) (hsd : (md == sysModules) = false)
    (hy : (y = none ∧ tm = 0 ∧ v1 = .none) ∨ ∃ ty, y = some (tm, ty, v1)) (hv : (v1 = .none ∧ v2 = .none ∧ v3 = .none) ∨ ∃ q a b c, v1 = .str q a ∧ v2 = .str q b ∧ v3 = .str q c)
    (h : ∀ h' tk, Fr h₀ L h' m → News h₀ L h' ((mt, ot) :: news) → Q (.bool true) { s with heap := h', toks := tk }) :
    wpS (model PySem.Challenge.rw_jr0034_01.row.prog w) A (call (.ref 486) [.ref fj, .ref mj, .ref mm, .ref mt, .ref lr, .ref nw]) Q s := by
  refine' wpS_call (enterC (binds := [(PySem.Str.ofString "journal", .ref fj), (PySem.Str.ofString "memory", .ref mj), (PySem.Str.ofString "octets", .ref mm), (PySem.Str.ofString "meta", .ref mt), (PySem.Str.ofString "rows", .ref lr), (PySem.Str.ofString "now", .ref nw)]) S F N ?ho ?hcd ?hb ?hl ?hnd ?_ ?c1 ?c2 ?c3)
  case ho => k_is
  case hcd => k_is
  case hb => exact BindsTo.of_eq rfl
  case hl => exact rfl
  case hnd => decide
  case c1 => exact rfl
  case c2 => exact rfl
  case c3 => exact rfl
  intro g L' h₁ tk0 cells F' N' Y S' l
  refine Site.use S' fun A₀ base outer env mean mg mb B hA hf hke X T room units calm => ?_
  obtain ⟨oc0, rfl, hoc⟩ := CellsAre.one Y
  have N1 : News g L' h₁ ((L' + 1, oc0) :: (mt, ot) :: news) := N'
  have F1 := F'
  have sub1 : ∀ p ∈ news, p ∈ (L' + 1, oc0) :: (mt, ot) :: news := fun p hp => .tail _ (.tail _ hp)
  clear F' N' Y
  refine S_cons (S_Assign1 (S_Call_Name ?_))
  walk_at "my steps"
  refine S_callWith (K := hd.heap_1 w.params) ?kp (wpS_of ?_)
  case kp => k_is
  walk_at "my steps"
  rename Fr g _ _ _ => F2
  rename News g _ _ _ => N2
  refine octets_S (n := 0) (S'.less (by walk_at "my less")) F2 N2 (sub1 _ i9) (hR.mono sub1) hrs hok fun h3 tk3 td F3 N3 => ?_
  clear F2 N2
  refine assign_name (s := ⟨_, _, _, _, _⟩) rfl F3 N3 rfl fun h4 F4 N4 => ?_
  clear F3 N3
  have hbl : b.toList.length = b.size := Array.length_toList
  have hbg := D.big
  have hbs := D.small
  have hle := D.le
  have hdl := due_length rs
  rw [hbl] at hbg hbs hle
  have hpk : (KBy.picked b none (some ((due rs).length : Int))).toList = due rs := by
    have e : KBy.picked b none (some ((due rs).length : Int)) = (cutL b.toList none (some ((due rs).length : Int))).toArray := by
      have := picked_cut b.toList none (some ((due rs).length : Int))
      rwa [Array.toArray_toList] at this
    rw [e, cut_to _ (by (first | lia | omega)), Int.toNat_natCast]
    exact D.whole
  have N5 := News_join (a := mm) (o := baObj b) ⟨N4 (mm, baObj b) (sub1 _ i5)⟩ N4
  clear N4
  refine S_clean ?_
  walk_at "my steps"
  · exfalso
    have q : ((KBy.picked b none (some ((due rs).length : Int))).toList != (due rs).toArray.toList) = true := by assumption
    rw [hpk] at q
    exact absurd q (by simp)
  rename Fr g _ _ _ => F6
  rename News g _ _ _ => N6
  have N7 : News g L' _ ((L' + 1, oc0) :: (mt, ot) :: news) := fun p hp => N6 p (.tail _ (.tail _ hp))
  clear N6
  refine S_cons (S_For (S_Tuple (S_spliced_cons (wpS_of ?_))))
  rw [if_neg Bool.false_ne_true]
  walk_at "my steps"
  refine S_spliced_cons (wpS_of ?_)
  rw [if_neg Bool.false_ne_true]
  walk_at "my steps"
  refine S_spliced_cons ?_
  rw [if_neg Bool.false_ne_true]
  refine S_Call_Name ?_
  walk_at "my steps"
  refine S_callWith (K := hd.heap_1 w.params) ?kp (S_spliced_cons ?_)
  case kp => k_is
  rw [if_neg Bool.false_ne_true]
  refine S_Call_Name ?_
  rename Fr g _ _ _ => F7
  refine' nameX_B (v := .type "bytearray") F7 X ?tt ?ee ?vv (by decide) ?_
  case tt => k_asm
  case vv => boot_by_name
  case ee => k_is
  show wpS _ _ (callWith _ (.type "bytearray") [] (backTo _ (starEach [_] _)) []) _ _
  refine S_callWith_type (wpS_of ?_)
  walk_at "my steps"
  rename Fr g _ _ _ => F8
  rename News g _ _ _ => N8
  refine BA.of_ba F8 N8 (sub1 _ i5) (by rw [sizeLine_eq]; (first | lia | omega)) fun m2 h9 F9 N9 l9 => ?_
  clear F8 N8
  refine wpS_of ?_
  walk_at "my steps"
  replace N9 : News g L' h9 ((m2, baObj b) :: (L' + 1, oc0) :: (mt, ot) :: news) := N9
  obtain ⟨junk, hjunk⟩ := D.ex
  have ocN : Off (L' + 1) ((mt, ot) :: news) := .of_lt fun p hp => Nat.lt_succ_of_lt (l p hp)
  have ndc : Nd ((mt, ot) :: (L' + 1, oc0) :: news) := Nd.mid (a := [(mt, ot)]) (b := news) nd ocN
  have om2 : Off m2 ((mt, ot) :: (L' + 1, oc0) :: news) := ⟨fun p hp => Nat.ne_of_lt (l9 p (by
    simp only [List.mem_cons] at hp ⊢
    rcases hp with h | h | h
    · exact .inr (.inl h)
    · exact .inl h
    · exact .inr (.inr h)))⟩
  refine' cjF_S (n := 0) (b := b) (ot := ot) (y := y) (rest := (L' + 1, oc0) :: news) (S'.less (by walk_at "my less")) F9 ?perm (Nd.join om2 ndc) hjunk (by (first | lia | omega)) hrs hok ht hsm ?_
  case perm => walk_at "my perm"
  intro h10 tk10 b2 fj2 dfj2 rf2 drf2 lj2 ms2 dms2 md2 t1' t2' t3' k0' k1' k2' k3' k4' k5' k6' tc' vals2 nl2 T2 od2 D2 R2 hod2 hmd2 F10 N10 nd10
  clear F9 N9 l9
  refine S_spliced_nil ?_
  walk_at "my steps"
  rename_i Dt h12 F11 N11 l11
  have hDc : L' + 1 < Dt := allLt_app l11.2.2.2.2.2.2.2.2.2.2 (L' + 1, oc0) (by simp)
  have oc9 : Off (L' + 1) ([(fj2, instObj 464 dfj2), (dfj2, fj6 w k1' k2' k3' k4' k5' k6' rf2 lj2 ms2 md2 (40 + (told rs).length) tc'), (rf2, instObj 282 drf2), (drf2, rfDict w t1' t2' t3' m2), (m2, baObj b2), (lj2, listOf vals2 nl2), (ms2, instObj 324 dms2), (dms2, dictOf [ent w "_MetaStorer__path" k0' (.ref mt)] 1), (mt, ot), (md2, od2)] ++ (T2 ++ news)) := Nd.off1 (a := [(fj2, instObj 464 dfj2), (dfj2, fj6 w k1' k2' k3' k4' k5' k6' rf2 lj2 ms2 md2 (40 + (told rs).length) tc'), (rf2, instObj 282 drf2), (drf2, rfDict w t1' t2' t3' m2), (m2, baObj b2), (lj2, listOf vals2 nl2), (ms2, instObj 324 dms2), (dms2, dictOf [ent w "_MetaStorer__path" k0' (.ref mt)] 1), (mt, ot), (md2, od2)]) (T := T2) (r := news) nd10
  obtain ⟨R9, N12, oR, mD, mn, mT, m1, m2', m3, m4, m5⟩ : ∃ R9, News g L' h12 ((L' + 1, oc0) :: R9) ∧ Off (L' + 1) R9 ∧ (Dt, tupO #[.ref fj, .ref mj, .ref fj2] 0) ∈ R9 ∧ (∀ p ∈ (mt, ot) :: news, p ∈ R9) ∧ (∀ p ∈ T2, p ∈ R9) ∧
      (fj2, instObj 464 dfj2) ∈ R9 ∧ (dfj2, fj6 w k1' k2' k3' k4' k5' k6' rf2 lj2 ms2 md2 (40 + (told rs).length) tc') ∈ R9 ∧ (lj2, listOf vals2 nl2) ∈ R9 ∧ (md2, od2) ∈ R9 ∧ True := by
    refine ⟨(Dt, tupO #[.ref fj, .ref mj, .ref fj2] 0) :: ([(fj2, instObj 464 dfj2), (dfj2, fj6 w k1' k2' k3' k4' k5' k6' rf2 lj2 ms2 md2 (40 + (told rs).length) tc'), (rf2, instObj 282 drf2), (drf2, rfDict w t1' t2' t3' m2), (m2, baObj b2), (lj2, listOf vals2 nl2), (ms2, instObj 324 dms2), (dms2, dictOf [ent w "_MetaStorer__path" k0' (.ref mt)] 1), (mt, ot), (md2, od2)] ++ (T2 ++ news)), News_join ⟨N11 (L' + 1, oc0) (by simp)⟩ (News_join ⟨N11 _ (.head _)⟩ fun p hp => N11 p (.tail _ (mem_cut1 (a := [(fj2, instObj 464 dfj2), (dfj2, fj6 w k1' k2' k3' k4' k5' k6' rf2 lj2 ms2 md2 (40 + (told rs).length) tc'), (rf2, instObj 282 drf2), (drf2, rfDict w t1' t2' t3' m2), (m2, baObj b2), (lj2, listOf vals2 nl2), (ms2, instObj 324 dms2), (dms2, dictOf [ent w "_MetaStorer__path" k0' (.ref mt)] 1), (mt, ot), (md2, od2)]) hp))), off_cons ⟨Nat.ne_of_gt hDc⟩ oc9, .head _, fun p hp => ?_, fun p hp => ?_, by simp, by simp, by simp, by simp, trivial⟩
    · rcases List.mem_cons.mp hp with rfl | hp
      · simp
      · simp [hp]
    · simp [hp]
  clear N11 l11
  have tells : ∀ (i : Nat) (v : Value), #[Value.ref fj, .ref mj, .ref fj2][i]? = some v → Tells w R9 rs tm v1 v := by
    intro i v hv0
    have t1 : Tells w R9 rs tm v1 (.ref fj) := .inl ⟨fj, dfj, rf, lj, ms, md, k1, k2, k3, k4, k5, k6, tc, cur, vF, nF, od, y, rfl, mn _ (.tail _ i1), mn _ (.tail _ i2), mn _ (.tail _ i3), mn _ (.tail _ i4), hF.mono fun p hp => mn _ (.tail _ hp), hdd, hsd, hy⟩
    have t2 : Tells w R9 rs tm v1 (.ref mj) := .inr ⟨mj, dmj, lm, q1, q2, q3, q4, q5, z2, z3, ti, v2, vM, nM, rfl, mn _ (.tail _ i6), mn _ (.tail _ i7), mn _ (.tail _ i8), hM.mono fun p hp => mn _ (.tail _ hp), by
      rcases hv with ⟨a, b, _⟩ | ⟨q, a, b, c, e1, e2, _⟩
      · exact .inl ⟨a, b⟩
      · exact .inr ⟨q, a, b, e1, e2⟩⟩
    have t3 : Tells w R9 rs tm v1 (.ref fj2) := .inl ⟨fj2, dfj2, rf2, lj2, ms2, md2, k1', k2', k3', k4', k5', k6', tc', _, vals2, nl2, od2, y, rfl, m1, m2', m3, m4, R2.mono mT, hod2, hmd2, hy⟩
    rcases i with _ | _ | _ | i
    · cases hv0; exact t1
    · cases hv0; exact t2
    · cases hv0; exact t3
    · simp at hv0
  obtain ⟨m0, hm0, F12⟩ : ∃ m0, m0 = _ ∧ Fr g L' h12 m0 := ⟨_, rfl, F11⟩
  clear F11
  have c12 := L'
  show wpAny _ _ (pyIter (.ref Dt)) _ _ _
  refine iterTup F12 N12 (.tail _ mD) fun I o h13 ho F13 N13 l13 => ?_
  have oI := Off.of_lt l13
  clear F12 N12 l13
  refine S_forTup (t := Dt) (its := #[.ref fj, .ref mj, .ref fj2]) (nt := 0) (fun i m₁ news₁ => m₁ = m0 ∧ ∃ oc z, oc.data = .cell z ∧ news₁ = (L' + 1, oc) :: R9) calm F13 N13 ho ⟨rfl, oc0, _, hoc, rfl⟩ ?_ ?_ ?_
  · rintro i m₁ news₁ ⟨_, oc, z, _, rfl⟩
    exact ⟨oI.same rfl, .tail _ mD⟩
  · rintro i v m₁ news₁ h14 tk14 o14 hv14 ⟨rfl, oc, z, hz, rfl⟩ F14 N14
    clear F13 N13
    have tl := tells i v hv14
    refine wpAny_assign_Name ?_
    refine storeX_C (s := ⟨_, _, _, _, _⟩) F14 N14 rfl (.tail (Ne.symm (off_split oI).1.ne) (.head oR.off)) hz fun h15 oc' F15 N15 hoc' => ?_
    clear F14 N14
    have mR : (lr, listOf vR nR) ∈ R9 := mn _ (.tail _ i9)
    have mN : (nw, tupO #[.int tm tj, v3] nn) ∈ R9 := mn _ (.tail _ i10)
    have sub9 : ∀ p ∈ R9, p ∈ (I, o14) :: (L' + 1, oc') :: R9 := fun p hp => .tail _ (.tail _ hp)
    have hRR : RowsAt ((I, o14) :: (L' + 1, oc') :: R9) vR.toList rs := hR.mono fun p hp => sub9 _ (mn _ (.tail _ hp))
    rcases tl with ⟨a1, a2, a3, a4, a5, a6, b1, b2', b3, b4, b5, b6, b7, b8, wF, wn, ob, y2, rfl, c1, c2, c3, c4, c5, c6, c7, c8⟩ | ⟨a1, a2, a4, b1, b2', b3, b4, b5, b6, b7, b8, u2, wF, wn, rfl, c1, c2, c4, c5, c8⟩
    · have hv' : (v1 = .none ∧ v3 = .none) ∨ ∃ q a b, v1 = .str q a ∧ v3 = .str q b := by
        rcases hv with ⟨a, _, c⟩ | ⟨q, a, b, c, e1, _, e3⟩
        · exact .inl ⟨a, c⟩
        · exact .inr ⟨q, a, c, e1, e3⟩
      have S9 : Site w (A.deeper (fnEnvC w 486 L')) g L' (n + 11) := S'
      have N9' : News g L' h15 ((I, o14) :: (L' + 1, oc') :: R9) := N15
      have F9' : Fr g L' h15 m₁ := F15
      have hx1 : m₁ (PySem.Str.ofString "rows") = some (.ref lr) := by rw [hm0]; rfl
      have hx2 : m₁ (PySem.Str.ofString "now") = some (.ref nw) := by rw [hm0]; rfl
      have key := rightF_S (A := A) (s := ⟨h15, s.gens, s.drawn, tk14, s.os⟩) (m0 := m₁) (news := (I, o14) :: (L' + 1, oc') :: R9) (oc := oc') (lr := lr) (nw := nw) (tm := tm) (tj := tj) S9 F9' N9' (.tail _ (.head _)) hoc' hx1 hx2 (sub9 _ mR) (sub9 _ mN) (c5.mono sub9) hRR hrs (sub9 _ c1) (sub9 _ c2) (sub9 _ c3) (sub9 _ c4) c6 c7 c8 hv'
      refine wpS_mono key ?_
      rintro f s₃ ⟨rfl, h', tk', rfl, F', N'⟩
      exact Hide.mk ⟨rfl, h', tk', m₁, (L' + 1, oc') :: R9, rfl, F', N', rfl, oc', _, hoc', rfl⟩
    · have hv' : (u2 = .none ∧ v3 = .none) ∨ ∃ q a b, u2 = .str q a ∧ v3 = .str q b := by
        rcases hv with ⟨a, _, c⟩ | ⟨q, a, b, c, e1, _, e3⟩
        · rcases c8 with ⟨_, d⟩ | ⟨_, _, _, d, _⟩
          · exact .inl ⟨d, c⟩
          · rw [a] at d; cases d
        · rcases c8 with ⟨d, _⟩ | ⟨q', x, y', d, d'⟩
          · rw [e1] at d; cases d
          · rw [e1] at d
            cases d
            exact .inr ⟨q, y', c, d', e3⟩
      have S9 : Site w (A.deeper (fnEnvC w 486 L')) g L' (n + 11) := S'
      have N9' : News g L' h15 ((I, o14) :: (L' + 1, oc') :: R9) := N15
      have F9' : Fr g L' h15 m₁ := F15
      have hx1 : m₁ (PySem.Str.ofString "rows") = some (.ref lr) := by rw [hm0]; rfl
      have hx2 : m₁ (PySem.Str.ofString "now") = some (.ref nw) := by rw [hm0]; rfl
      have key := rightM_S (A := A) (s := ⟨h15, s.gens, s.drawn, tk14, s.os⟩) (m0 := m₁) (news := (I, o14) :: (L' + 1, oc') :: R9) (oc := oc') (lr := lr) (nw := nw) (tm := tm) (tj := tj) S9 F9' N9' (.tail _ (.head _)) hoc' hx1 hx2 (sub9 _ mR) (sub9 _ mN) (c5.mono sub9) hRR hrs (sub9 _ c1) (sub9 _ c2) (sub9 _ c4) hv'
      refine wpS_mono key ?_
      rintro f s₃ ⟨rfl, h', tk', rfl, F', N'⟩
      exact Hide.mk ⟨rfl, h', tk', m₁, (L' + 1, oc') :: R9, rfl, F', N', rfl, oc', _, hoc', rfl⟩
  · rintro m₁ news₁ h14 tk14 ⟨rfl, oc, z, hz, rfl⟩ F14 N14
    refine S_clean ?_
    walk_at "my steps"
    rename Fr g _ _ _ => F40
    rename News g _ _ _ => N40
    refine LeaveN.mk F40 N40 fun F41 N41 => ?_
    exact h _ _ F41 fun p hp => N41 p (.tail _ (mn p hp))
end
/- part C23 -/
set_option genInjectivity false in
set_option genSizeOf false in
structure St where
  fj : Addr
  dfj : Addr
  rf : Addr
  drf : Addr
  mm : Addr
  lj : Addr
  ms : Addr
  dms : Addr
  mt : Addr
  md : Addr
  mj : Addr
  dmj : Addr
  lm : Addr
  lr : Addr
  nw : Addr
  t1 : Tok
  t2 : Tok
  t3 : Tok
  k0 : Tok
  k1 : Tok
  k2 : Tok
  k3 : Tok
  k4 : Tok
  k5 : Tok
  k6 : Tok
  tc : Tok
  q1 : Tok
  q2 : Tok
  q3 : Tok
  q4 : Tok
  q5 : Tok
  z2 : Tok
  z3 : Tok
  ti : Tok
  tj : Tok
  b : Array UInt8
  cur : Int
  vF : Array Value
  vM : Array Value
  vR : Array Value
  nF : Nat
  nM : Nat
  nR : Nat
  nn : Nat
  ot : Obj
  od : Obj
  y : Option (Int × Tok × Value)
  tm : Int
  v2 : Value
  tn : Int
  v3 : Value
abbrev St.F6 (w : World) (x : St) : List (Addr × Obj) := [(x.fj, instObj 464 x.dfj), (x.dfj, fj6 w x.k1 x.k2 x.k3 x.k4 x.k5 x.k6 x.rf x.lj x.ms x.md x.cur x.tc), (x.rf, instObj 282 x.drf), (x.drf, rfDict w x.t1 x.t2 x.t3 x.mm), (x.mm, baObj x.b), (x.lj, listOf x.vF x.nF)]
abbrev St.M4 (w : World) (x : St) : List (Addr × Obj) := [(x.ms, instObj 324 x.dms), (x.dms, dictOf [ent w "_MetaStorer__path" x.k0 (.ref x.mt)] 1), (x.mt, x.ot), (x.md, x.od)]
abbrev St.J3 (w : World) (x : St) : List (Addr × Obj) := [(x.mj, instObj 241 x.dmj), (x.dmj, mj5 w x.q1 x.q2 x.q3 x.q4 x.q5 x.z2 x.z3 x.lm (.int x.tm x.ti) x.v2), (x.lm, listOf x.vM x.nM)]
abbrev St.R2 (x : St) : List (Addr × Obj) := [(x.lr, listOf x.vR x.nR), (x.nw, tupO #[.int x.tn x.tj, x.v3] x.nn)]
abbrev St.led (w : World) (x : St) (R : List (Addr × Obj)) : List (Addr × Obj) := x.F6 w ++ (x.M4 w ++ (x.J3 w ++ (x.R2 ++ R)))
theorem Nd.swap {a b c : List (Addr × Obj)} (h : Nd (a ++ (b ++ c))) : Nd (b ++ (a ++ c)) := by
  refine h.perm ?_
  simp only [List.map_append]
  rw [← List.append_assoc, ← List.append_assoc]
  exact List.Perm.append_right _ List.perm_append_comm
theorem News.swap {h₀ h : Heap} {L : Addr} {a b c : List (Addr × Obj)} (N : News h₀ L h (a ++ (b ++ c))) : News h₀ L h (b ++ (a ++ c)) := fun p hp => N p (by
  simp only [List.mem_append] at hp ⊢
  rcases hp with e | e | e
  · exact .inr (.inl e)
  · exact .inl e
  · exact .inr (.inr e))
theorem mem_swap {a b c : List (Addr × Obj)} {p : Addr × Obj} (h : p ∈ a ++ (b ++ c)) : p ∈ b ++ (a ++ c) := by
  simp only [List.mem_append] at h ⊢
  rcases h with e | e | e
  · exact .inr (.inl e)
  · exact .inl e
  · exact .inr (.inr e)
theorem Nd.swap2 {a b c d : List (Addr × Obj)} (h : Nd (a ++ (b ++ (c ++ d)))) : Nd (c ++ (a ++ (b ++ d))) := by
  have := Nd.swap (a := a ++ b) (b := c) (c := d) (by rw [List.append_assoc]; exact h)
  rwa [List.append_assoc] at this
theorem News.swap2 {h₀ h : Heap} {L : Addr} {a b c d : List (Addr × Obj)} (N : News h₀ L h (a ++ (b ++ (c ++ d)))) : News h₀ L h (c ++ (a ++ (b ++ d))) := by
  have := News.swap (a := a ++ b) (b := c) (c := d) (by rw [List.append_assoc]; exact N)
  rwa [List.append_assoc] at this
theorem Nd.back2 {a b c d : List (Addr × Obj)} (h : Nd (c ++ (a ++ (b ++ d)))) : Nd (a ++ (b ++ (c ++ d))) := by
  have := Nd.swap (a := c) (b := a ++ b) (c := d) (by rw [List.append_assoc]; exact h)
  rwa [List.append_assoc] at this
theorem News.back2 {h₀ h : Heap} {L : Addr} {a b c d : List (Addr × Obj)} (N : News h₀ L h (c ++ (a ++ (b ++ d)))) : News h₀ L h (a ++ (b ++ (c ++ d))) := by
  have := News.swap (a := c) (b := a ++ b) (c := d) (by rw [List.append_assoc]; exact N)
  rwa [List.append_assoc] at this
theorem Nd.swap3 {a b c d e : List (Addr × Obj)} (h : Nd (a ++ (b ++ (c ++ (d ++ e))))) : Nd (d ++ (a ++ (b ++ (c ++ e)))) := by
  have := Nd.swap (a := a ++ (b ++ c)) (b := d) (c := e) (by simpa only [List.append_assoc] using h)
  simpa only [List.append_assoc] using this
theorem News.swap3 {h₀ h : Heap} {L : Addr} {a b c d e : List (Addr × Obj)} (N : News h₀ L h (a ++ (b ++ (c ++ (d ++ e))))) : News h₀ L h (d ++ (a ++ (b ++ (c ++ e)))) := by
  have := News.swap (a := a ++ (b ++ c)) (b := d) (c := e) (by simpa only [List.append_assoc] using N)
  simpa only [List.append_assoc] using this
theorem Nd.back3 {a b c d e : List (Addr × Obj)} (h : Nd (d ++ (a ++ (b ++ (c ++ e))))) : Nd (a ++ (b ++ (c ++ (d ++ e)))) := by
  have := Nd.swap (a := d) (b := a ++ (b ++ c)) (c := e) (by simpa only [List.append_assoc] using h)
  simpa only [List.append_assoc] using this
theorem News.back3 {h₀ h : Heap} {L : Addr} {a b c d e : List (Addr × Obj)} (N : News h₀ L h (d ++ (a ++ (b ++ (c ++ e))))) : News h₀ L h (a ++ (b ++ (c ++ (d ++ e)))) := by
  have := News.swap (a := d) (b := a ++ (b ++ c)) (c := e) (by simpa only [List.append_assoc] using N)
  simpa only [List.append_assoc] using this
theorem Nd.swap4 {a b c d e f : List (Addr × Obj)} (h : Nd (a ++ (b ++ (c ++ (d ++ (e ++ f)))))) : Nd (e ++ (a ++ (b ++ (c ++ (d ++ f))))) := by
  have := Nd.swap (a := a ++ (b ++ (c ++ d))) (b := e) (c := f) (by simpa only [List.append_assoc] using h)
  simpa only [List.append_assoc] using this
theorem News.swap4 {h₀ h : Heap} {L : Addr} {a b c d e f : List (Addr × Obj)} (N : News h₀ L h (a ++ (b ++ (c ++ (d ++ (e ++ f)))))) : News h₀ L h (e ++ (a ++ (b ++ (c ++ (d ++ f))))) := by
  have := News.swap (a := a ++ (b ++ (c ++ d))) (b := e) (c := f) (by simpa only [List.append_assoc] using N)
  simpa only [List.append_assoc] using this
theorem Nd.back4 {a b c d e f : List (Addr × Obj)} (h : Nd (e ++ (a ++ (b ++ (c ++ (d ++ f)))))) : Nd (a ++ (b ++ (c ++ (d ++ (e ++ f))))) := by
  have := Nd.swap (a := e) (b := a ++ (b ++ (c ++ d))) (c := f) (by simpa only [List.append_assoc] using h)
  simpa only [List.append_assoc] using this
theorem News.back4 {h₀ h : Heap} {L : Addr} {a b c d e f : List (Addr × Obj)} (N : News h₀ L h (e ++ (a ++ (b ++ (c ++ (d ++ f)))))) : News h₀ L h (a ++ (b ++ (c ++ (d ++ (e ++ f))))) := by
  have := News.swap (a := e) (b := a ++ (b ++ (c ++ d))) (c := f) (by simpa only [List.append_assoc] using N)
  simpa only [List.append_assoc] using this
/-- the journal in the file, its rows told by R -/
structure St.OkF (x : St) (rs : List Rw) (R : List (Addr × Obj)) : Prop where
  due : Due x.b.toList rs
  cur : x.cur = 40 + ((told rs).length : Int)
  rows : RowsAt R x.vF.toList rs
structure St.OkT (w : World) (x : St) : Prop where
  ot : x.ot.IsDictOf (KS w) (metaKV x.y)
  od : x.od.IsDictOf (KS w) (metaKV x.y)
  st : (x.mt == sysModules) = false
  sd : (x.md == sysModules) = false
section
variable {w : World} {A : Around} {s : Shared} {h₀ : Heap} {L : Addr} {m : PySem.Str → Option Value} {R R₀ : List (Addr × Obj)} {n : Nat} {x : St} {rs : List Rw}
theorem ledAddF {r : Rw} {ta tb td : Tok} {Q : Value → Shared → Prop} (S : Site w A h₀ L (n + 4)) (F : Fr h₀ L s.heap m) (N : News h₀ L s.heap (x.led w R)) (nd : Nd (x.led w R)) (ok : x.OkF rs R₀) (hrs : rs.length ≤ 8) (hok : ∀ r ∈ rs, OkR r) (hr : OkR r)
    (h : ∀ h' tk b' a tc' ta' tb' td', let x' : St := { x with b := b', cur := 40 + ((told (rs ++ [r])).length : Int), tc := tc', vF := x.vF.push (.ref a), nF := x.nF + 1 }
      x'.OkF (rs ++ [r]) ((a, tupR r ta' tb' td') :: R₀) → Fr h₀ L h' m → News h₀ L h' (x'.led w ((a, tupR r ta' tb' td') :: R)) → Nd (x'.led w ((a, tupR r ta' tb' td') :: R)) → Q .none { s with heap := h', toks := tk }) :
    wpS (model PySem.Challenge.rw_jr0034_01.row.prog w) A (call (.ref 370) [.ref x.fj, .bytes r.c.toArray ta, .int r.i tb, .int r.t td]) Q s := by
  have D := ok.due
  have hbs := D.small
  have hbg := D.big
  have hle := D.le
  have hc := ok.cur
  have htl := told_length_le hok
  have hrc := hr.c
  have hsz : x.vF.size = rs.length := by rw [← Array.length_toList]; exact ok.rows.length
  have hbl : x.b.toList.length = x.b.size := Array.length_toList
  rw [hbl] at hbs hbg hle
  have hcn : x.cur.toNat = 40 + (told rs).length := by rw [hc]; (first | lia | omega)
  have htn : (told (rs ++ [r])).length = (told rs).length + (24 + r.c.length) := by rw [told_append, told_one, List.length_append, recL_length]
  have hri := hr.i
  have hrt := hr.t
  refine add_S (n := n) (i := (r.i : Int)) (tm := (r.t : Int)) (rest := x.M4 w ++ (x.J3 w ++ (x.R2 ++ R))) S F N nd hbg (by (first | lia | omega)) (by (first | lia | omega)) (by (first | lia | omega)) (by (first | lia | omega)) (by (first | lia | omega)) (by (first | lia | omega)) (by (first | lia | omega)) (by (first | lia | omega)) (by (first | lia | omega)) fun h' tk b' a tc' ta' tb' td' hb' F' N' off' => ?_
  have e1 : x.cur + (24 + (r.c.length : Int)) = 40 + ((told (rs ++ [r])).length : Int) := by rw [hc, htn]; (first | lia | omega)
  rw [e1] at N'
  refine h h' tk b' a tc' ta' tb' td' ⟨?_, rfl, ?_⟩ F' ?_ ?_
  · show Due b'.toList (rs ++ [r])
    have := D.add (r := r) (by (first | lia | omega))
    rw [hb', hcn]
    simp only [Int.toNat_natCast]
    exact this
  · show RowsAt _ (x.vF.push (.ref a)).toList _
    rw [Array.toList_push]
    exact RowsAt.snoc ⟨a, ta', tb', td', rfl, .head _⟩ (ok.rows.mono fun p hp => .tail _ hp)
  · exact News.back4 (a := St.F6 w { x with b := b', cur := 40 + ((told (rs ++ [r])).length : Int), tc := tc', vF := x.vF.push (.ref a), nF := x.nF + 1 }) (b := x.M4 w) (c := x.J3 w) (d := x.R2) (e := [(a, tupR r ta' tb' td')]) (f := R) N'
  · exact Nd.back4 (a := St.F6 w { x with b := b', cur := 40 + ((told (rs ++ [r])).length : Int), tc := tc', vF := x.vF.push (.ref a), nF := x.nF + 1 }) (b := x.M4 w) (c := x.J3 w) (d := x.R2) (e := [(a, tupR r ta' tb' td')]) (f := R) ((Nd.join off' nd).same rfl)
theorem ledAddM {r : Rw} {ta tb td : Tok} {Q : Value → Shared → Prop} (S : Site w A h₀ L (n + 1)) (F : Fr h₀ L s.heap m) (N : News h₀ L s.heap (x.led w R)) (nd : Nd (x.led w R)) (ok : RowsAt R₀ x.vM.toList rs) (hrs : rs.length ≤ 8)
    (h : ∀ h' tk a, let x' : St := { x with vM := x.vM.push (.ref a), nM := x.nM + 1 }
      RowsAt ((a, tupR r ta tb td) :: R₀) x'.vM.toList (rs ++ [r]) → Fr h₀ L h' m → News h₀ L h' (x'.led w ((a, tupR r ta tb td) :: R)) → Nd (x'.led w ((a, tupR r ta tb td) :: R)) → Q .none { s with heap := h', toks := tk }) :
    wpS (model PySem.Challenge.rw_jr0034_01.row.prog w) A (call (.ref 154) [.ref x.mj, .bytes r.c.toArray ta, .int r.i tb, .int r.t td]) Q s := by
  have hsz : x.vM.size = rs.length := by rw [← Array.length_toList]; exact ok.length
  refine mjAdd_S (n := n) (rest := x.F6 w ++ (x.M4 w ++ (x.R2 ++ R))) S F (News.swap2 (a := x.F6 w) (b := x.M4 w) (c := x.J3 w) N) (Nd.swap2 (a := x.F6 w) (b := x.M4 w) (c := x.J3 w) nd) (by (first | lia | omega)) fun h' tk a F' N' off' => ?_
  have nd2 : Nd ([(a, tupR r ta tb td)] ++ (St.J3 w { x with vM := x.vM.push (.ref a), nM := x.nM + 1 } ++ (x.F6 w ++ (x.M4 w ++ (x.R2 ++ R))))) := (Nd.join off' (Nd.swap2 (a := x.F6 w) (b := x.M4 w) (c := x.J3 w) nd)).same rfl
  have nd3 := Nd.back4 nd2
  have N3 : News h₀ L h' ([(a, tupR r ta tb td)] ++ (St.J3 w { x with vM := x.vM.push (.ref a), nM := x.nM + 1 } ++ (x.F6 w ++ (x.M4 w ++ (x.R2 ++ R))))) := N'
  have N4 := News.back4 N3
  refine h h' tk a ?_ F' (News.back2 N4) (Nd.back2 nd3)
  show RowsAt _ (x.vM.push (.ref a)).toList _
  rw [Array.toList_push]
  exact RowsAt.snoc ⟨a, ta, tb, td, rfl, .head _⟩ (ok.mono fun p hp => .tail _ hp)
theorem ledFromF {p : Nat} {tp : Tok} {Q : Value → Shared → Prop} (S : Site w A h₀ L (n + 4)) (F : Fr h₀ L s.heap m) (N : News h₀ L s.heap (x.led w R)) (nd : Nd (x.led w R)) (ok : x.OkF rs R₀) (hrs : rs.length ≤ 9) (hok : ∀ r ∈ rs, OkR r) (hp : p ≤ rs.length)
    (h : ∀ h' tk b' a tc', let x' : St := { x with b := b', cur := 40 + ((told (rs.take p)).length : Int), tc := tc', lj := a, vF := (x.vF.toList.take p).toArray, nF := 0 }
      x'.OkF (rs.take p) R₀ → Fr h₀ L h' m → News h₀ L h' (x'.led w R) → Nd (x'.led w R) → Q .none { s with heap := h', toks := tk }) :
    wpS (model PySem.Challenge.rw_jr0034_01.row.prog w) A (call (.ref 405) [.ref x.fj, .int p tp]) Q s := by
  have hsz : x.vF.size = rs.length := by rw [← Array.length_toList]; exact ok.rows.length
  refine delFrom_S (n := n) (rest := x.M4 w ++ (x.J3 w ++ (x.R2 ++ R))) S F N nd ok.due ok.cur hsz hp hrs hok fun h' tk b' a tc' D' F' N' off' => ?_
  refine h h' tk b' a tc' ⟨D', rfl, ?_⟩ F' (fun q hq => ?_) ?_
  · show RowsAt R₀ (x.vF.toList.take p).toArray.toList _
    rw [List.toList_toArray]
    exact ok.rows.take p
  · have hq' : q ∈ [(x.fj, instObj 464 x.dfj), (x.dfj, fj6 w x.k1 x.k2 x.k3 x.k4 x.k5 x.k6 x.rf a x.ms x.md (40 + ((told (rs.take p)).length : Int)) tc'), (x.rf, instObj 282 x.drf), (x.drf, rfDict w x.t1 x.t2 x.t3 x.mm), (x.mm, baObj b')] ++ ([(a, listOf (x.vF.toList.take p).toArray 0)] ++ (x.M4 w ++ (x.J3 w ++ (x.R2 ++ R)))) := hq
    refine N' q ?_
    simp only [List.mem_append, List.mem_cons, List.not_mem_nil, or_false] at hq' ⊢
    rcases hq' with (e | e | e | e | e) | e | e
    · exact .inr (.inl e)
    · exact .inr (.inr (.inl e))
    · exact .inr (.inr (.inr (.inl e)))
    · exact .inr (.inr (.inr (.inr (.inl e))))
    · exact .inr (.inr (.inr (.inr (.inr (.inl e)))))
    · exact .inl e
    · exact .inr (.inr (.inr (.inr (.inr (.inr (.inr e))))))
  · have n1 : Nd ([(a, listOf (x.vF.toList.take p).toArray 0)] ++ (([(x.fj, instObj 464 x.dfj), (x.dfj, fj6 w x.k1 x.k2 x.k3 x.k4 x.k5 x.k6 x.rf x.lj x.ms x.md x.cur x.tc), (x.rf, instObj 282 x.drf), (x.drf, rfDict w x.t1 x.t2 x.t3 x.mm), (x.mm, baObj x.b)] ++ (x.lj, listOf x.vF x.nF) :: (x.M4 w ++ (x.J3 w ++ (x.R2 ++ R)))))) := Nd.join off' nd
    have n2 := (Nd.unmid (a := [(a, listOf (x.vF.toList.take p).toArray 0), (x.fj, instObj 464 x.dfj), (x.dfj, fj6 w x.k1 x.k2 x.k3 x.k4 x.k5 x.k6 x.rf x.lj x.ms x.md x.cur x.tc), (x.rf, instObj 282 x.drf), (x.drf, rfDict w x.t1 x.t2 x.t3 x.mm), (x.mm, baObj x.b)]) (b := x.M4 w ++ (x.J3 w ++ (x.R2 ++ R))) n1).1
    have n3 := Nd.swap (a := [(a, listOf (x.vF.toList.take p).toArray 0)]) (b := [(x.fj, instObj 464 x.dfj), (x.dfj, fj6 w x.k1 x.k2 x.k3 x.k4 x.k5 x.k6 x.rf x.lj x.ms x.md x.cur x.tc), (x.rf, instObj 282 x.drf), (x.drf, rfDict w x.t1 x.t2 x.t3 x.mm), (x.mm, baObj x.b)]) (c := x.M4 w ++ (x.J3 w ++ (x.R2 ++ R))) n2
    exact n3.same rfl
theorem ledToF {p : Nat} {tp : Tok} {Q : Value → Shared → Prop} (S : Site w A h₀ L (n + 6)) (F : Fr h₀ L s.heap m) (N : News h₀ L s.heap (x.led w R)) (nd : Nd (x.led w R)) (ok : x.OkF rs R₀) (sub : ∀ p ∈ R₀, p ∈ R) (hrs : rs.length ≤ 9) (hok : ∀ r ∈ rs, OkR r)
    (h : ∀ h' tk b' a tc' vals' nl' T, let x' : St := { x with b := b', cur := 40 + ((told (rs.drop p)).length : Int), tc := tc', lj := a, vF := vals', nF := nl' }
      x'.OkF (rs.drop p) T → Fr h₀ L h' m → News h₀ L h' (x'.led w (T ++ R)) → Nd (x'.led w (T ++ R)) → Q .none { s with heap := h', toks := tk }) :
    wpS (model PySem.Challenge.rw_jr0034_01.row.prog w) A (call (.ref 412) [.ref x.fj, .int p tp]) Q s := by
  refine delTo_S (n := n) (rest := x.M4 w ++ (x.J3 w ++ (x.R2 ++ R))) S F N nd ok.due (ok.rows.mono fun p hp => List.mem_append_right _ (List.mem_append_right _ (List.mem_append_right _ (sub p hp)))) hrs hok fun h' tk b' a vals' nl' T tc' D' RT F' N' nd' => ?_
  refine h h' tk b' a tc' vals' nl' T ⟨D', rfl, RT⟩ F' ?_ ?_
  · exact News.back4 (a := St.F6 w { x with b := b', cur := 40 + ((told (rs.drop p)).length : Int), tc := tc', lj := a, vF := vals', nF := nl' }) (b := x.M4 w) (c := x.J3 w) (d := x.R2) (e := T) (News.swap (a := St.F6 w { x with b := b', cur := 40 + ((told (rs.drop p)).length : Int), tc := tc', lj := a, vF := vals', nF := nl' }) (b := T) N')
  · exact Nd.back4 (a := St.F6 w { x with b := b', cur := 40 + ((told (rs.drop p)).length : Int), tc := tc', lj := a, vF := vals', nF := nl' }) (b := x.M4 w) (c := x.J3 w) (d := x.R2) (e := T) (Nd.swap (a := St.F6 w { x with b := b', cur := 40 + ((told (rs.drop p)).length : Int), tc := tc', lj := a, vF := vals', nF := nl' }) (b := T) nd')
theorem ledTermF {tn : Int} {tt : Tok} {vv : Value} {Q : Value → Shared → Prop} (S : Site w A h₀ L (n + 3)) (F : Fr h₀ L s.heap m) (N : News h₀ L s.heap (x.led w R)) (nd : Nd (x.led w R)) (ok : x.OkT w) (hvv : vv = .none ∨ ∃ q t, vv = .str q t)
    (h : ∀ h' tk ot' od', let x' : St := { x with ot := ot', od := od', y := some (tn, tt, vv) }
      x'.OkT w → Fr h₀ L h' m → News h₀ L h' (x'.led w R) → Nd (x'.led w R) → Q .none { s with heap := h', toks := tk }) :
    wpS (model PySem.Challenge.rw_jr0034_01.row.prog w) A (call (.ref 440) [.ref x.fj, .int tn tt, vv]) Q s := by
  have N1 := News.swap (a := [(x.rf, instObj 282 x.drf), (x.drf, rfDict w x.t1 x.t2 x.t3 x.mm), (x.mm, baObj x.b), (x.lj, listOf x.vF x.nF)]) (b := x.M4 w) (c := x.J3 w ++ (x.R2 ++ R)) (fun p hp => N p (.tail _ (.tail _ hp)))
  have nd1 : Nd (x.M4 w ++ ([(x.rf, instObj 282 x.drf), (x.drf, rfDict w x.t1 x.t2 x.t3 x.mm), (x.mm, baObj x.b), (x.lj, listOf x.vF x.nF)] ++ (x.J3 w ++ (x.R2 ++ R)))) := Nd.swap nd.split.2.split.2
  have o1 : Off x.fj ((x.dfj, fj6 w x.k1 x.k2 x.k3 x.k4 x.k5 x.k6 x.rf x.lj x.ms x.md x.cur x.tc) :: (x.M4 w ++ ([(x.rf, instObj 282 x.drf), (x.drf, rfDict w x.t1 x.t2 x.t3 x.mm), (x.mm, baObj x.b), (x.lj, listOf x.vF x.nF)] ++ (x.J3 w ++ (x.R2 ++ R))))) := nd.split.1.sub fun p hp => by
    rcases List.mem_cons.mp hp with e | e
    · exact List.mem_cons.mpr (.inl e)
    · exact List.mem_cons.mpr (.inr (mem_swap (a := x.M4 w) (b := [(x.rf, instObj 282 x.drf), (x.drf, rfDict w x.t1 x.t2 x.t3 x.mm), (x.mm, baObj x.b), (x.lj, listOf x.vF x.nF)]) e))
  have o2 : Off x.dfj (x.M4 w ++ ([(x.rf, instObj 282 x.drf), (x.drf, rfDict w x.t1 x.t2 x.t3 x.mm), (x.mm, baObj x.b), (x.lj, listOf x.vF x.nF)] ++ (x.J3 w ++ (x.R2 ++ R)))) := nd.split.2.split.1.sub fun p hp => mem_swap (a := x.M4 w) (b := [(x.rf, instObj 282 x.drf), (x.drf, rfDict w x.t1 x.t2 x.t3 x.mm), (x.mm, baObj x.b), (x.lj, listOf x.vF x.nF)]) hp
  refine setTerm_S (n := n) (drf := x.drf) (mm := x.mm) (t1 := x.t1) (t2 := x.t2) (t3 := x.t3) (b := x.b) (tt := tt) (rest := [(x.rf, instObj 282 x.drf), (x.drf, rfDict w x.t1 x.t2 x.t3 x.mm), (x.mm, baObj x.b), (x.lj, listOf x.vF x.nF)] ++ (x.J3 w ++ (x.R2 ++ R))) (ot := x.ot) (od := x.od) (y := x.y) S F (News_join ⟨N _ (.head _)⟩ (News_join ⟨N _ (.tail _ (.head _))⟩ N1)) (Nd.join o1 (Nd.join o2 nd1)) ok.ot ok.od ok.sd hvv fun h' tk ot' od' e1 e2 F' N' => ?_
  refine h h' tk ot' od' ⟨e1, e2, ok.st, ok.sd⟩ F' ?_ (nd.same rfl)
  have N2 := News.swap (a := St.M4 w { x with ot := ot', od := od', y := some (tn, tt, vv) }) (b := [(x.rf, instObj 282 x.drf), (x.drf, rfDict w x.t1 x.t2 x.t3 x.mm), (x.mm, baObj x.b), (x.lj, listOf x.vF x.nF)]) (c := x.J3 w ++ (x.R2 ++ R)) (fun p hp => N' p (.tail _ (.tail _ hp)))
  exact News_join ⟨N' _ (.head _)⟩ (News_join ⟨N' _ (.tail _ (.head _))⟩ N2)
theorem ledTermM {tn : Int} {tt : Tok} {vv : Value} {Q : Value → Shared → Prop} (S : Site w A h₀ L (n + 1)) (F : Fr h₀ L s.heap m) (N : News h₀ L s.heap (x.led w R)) (nd : Nd (x.led w R))
    (h : ∀ h' tk, let x' : St := { x with tm := tn, ti := tt, v2 := vv }
      Fr h₀ L h' m → News h₀ L h' (x'.led w R) → Nd (x'.led w R) → Q .none { s with heap := h', toks := tk }) :
    wpS (model PySem.Challenge.rw_jr0034_01.row.prog w) A (call (.ref 224) [.ref x.mj, .int tn tt, vv]) Q s := by
  refine mjTerm_S (n := n) (rest := (x.lm, listOf x.vM x.nM) :: (x.F6 w ++ (x.M4 w ++ (x.R2 ++ R)))) S F (News.swap2 (a := x.F6 w) (b := x.M4 w) (c := x.J3 w) N) (Nd.swap2 (a := x.F6 w) (b := x.M4 w) (c := x.J3 w) nd) fun h' tk F' N' => ?_
  exact h h' tk F' (News.back2 (c := St.J3 w { x with tm := tn, ti := tt, v2 := vv }) N') (nd.same rfl)
theorem ledFromM {p : Nat} {tp : Tok} {Q : Value → Shared → Prop} (S : Site w A h₀ L (n + 1)) (F : Fr h₀ L s.heap m) (N : News h₀ L s.heap (x.led w R)) (nd : Nd (x.led w R)) (ok : RowsAt R₀ x.vM.toList rs) (hrs : rs.length ≤ 9)
    (h : ∀ h' tk a, let x' : St := { x with lm := a, vM := (x.vM.toList.take p).toArray, nM := 0 }
      RowsAt R₀ x'.vM.toList (rs.take p) → Fr h₀ L h' m → News h₀ L h' (x'.led w R) → Nd (x'.led w R) → Q .none { s with heap := h', toks := tk }) :
    wpS (model PySem.Challenge.rw_jr0034_01.row.prog w) A (call (.ref 168) [.ref x.mj, .int p tp]) Q s := by
  have hsz : x.vM.size = rs.length := by rw [← Array.length_toList]; exact ok.length
  have nd1 := Nd.swap2 (a := x.F6 w) (b := x.M4 w) (c := x.J3 w) nd
  refine mjFrom_S (n := n) (rest := x.F6 w ++ (x.M4 w ++ (x.R2 ++ R))) S F (News.swap2 (a := x.F6 w) (b := x.M4 w) (c := x.J3 w) N) nd1 (by (first | lia | omega)) fun h' tk a F' N' off' => ?_
  have n2 := Nd.join (o := listOf (x.vM.toList.take p).toArray 0) off' nd1
  have n3 := (Nd.unmid (a := [(a, listOf (x.vM.toList.take p).toArray 0), (x.mj, instObj 241 x.dmj), (x.dmj, mj5 w x.q1 x.q2 x.q3 x.q4 x.q5 x.z2 x.z3 x.lm (.int x.tm x.ti) x.v2)]) (b := x.F6 w ++ (x.M4 w ++ (x.R2 ++ R))) n2).1
  have n4 := Nd.swap (a := [(a, listOf (x.vM.toList.take p).toArray 0)]) (b := [(x.mj, instObj 241 x.dmj), (x.dmj, mj5 w x.q1 x.q2 x.q3 x.q4 x.q5 x.z2 x.z3 x.lm (.int x.tm x.ti) x.v2)]) n3
  refine h h' tk a ?_ F' (News.back2 (c := St.J3 w { x with lm := a, vM := (x.vM.toList.take p).toArray, nM := 0 }) (fun q hq => ?_)) (Nd.back2 (c := St.J3 w { x with lm := a, vM := (x.vM.toList.take p).toArray, nM := 0 }) (n4.same rfl))
  · show RowsAt R₀ (x.vM.toList.take p).toArray.toList _
    rw [List.toList_toArray]
    exact ok.take p
  · have hq' : q ∈ [(x.mj, instObj 241 x.dmj), (x.dmj, mj5 w x.q1 x.q2 x.q3 x.q4 x.q5 x.z2 x.z3 a (.int x.tm x.ti) x.v2)] ++ ([(a, listOf (x.vM.toList.take p).toArray 0)] ++ (x.F6 w ++ (x.M4 w ++ (x.R2 ++ R)))) := hq
    refine N' q ?_
    simp only [List.mem_append, List.mem_cons, List.not_mem_nil, or_false] at hq' ⊢
    rcases hq' with (e | e) | e | e
    · exact .inr (.inl e)
    · exact .inr (.inr (.inl e))
    · exact .inl e
    · exact .inr (.inr (.inr (.inr e)))
theorem ledToM {p : Nat} {tp : Tok} {Q : Value → Shared → Prop} (S : Site w A h₀ L (n + 1)) (F : Fr h₀ L s.heap m) (N : News h₀ L s.heap (x.led w R)) (nd : Nd (x.led w R)) (ok : RowsAt R₀ x.vM.toList rs) (hrs : rs.length ≤ 9)
    (h : ∀ h' tk a, let x' : St := { x with lm := a, vM := (x.vM.toList.drop p).toArray, nM := 0 }
      RowsAt R₀ x'.vM.toList (rs.drop p) → Fr h₀ L h' m → News h₀ L h' (x'.led w R) → Nd (x'.led w R) → Q .none { s with heap := h', toks := tk }) :
    wpS (model PySem.Challenge.rw_jr0034_01.row.prog w) A (call (.ref 175) [.ref x.mj, .int p tp]) Q s := by
  have hsz : x.vM.size = rs.length := by rw [← Array.length_toList]; exact ok.length
  have nd1 := Nd.swap2 (a := x.F6 w) (b := x.M4 w) (c := x.J3 w) nd
  refine mjTo_S (n := n) (rest := x.F6 w ++ (x.M4 w ++ (x.R2 ++ R))) S F (News.swap2 (a := x.F6 w) (b := x.M4 w) (c := x.J3 w) N) nd1 (by (first | lia | omega)) fun h' tk a F' N' off' => ?_
  have n2 := Nd.join (o := listOf (x.vM.toList.drop p).toArray 0) off' nd1
  have n3 := (Nd.unmid (a := [(a, listOf (x.vM.toList.drop p).toArray 0), (x.mj, instObj 241 x.dmj), (x.dmj, mj5 w x.q1 x.q2 x.q3 x.q4 x.q5 x.z2 x.z3 x.lm (.int x.tm x.ti) x.v2)]) (b := x.F6 w ++ (x.M4 w ++ (x.R2 ++ R))) n2).1
  have n4 := Nd.swap (a := [(a, listOf (x.vM.toList.drop p).toArray 0)]) (b := [(x.mj, instObj 241 x.dmj), (x.dmj, mj5 w x.q1 x.q2 x.q3 x.q4 x.q5 x.z2 x.z3 x.lm (.int x.tm x.ti) x.v2)]) n3
  refine h h' tk a ?_ F' (News.back2 (c := St.J3 w { x with lm := a, vM := (x.vM.toList.drop p).toArray, nM := 0 }) (fun q hq => ?_)) (Nd.back2 (c := St.J3 w { x with lm := a, vM := (x.vM.toList.drop p).toArray, nM := 0 }) (n4.same rfl))
  · show RowsAt R₀ (x.vM.toList.drop p).toArray.toList _
    rw [List.toList_toArray]
    exact ok.drop p
  · have hq' : q ∈ [(x.mj, instObj 241 x.dmj), (x.dmj, mj5 w x.q1 x.q2 x.q3 x.q4 x.q5 x.z2 x.z3 a (.int x.tm x.ti) x.v2)] ++ ([(a, listOf (x.vM.toList.drop p).toArray 0)] ++ (x.F6 w ++ (x.M4 w ++ (x.R2 ++ R)))) := hq
    refine N' q ?_
    simp only [List.mem_append, List.mem_cons, List.not_mem_nil, or_false] at hq' ⊢
    rcases hq' with (e | e) | e | e
    · exact .inr (.inl e)
    · exact .inr (.inr (.inl e))
    · exact .inl e
    · exact .inr (.inr (.inr (.inr e)))
end
/- part C24n -/
local macro_rules | `(tactic| walk_at "call ref") => `(tactic| (k_here; (with_reducible show wpAny _ _ (call (Value.ref 272) [Value.ref _, Value.int _ _, Value.int _ _]) _ _ _); (with_reducible rename Site _ _ _ _ _ => S9); k_dflt (refine' read_N (n := 0) (S9.less ?k0) ?k1 ?k2 ?k3 ?k4 ?k5 ?k6 ?k7 ?k8 ?_; (case k0 => (first | lia | omega)); (case k1 => k_asm); (case k2 => k_asm); (case k3 => k_mem); (case k4 => k_mem); (case k5 => k_mem); (case k6 => walk_at "my size"); (case k7 => walk_at "my size"); (case k8 => walk_at "my size")); intro _ _ _ _ _))
local macro_rules | `(tactic| walk_at "call ref") => `(tactic| (k_here; (with_reducible show wpAny _ _ (call (Value.ref 349) [Value.ref _]) _ _ _); (with_reducible rename Site _ _ _ _ _ => S9); k_dflt (refine' header_A (n := 0) (S9.less ?k0) ?k1 ?k2 ?_; (case k0 => (first | lia | omega)); (case k1 => k_asm); (case k2 => k_asm)); intro _ _ _ _ _))
abbrev lawLoc (sa nu mt mm mj fj lr nw : Addr) (x1 x2 x3 x4 x5 x6 x7 x8 : Option Value) : PySem.Str → Option Value := fun z => if z = PySem.Str.ofString "one" then x1 else if z = PySem.Str.ofString "place" then x2 else if z = PySem.Str.ofString "entry" then x3 else if z = PySem.Str.ofString "many" then x4 else if z = PySem.Str.ofString "more" then x5 else if z = PySem.Str.ofString "sort" then x6 else if z = PySem.Str.ofString "number" then x7 else if z = PySem.Str.ofString "now" then some (.ref nw) else if z = PySem.Str.ofString "rows" then some (.ref lr) else if z = PySem.Str.ofString "journal" then some (.ref fj) else if z = PySem.Str.ofString "memory" then some (.ref mj) else if z = PySem.Str.ofString "octets" then some (.ref mm) else if z = PySem.Str.ofString "meta" then some (.ref mt) else if z = PySem.Str.ofString "numbers" then some (.ref nu) else if z = PySem.Str.ofString "size" then x8 else if z = PySem.Str.ofString "script" then some (.ref sa) else none
abbrev St.loc (x : St) (sa nu : Addr) (x1 x2 x3 x4 x5 x6 x7 x8 : Option Value) : PySem.Str → Option Value := lawLoc sa nu x.mt x.mm x.mj x.fj x.lr x.nw x1 x2 x3 x4 x5 x6 x7 x8
local macro_rules | `(tactic| walk_at "my loc") => `(tactic| (intro z; (by_cases q0 : z = PySem.Str.ofString "one"; (subst q0; rfl)); (by_cases q1 : z = PySem.Str.ofString "place"; (subst q1; rfl)); (by_cases q2 : z = PySem.Str.ofString "entry"; (subst q2; rfl)); (by_cases q3 : z = PySem.Str.ofString "many"; (subst q3; rfl)); (by_cases q4 : z = PySem.Str.ofString "more"; (subst q4; rfl)); (by_cases q5 : z = PySem.Str.ofString "sort"; (subst q5; rfl)); (by_cases q6 : z = PySem.Str.ofString "number"; (subst q6; rfl)); (by_cases q7 : z = PySem.Str.ofString "now"; (subst q7; rfl)); (by_cases q8 : z = PySem.Str.ofString "rows"; (subst q8; rfl)); (by_cases q9 : z = PySem.Str.ofString "journal"; (subst q9; rfl)); (by_cases q10 : z = PySem.Str.ofString "memory"; (subst q10; rfl)); (by_cases q11 : z = PySem.Str.ofString "octets"; (subst q11; rfl)); (by_cases q12 : z = PySem.Str.ofString "meta"; (subst q12; rfl)); (by_cases q13 : z = PySem.Str.ofString "numbers"; (subst q13; rfl)); (by_cases q14 : z = PySem.Str.ofString "size"; (subst q14; rfl)); (by_cases q15 : z = PySem.Str.ofString "script"; (subst q15; rfl)); (simp only [lawLoc, if_neg q0, if_neg q1, if_neg q2, if_neg q3, if_neg q4, if_neg q5, if_neg q6, if_neg q7, if_neg q8, if_neg q9, if_neg q10, if_neg q11, if_neg q12, if_neg q13, if_neg q14, if_neg q15])))
structure St.Same (x x' : St) : Prop where
  fj : x'.fj = x.fj
  mm : x'.mm = x.mm
  mt : x'.mt = x.mt
  mj : x'.mj = x.mj
  lr : x'.lr = x.lr
  nw : x'.nw = x.nw
  vR : x'.vR = x.vR
  nR : x'.nR = x.nR
  nn : x'.nn = x.nn
  tn : x'.tn = x.tn
  tj : x'.tj = x.tj
  v3 : x'.v3 = x.v3
structure St.SameT (x x' : St) : Prop where
  ot : x'.ot = x.ot
  od : x'.od = x.od
  md : x'.md = x.md
  y : x'.y = x.y
  tm : x'.tm = x.tm
  v2 : x'.v2 = x.v2
theorem loc_one {sa nu mt mm mj fj lr nw : Addr} {x1 x2 x3 x4 x5 x6 x7 x8 : Option Value} {v : Value} (z : PySem.Str) : (if z = PySem.Str.ofString "one" then some v else lawLoc sa nu mt mm mj fj lr nw x1 x2 x3 x4 x5 x6 x7 x8 z) = lawLoc sa nu mt mm mj fj lr nw (some v) x2 x3 x4 x5 x6 x7 x8 z := by
  by_cases q : z = PySem.Str.ofString "one"
  · subst q
    rfl
  · simp only [lawLoc, if_neg q]
theorem loc_place {sa nu mt mm mj fj lr nw : Addr} {x1 x2 x3 x4 x5 x6 x7 x8 : Option Value} {v : Value} (z : PySem.Str) : (if z = PySem.Str.ofString "place" then some v else lawLoc sa nu mt mm mj fj lr nw x1 x2 x3 x4 x5 x6 x7 x8 z) = lawLoc sa nu mt mm mj fj lr nw x1 (some v) x3 x4 x5 x6 x7 x8 z := by
  by_cases q : z = PySem.Str.ofString "place"
  · subst q
    rfl
  · simp only [lawLoc, if_neg q]
theorem loc_entry {sa nu mt mm mj fj lr nw : Addr} {x1 x2 x3 x4 x5 x6 x7 x8 : Option Value} {v : Value} (z : PySem.Str) : (if z = PySem.Str.ofString "entry" then some v else lawLoc sa nu mt mm mj fj lr nw x1 x2 x3 x4 x5 x6 x7 x8 z) = lawLoc sa nu mt mm mj fj lr nw x1 x2 (some v) x4 x5 x6 x7 x8 z := by
  by_cases q : z = PySem.Str.ofString "entry"
  · subst q
    rfl
  · simp only [lawLoc, if_neg q]
theorem loc_many {sa nu mt mm mj fj lr nw : Addr} {x1 x2 x3 x4 x5 x6 x7 x8 : Option Value} {v : Value} (z : PySem.Str) : (if z = PySem.Str.ofString "many" then some v else lawLoc sa nu mt mm mj fj lr nw x1 x2 x3 x4 x5 x6 x7 x8 z) = lawLoc sa nu mt mm mj fj lr nw x1 x2 x3 (some v) x5 x6 x7 x8 z := by
  by_cases q : z = PySem.Str.ofString "many"
  · subst q
    rfl
  · simp only [lawLoc, if_neg q]
theorem loc_more {sa nu mt mm mj fj lr nw : Addr} {x1 x2 x3 x4 x5 x6 x7 x8 : Option Value} {v : Value} (z : PySem.Str) : (if z = PySem.Str.ofString "more" then some v else lawLoc sa nu mt mm mj fj lr nw x1 x2 x3 x4 x5 x6 x7 x8 z) = lawLoc sa nu mt mm mj fj lr nw x1 x2 x3 x4 (some v) x6 x7 x8 z := by
  by_cases q : z = PySem.Str.ofString "more"
  · subst q
    rfl
  · simp only [lawLoc, if_neg q]
theorem loc_sort {sa nu mt mm mj fj lr nw : Addr} {x1 x2 x3 x4 x5 x6 x7 x8 : Option Value} {v : Value} (z : PySem.Str) : (if z = PySem.Str.ofString "sort" then some v else lawLoc sa nu mt mm mj fj lr nw x1 x2 x3 x4 x5 x6 x7 x8 z) = lawLoc sa nu mt mm mj fj lr nw x1 x2 x3 x4 x5 (some v) x7 x8 z := by
  by_cases q : z = PySem.Str.ofString "sort"
  · subst q
    rfl
  · simp only [lawLoc, if_neg q]
theorem loc_number {sa nu mt mm mj fj lr nw : Addr} {x1 x2 x3 x4 x5 x6 x7 x8 : Option Value} {v : Value} (z : PySem.Str) : (if z = PySem.Str.ofString "number" then some v else lawLoc sa nu mt mm mj fj lr nw x1 x2 x3 x4 x5 x6 x7 x8 z) = lawLoc sa nu mt mm mj fj lr nw x1 x2 x3 x4 x5 x6 (some v) x8 z := by
  by_cases q : z = PySem.Str.ofString "number"
  · subst q
    rfl
  · simp only [lawLoc, if_neg q]
theorem loc_now {sa nu mt mm mj fj lr nw : Addr} {x1 x2 x3 x4 x5 x6 x7 x8 : Option Value} {v : Addr} (z : PySem.Str) : (if z = PySem.Str.ofString "now" then some (.ref v) else lawLoc sa nu mt mm mj fj lr nw x1 x2 x3 x4 x5 x6 x7 x8 z) = lawLoc sa nu mt mm mj fj lr v x1 x2 x3 x4 x5 x6 x7 x8 z := by
  by_cases q : z = PySem.Str.ofString "now"
  · subst q
    rfl
  · simp only [lawLoc, if_neg q]
theorem loc_rows {sa nu mt mm mj fj lr nw : Addr} {x1 x2 x3 x4 x5 x6 x7 x8 : Option Value} {v : Addr} (z : PySem.Str) : (if z = PySem.Str.ofString "rows" then some (.ref v) else lawLoc sa nu mt mm mj fj lr nw x1 x2 x3 x4 x5 x6 x7 x8 z) = lawLoc sa nu mt mm mj fj v nw x1 x2 x3 x4 x5 x6 x7 x8 z := by
  by_cases q : z = PySem.Str.ofString "rows"
  · subst q
    rfl
  · simp only [lawLoc, if_neg q]
theorem iteIn {α : Type} {p : Prop} [Decidable p] {v a t r : α} (h : a = t) (k : (if p then v else t) = r) : (if p then v else a) = r := h ▸ k
theorem locOne {h₀ h : Heap} {L sa nu mt mm mj fj lr nw : Addr} {v : Value} {x1 x2 x3 x4 x5 x6 x7 x8 : Option Value} (F : Fr h₀ L h (fun y => if y = PySem.Str.ofString "one" then some v else lawLoc sa nu mt mm mj fj lr nw x1 x2 x3 x4 x5 x6 x7 x8 y)) : Fr h₀ L h (lawLoc sa nu mt mm mj fj lr nw (some v) x2 x3 x4 x5 x6 x7 x8) := by
  refine Fr_of (fun z => ?_) F
  by_cases q : z = PySem.Str.ofString "one"
  · simp only [lawLoc, if_pos q]
  · simp only [lawLoc, if_neg q]
noncomputable def lawTurn : List Stmt := match lawRec.body with
  | [_, _, _, _, _, _, _, .For _ _ b _ _, _] => b
  | _ => []
noncomputable def lawIf1 : List Stmt := match lawTurn with
  | [_, .If _ b _ _, _] => b
  | _ => []
noncomputable def lawEl1 : List Stmt := match lawTurn with
  | [_, .If _ _ e _, _] => e
  | _ => []
noncomputable def lawIf2 : List Stmt := match lawEl1 with
  | [.If _ b _ _] => b
  | _ => []
noncomputable def lawEl2 : List Stmt := match lawEl1 with
  | [.If _ _ e _] => e
  | _ => []
noncomputable def lawIf3 : List Stmt := match lawEl2 with
  | [.If _ b _ _] => b
  | _ => []
noncomputable def lawEl3 : List Stmt := match lawEl2 with
  | [.If _ _ e _] => e
  | _ => []
/-- the last statement of a branch, the two deeds -/
noncomputable def lastOf (l : List Stmt) : List Stmt := match l with
  | [_, _, _, f] => [f]
  | [_, _, f] => [f]
  | [_, f] => [f]
  | _ => []
theorem News.permL {h₀ h : Heap} {L : Addr} {a b : List (Addr × Obj)} (N : News h₀ L h a) (p : a.Perm b) : News h₀ L h b := fun q hq => N q (p.mem_iff.mpr hq)
theorem Nd.permL {a b : List (Addr × Obj)} (N : Nd a) (p : a.Perm b) : Nd b := N.perm (p.map _)
theorem twoLoop {w : World} {A : Around} {s : Shared} {g : Heap} {env : Env} {L : Addr} {x : St} {R : List (Addr × Obj)} {sa nu : Addr} {x1 x2 x3 x4 x5 x6 x7 x8 : Option Value} {px : Pos} {body : List Stmt} {I Dt : Addr} {o : Obj} {Rf : Flow → Shared → Prop} (P1 P2 : St → List (Addr × Obj) → Prop) (hl : L = env.locals) (hk : env.kindOf (PySem.Str.ofString "one") = some .local) (hp : (env.scope.kind == .class || (env.scope.kind == .module && env.locals != env.globals)) = false) (calm : A.handled = none)
    (F : Fr g L s.heap (x.loc sa nu x1 x2 x3 x4 x5 x6 x7 x8)) (N : News g L s.heap ((I, o) :: (Dt, tupO #[.ref x.fj, .ref x.mj] 0) :: x.led w R)) (ho : TiObj Dt 0 o) (nd : Nd ((I, o) :: (Dt, tupO #[.ref x.fj, .ref x.mj] 0) :: x.led w R)) (hm : ∀ x' R', P1 x' R' → x'.mj = x.mj)
    (turn1 : ∀ (o8 : Obj) (h8 : Heap) (tk8 : Nat) (Q' : Flow → Shared → Prop), (∀ h' tk' x' R', P1 x' R' → Fr g L h' (x'.loc sa nu (some (.ref x.fj)) x2 x3 x4 x5 x6 x7 x8) → News g L h' (x'.led w ((I, o8) :: (Dt, tupO #[.ref x.fj, .ref x.mj] 0) :: R')) → Nd (x'.led w ((I, o8) :: (Dt, tupO #[.ref x.fj, .ref x.mj] 0) :: R')) → Q' .next { s with heap := h', toks := tk' }) →
      Fr g L h8 (x.loc sa nu (some (.ref x.fj)) x2 x3 x4 x5 x6 x7 x8) → News g L h8 (x.led w ((I, o8) :: (Dt, tupO #[.ref x.fj, .ref x.mj] 0) :: R)) → Nd (x.led w ((I, o8) :: (Dt, tupO #[.ref x.fj, .ref x.mj] 0) :: R)) → wpS (model PySem.Challenge.rw_jr0034_01.row.prog w) A (execs body env) Q' { s with heap := h8, toks := tk8 })
    (turn2 : ∀ (o8 : Obj) (h8 : Heap) (tk8 : Nat) (x' : St) (R' : List (Addr × Obj)) (Q' : Flow → Shared → Prop), P1 x' R' → (∀ h' tk' x'' R'', P2 x'' R'' → Fr g L h' (x''.loc sa nu (some (.ref x'.mj)) x2 x3 x4 x5 x6 x7 x8) → News g L h' (x''.led w ((I, o8) :: (Dt, tupO #[.ref x.fj, .ref x.mj] 0) :: R'')) → Nd (x''.led w ((I, o8) :: (Dt, tupO #[.ref x.fj, .ref x.mj] 0) :: R'')) → Q' .next { s with heap := h', toks := tk' }) →
      Fr g L h8 (x'.loc sa nu (some (.ref x'.mj)) x2 x3 x4 x5 x6 x7 x8) → News g L h8 (x'.led w ((I, o8) :: (Dt, tupO #[.ref x.fj, .ref x.mj] 0) :: R')) → Nd (x'.led w ((I, o8) :: (Dt, tupO #[.ref x.fj, .ref x.mj] 0) :: R')) → wpS (model PySem.Challenge.rw_jr0034_01.row.prog w) A (execs body env) Q' { s with heap := h8, toks := tk8 })
    (done : ∀ h' tk' x' R' o1, P2 x' R' → Fr g L h' (x'.loc sa nu o1 x2 x3 x4 x5 x6 x7 x8) → News g L h' (x'.led w R') → Nd (x'.led w R') → Rf .next { s with heap := h', toks := tk' }) :
    codeS (model PySem.Challenge.rw_jr0034_01.row.prog w) A (.forLoop (.Name (PySem.Str.ofString "one") px) (.ref I) body [] env) Rf s := by
  subst hl
  refine S_forTup (t := Dt) (its := #[.ref x.fj, .ref x.mj]) (nt := 0) (fun i m₁ news₁ => (i = 0 ∧ m₁ = (x.loc sa nu x1 x2 x3 x4 x5 x6 x7 x8) ∧ news₁ = (Dt, tupO #[.ref x.fj, .ref x.mj] 0) :: x.led w R) ∨ (∃ (x' : St) (R' : List (Addr × Obj)) (o1 : Option Value), (i = 1 ∧ P1 x' R' ∨ i = 2 ∧ P2 x' R') ∧ m₁ = (x'.loc sa nu o1 x2 x3 x4 x5 x6 x7 x8) ∧ news₁ = (Dt, tupO #[.ref x.fj, .ref x.mj] 0) :: x'.led w R' ∧ Nd ((I, o) :: news₁))) calm F N ho (.inl ⟨rfl, rfl, rfl⟩) ?_ ?_ ?_
  · rintro i m₁ news₁ (⟨_, _, rfl⟩ | ⟨x', R', o1, _, _, rfl, nd1⟩)
    · exact ⟨nd.split.1, .head _⟩
    · exact ⟨nd1.split.1, .head _⟩
  · rintro i v m₁ news₁ h8 tk8 o8 hv8 hJ F8 N8
    rcases i with _ | _ | i
    · rcases hJ with ⟨_, rfl, rfl⟩ | ⟨_, _, _, ⟨hi, _⟩ | ⟨hi, _⟩, _⟩
      · cases hv8
        refine assign_name (s := ⟨h8, s.gens, s.drawn, tk8, s.os⟩) hk F8 N8 hp fun h9 F9 N9 => ?_
        refine turn1 o8 h9 _ _ (fun h' tk' x' R' hP F' N' nd' => Hide.mk ⟨rfl, h', tk', _, (Dt, tupO #[.ref x.fj, .ref x.mj] 0) :: x'.led w R', rfl, F', News.swap4 (a := x'.F6 w) (b := x'.M4 w) (c := x'.J3 w) (d := x'.R2) (e := [(I, o8), (Dt, tupO #[.ref x.fj, .ref x.mj] 0)]) (f := R') N', .inr ⟨x', R', _, .inl ⟨rfl, hP⟩, rfl, rfl, (Nd.swap4 (a := x'.F6 w) (b := x'.M4 w) (c := x'.J3 w) (d := x'.R2) (e := [(I, o8), (Dt, tupO #[.ref x.fj, .ref x.mj] 0)]) (f := R') nd').same rfl⟩⟩) (locOne F9) ?_ ?_
        · exact News.back4 (a := x.F6 w) (b := x.M4 w) (c := x.J3 w) (d := x.R2) (e := [(I, o8), (Dt, tupO #[.ref x.fj, .ref x.mj] 0)]) (f := R) N9
        · exact Nd.back4 (a := x.F6 w) (b := x.M4 w) (c := x.J3 w) (d := x.R2) (e := [(I, o8), (Dt, tupO #[.ref x.fj, .ref x.mj] 0)]) (f := R) (nd.same rfl)
      · cases hi
      · cases hi
    · rcases hJ with ⟨hi, _⟩ | ⟨x', R', o1, ⟨_, hP1⟩ | ⟨hi, _⟩, rfl, rfl, nd1⟩
      · cases hi
      · have hv : v = .ref x'.mj := by
          rw [hm _ _ hP1]
          cases hv8
          rfl
        subst hv
        refine assign_name (s := ⟨h8, s.gens, s.drawn, tk8, s.os⟩) hk F8 N8 hp fun h9 F9 N9 => ?_
        refine turn2 o8 h9 _ x' R' _ hP1 (fun h' tk' x'' R'' hP F' N' nd' => Hide.mk ⟨rfl, h', tk', _, (Dt, tupO #[.ref x.fj, .ref x.mj] 0) :: x''.led w R'', rfl, F', News.swap4 (a := x''.F6 w) (b := x''.M4 w) (c := x''.J3 w) (d := x''.R2) (e := [(I, o8), (Dt, tupO #[.ref x.fj, .ref x.mj] 0)]) (f := R'') N', .inr ⟨x'', R'', _, .inr ⟨rfl, hP⟩, rfl, rfl, (Nd.swap4 (a := x''.F6 w) (b := x''.M4 w) (c := x''.J3 w) (d := x''.R2) (e := [(I, o8), (Dt, tupO #[.ref x.fj, .ref x.mj] 0)]) (f := R'') nd').same rfl⟩⟩) (locOne F9) ?_ ?_
        · exact News.back4 (a := x'.F6 w) (b := x'.M4 w) (c := x'.J3 w) (d := x'.R2) (e := [(I, o8), (Dt, tupO #[.ref x.fj, .ref x.mj] 0)]) (f := R') N9
        · exact Nd.back4 (a := x'.F6 w) (b := x'.M4 w) (c := x'.J3 w) (d := x'.R2) (e := [(I, o8), (Dt, tupO #[.ref x.fj, .ref x.mj] 0)]) (f := R') (nd1.same rfl)
      · cases hi
    · simp at hv8
  · rintro m₁ news₁ h8 tk8 hJ F8 N8
    rcases hJ with ⟨hi, _⟩ | ⟨x', R', o1, ⟨hi, _⟩ | ⟨_, hP2⟩, rfl, rfl, nd1⟩
    · cases hi
    · cases hi
    · exact done _ _ x' R' o1 hP2 F8 (fun p hp => N8 p (.tail _ hp)) nd1.split.2.split.2
theorem ledTail {w : World} {x : St} {R1 R2 : List (Addr × Obj)} (p : R1.Perm R2) : (x.led w R1).Perm (x.led w R2) := List.Perm.append_left _ (List.Perm.append_left _ (List.Perm.append_left _ (List.Perm.append_left _ p)))
theorem perm12 {p q r : Addr × Obj} {R : List (Addr × Obj)} : (p :: q :: r :: R).Perm (q :: r :: p :: R) := (List.perm_middle (l₁ := [q, r])).symm
theorem permT {q r : Addr × Obj} {T R : List (Addr × Obj)} : (T ++ q :: r :: R).Perm (q :: r :: (T ++ R)) := List.perm_middle.trans (List.Perm.cons _ List.perm_middle)
theorem addLoop {w : World} {A : Around} {s : Shared} {g : Heap} {L fa : Addr} {cd : Value} {n : Nat} {x : St} {R : List (Addr × Obj)} {rs : List Rw} {sa nu : Addr} {x1 x2 x3 x4 x5 x6 x7 x8 : Option Value} {Q : Flow → Shared → Prop} {r : Rw} {en : Addr} {ta tb td : Tok}
    (S' : Site w (A.deeper (lawEnv L fa cd)) g L (n + 8)) (F : Fr g L s.heap (x.loc sa nu x1 x2 (some (.ref en)) x4 x5 x6 x7 x8)) (N : News g L s.heap (x.led w R)) (nd : Nd (x.led w R)) (okF : x.OkF rs R) (okM : RowsAt R x.vM.toList rs) (hok : ∀ r ∈ rs, OkR r) (hen : (en, tupR r ta tb td) ∈ R) (hrs : rs.length ≤ 8) (hr : OkR r)
    (h : ∀ h' tk (x' : St) R' o1, x.Same x' → (∀ p ∈ R, p ∈ R') → x.SameT x' → x'.OkF (rs ++ [r]) R' → RowsAt R' x'.vM.toList (rs ++ [r]) → Fr g L h' (x'.loc sa nu o1 x2 (some (.ref en)) x4 x5 x6 x7 x8) → News g L h' (x'.led w R') → Nd (x'.led w R') → Q .next { s with heap := h', toks := tk }) :
    wpS (model PySem.Challenge.rw_jr0034_01.row.prog w) (A.deeper (lawEnv L fa cd)) (execs (lastOf lawIf1) (lawEnv L fa cd)) Q s := by
  change Site w (A.deeper (envOf (PySem.Str.ofString "law") { kind := _, names := _, isGenerator := _, isCoroutine := _, more := _ } L _ _)) g L (n + 8) at S'
  (try dsimp only at S')
  change wpS _ (A.deeper (envOf (PySem.Str.ofString "law") { kind := _, names := _, isGenerator := _, isCoroutine := _, more := _ } L _ _)) (execs (_ :: []) (envOf (PySem.Str.ofString "law") { kind := _, names := _, isGenerator := _, isCoroutine := _, more := _ } L _ _)) _ _
  (try dsimp only)
  refine Site.use S' fun A₀ base outer env mean mg mb B hA hf hke X T room units calm => ?_
  refine wpS_abs fun Q9 hQ9 => ?_
  refine S_cons (S_For (wpS_of ?_))
  walk_at "my steps"
  rename Fr g _ _ _ => F6
  rename News g _ _ _ => N6
  rename_i Dt _ l6
  refine iterTup F6 N6 (.head _) fun I o h7 ho F7 N7 l7 => ?_
  have nd7 : Nd ((I, o) :: (Dt, tupO #[.ref x.fj, .ref x.mj] 0) :: x.led w R) := Nd.join (Off.of_lt l7) (Nd.join (Off.of_lt l6) nd)
  clear F6 N6 l7 l6
  (try dsimp only)
  refine twoLoop (fun x' R' => x.Same x' ∧ (∀ p ∈ R, p ∈ R') ∧ x.SameT x' ∧ x'.OkF (rs ++ [r]) R' ∧ RowsAt R' x'.vM.toList rs) (fun x' R' => x.Same x' ∧ (∀ p ∈ R, p ∈ R') ∧ x.SameT x' ∧ x'.OkF (rs ++ [r]) R' ∧ RowsAt R' x'.vM.toList (rs ++ [r])) rfl rfl rfl calm F7 N7 ho nd7 (fun _ _ hP => hP.1.mj) ?_ ?_ ?_
  · intro o8 h8 tk8 Q8 hQ8 F8 N8 nd8
    clear hQ9 F7 N7
    obtain ⟨news9, hn9⟩ : ∃ l, l = x.led w ((I, o8) :: (Dt, tupO #[.ref x.fj, .ref x.mj] 0) :: R) := ⟨_, rfl⟩
    have N10 : News g L h8 news9 := by rw [hn9]; exact N8
    have i1 : (x.fj, instObj 464 x.dfj) ∈ news9 := by rw [hn9]; exact .head _
    have i3 : (x.dfj, fj6 w x.k1 x.k2 x.k3 x.k4 x.k5 x.k6 x.rf x.lj x.ms x.md x.cur x.tc) ∈ news9 := by rw [hn9]; exact .tail _ (.head _)
    have i2 : (en, tupR r ta tb td) ∈ news9 := (by rw [hn9]; exact List.mem_append_right _ (List.mem_append_right _ (List.mem_append_right _ (List.mem_append_right _ (.tail _ (.tail _ hen))))))
    clear N8
    refine S_cons (S_Expr (S_method ?_))
    walk_at "my steps"
    refine S_callWith (K := hd.heap_1 w.params) ?kp (wpS_of ?_)
    case kp => k_is
    walk_at "my steps"
    rename Fr g _ _ _ => F11
    rename News g _ _ _ => N11
    rw [hn9] at N11
    refine ledAddF (n := n + 4) (R₀ := R) (rs := rs) (r := r) (S'.less (by walk_at "my less")) F11 N11 nd8 okF hrs hok hr fun h13 tk13 b' a tc' ta' tb' td' ok13 F13 N13 nd13 => ?_
    exact S_nil (hQ8 _ _ { x with b := b', cur := 40 + ((told (rs ++ [r])).length : Int), tc := tc', vF := x.vF.push (.ref a), nF := x.nF + 1 } ((a, tupR r ta' tb' td') :: R) ⟨⟨rfl, rfl, rfl, rfl, rfl, rfl, rfl, rfl, rfl, rfl, rfl, rfl⟩, fun p hp => .tail _ hp, ⟨rfl, rfl, rfl, rfl, rfl, rfl⟩, ok13, okM.mono fun p hp => .tail _ hp⟩ F13 (News.permL N13 (ledTail perm12)) (Nd.permL nd13 (ledTail perm12)))
  · rintro o8 h8 tk8 x' R' Q8 ⟨sm, sub, hK⟩ hQ8 F8 N8 nd8
    clear hQ9 F7 N7
    obtain ⟨news9, hn9⟩ : ∃ l, l = x'.led w ((I, o8) :: (Dt, tupO #[.ref x.fj, .ref x.mj] 0) :: R') := ⟨_, rfl⟩
    have N10 : News g L h8 news9 := by rw [hn9]; exact N8
    have i1 : (x'.mj, instObj 241 x'.dmj) ∈ news9 := by rw [hn9]; exact List.mem_append_right _ (List.mem_append_right _ (.head _))
    have i3 : (x'.dmj, mj5 w x'.q1 x'.q2 x'.q3 x'.q4 x'.q5 x'.z2 x'.z3 x'.lm (.int x'.tm x'.ti) x'.v2) ∈ news9 := by rw [hn9]; exact List.mem_append_right _ (List.mem_append_right _ (.tail _ (.head _)))
    have i2 : (en, tupR r ta tb td) ∈ news9 := (by rw [hn9]; exact List.mem_append_right _ (List.mem_append_right _ (List.mem_append_right _ (List.mem_append_right _ (.tail _ (.tail _ (sub _ hen)))))))
    clear N8
    refine S_cons (S_Expr (S_method ?_))
    walk_at "my steps"
    refine S_callWith (K := hd.heap_1 w.params) ?kp (wpS_of ?_)
    case kp => k_is
    walk_at "my steps"
    rename Fr g _ _ _ => F11
    rename News g _ _ _ => N11
    rw [hn9] at N11
    refine ledAddM (n := n + 7) (R₀ := R') (rs := rs) (r := r) (S'.less (by walk_at "my less")) F11 N11 nd8 hK.2.2 hrs fun h13 tk13 a ok13 F13 N13 nd13 => ?_
    exact S_nil (hQ8 _ _ { x' with vM := x'.vM.push (.ref a), nM := x'.nM + 1 } ((a, tupR r ta tb td) :: R') ⟨⟨sm.fj, sm.mm, sm.mt, sm.mj, sm.lr, sm.nw, sm.vR, sm.nR, sm.nn, sm.tn, sm.tj, sm.v3⟩, fun p hp => .tail _ (sub p hp), ⟨hK.1.ot, hK.1.od, hK.1.md, hK.1.y, hK.1.tm, hK.1.v2⟩, ⟨hK.2.1.due, hK.2.1.cur, hK.2.1.rows.mono fun p hp => .tail _ hp⟩, ok13⟩ F13 (News.permL N13 (ledTail perm12)) (Nd.permL nd13 (ledTail perm12)))
  · rintro h8 tk8 x' R' o1 ⟨sm, sub, hK⟩ F8 N8 nd8
    exact S_nil (hQ9 _ _ (h _ _ x' R' o1 sm sub hK.1 hK.2.1 hK.2.2 F8 N8 nd8))
theorem delFromLoop {w : World} {A : Around} {s : Shared} {g : Heap} {L fa : Addr} {cd : Value} {n : Nat} {x : St} {R : List (Addr × Obj)} {rs : List Rw} {sa nu : Addr} {x1 x2 x3 x4 x5 x6 x7 x8 : Option Value} {Q : Flow → Shared → Prop} {p : Nat} {tp : Tok}
    (S' : Site w (A.deeper (lawEnv L fa cd)) g L (n + 8)) (F : Fr g L s.heap (x.loc sa nu x1 (some (.int p tp)) x3 x4 x5 x6 x7 x8)) (N : News g L s.heap (x.led w R)) (nd : Nd (x.led w R)) (okF : x.OkF rs R) (okM : RowsAt R x.vM.toList rs) (hok : ∀ r ∈ rs, OkR r) (hrs : rs.length ≤ 9) (hpl : p ≤ rs.length)
    (h : ∀ h' tk (x' : St) R' o1, x.Same x' → (∀ p ∈ R, p ∈ R') → x.SameT x' → x'.OkF (rs.take p) R' → RowsAt R' x'.vM.toList (rs.take p) → Fr g L h' (x'.loc sa nu o1 (some (.int p tp)) x3 x4 x5 x6 x7 x8) → News g L h' (x'.led w R') → Nd (x'.led w R') → Q .next { s with heap := h', toks := tk }) :
    wpS (model PySem.Challenge.rw_jr0034_01.row.prog w) (A.deeper (lawEnv L fa cd)) (execs (lastOf lawIf2) (lawEnv L fa cd)) Q s := by
  change Site w (A.deeper (envOf (PySem.Str.ofString "law") { kind := _, names := _, isGenerator := _, isCoroutine := _, more := _ } L _ _)) g L (n + 8) at S'
  (try dsimp only at S')
  change wpS _ (A.deeper (envOf (PySem.Str.ofString "law") { kind := _, names := _, isGenerator := _, isCoroutine := _, more := _ } L _ _)) (execs (_ :: []) (envOf (PySem.Str.ofString "law") { kind := _, names := _, isGenerator := _, isCoroutine := _, more := _ } L _ _)) _ _
  (try dsimp only)
  refine Site.use S' fun A₀ base outer env mean mg mb B hA hf hke X T room units calm => ?_
  refine wpS_abs fun Q9 hQ9 => ?_
  refine S_cons (S_For (wpS_of ?_))
  walk_at "my steps"
  rename Fr g _ _ _ => F6
  rename News g _ _ _ => N6
  rename_i Dt _ l6
  refine iterTup F6 N6 (.head _) fun I o h7 ho F7 N7 l7 => ?_
  have nd7 : Nd ((I, o) :: (Dt, tupO #[.ref x.fj, .ref x.mj] 0) :: x.led w R) := Nd.join (Off.of_lt l7) (Nd.join (Off.of_lt l6) nd)
  clear F6 N6 l7 l6
  (try dsimp only)
  refine twoLoop (fun x' R' => x.Same x' ∧ (∀ p ∈ R, p ∈ R') ∧ x.SameT x' ∧ x'.OkF (rs.take p) R' ∧ RowsAt R' x'.vM.toList rs) (fun x' R' => x.Same x' ∧ (∀ p ∈ R, p ∈ R') ∧ x.SameT x' ∧ x'.OkF (rs.take p) R' ∧ RowsAt R' x'.vM.toList (rs.take p)) rfl rfl rfl calm F7 N7 ho nd7 (fun _ _ hP => hP.1.mj) ?_ ?_ ?_
  · intro o8 h8 tk8 Q8 hQ8 F8 N8 nd8
    clear hQ9 F7 N7
    obtain ⟨news9, hn9⟩ : ∃ l, l = x.led w ((I, o8) :: (Dt, tupO #[.ref x.fj, .ref x.mj] 0) :: R) := ⟨_, rfl⟩
    have N10 : News g L h8 news9 := by rw [hn9]; exact N8
    have i1 : (x.fj, instObj 464 x.dfj) ∈ news9 := by rw [hn9]; exact .head _
    have i3 : (x.dfj, fj6 w x.k1 x.k2 x.k3 x.k4 x.k5 x.k6 x.rf x.lj x.ms x.md x.cur x.tc) ∈ news9 := by rw [hn9]; exact .tail _ (.head _)
    clear N8
    refine S_cons (S_Expr (S_method ?_))
    walk_at "my steps"
    refine S_callWith (K := hd.heap_1 w.params) ?kp (wpS_of ?_)
    case kp => k_is
    walk_at "my steps"
    rename Fr g _ _ _ => F11
    rename News g _ _ _ => N11
    rw [hn9] at N11
    refine ledFromF (n := n + 4) (R₀ := R) (rs := rs) (p := p) (S'.less (by walk_at "my less")) F11 N11 nd8 okF hrs hok hpl fun h13 tk13 b' a tc' ok13 F13 N13 nd13 => ?_
    exact S_nil (hQ8 _ _ { x with b := b', cur := 40 + ((told (rs.take p)).length : Int), tc := tc', lj := a, vF := (x.vF.toList.take p).toArray, nF := 0 } (R) ⟨⟨rfl, rfl, rfl, rfl, rfl, rfl, rfl, rfl, rfl, rfl, rfl, rfl⟩, fun p hp => hp, ⟨rfl, rfl, rfl, rfl, rfl, rfl⟩, ok13, okM⟩ F13 N13 nd13)
  · rintro o8 h8 tk8 x' R' Q8 ⟨sm, sub, hK⟩ hQ8 F8 N8 nd8
    clear hQ9 F7 N7
    obtain ⟨news9, hn9⟩ : ∃ l, l = x'.led w ((I, o8) :: (Dt, tupO #[.ref x.fj, .ref x.mj] 0) :: R') := ⟨_, rfl⟩
    have N10 : News g L h8 news9 := by rw [hn9]; exact N8
    have i1 : (x'.mj, instObj 241 x'.dmj) ∈ news9 := by rw [hn9]; exact List.mem_append_right _ (List.mem_append_right _ (.head _))
    have i3 : (x'.dmj, mj5 w x'.q1 x'.q2 x'.q3 x'.q4 x'.q5 x'.z2 x'.z3 x'.lm (.int x'.tm x'.ti) x'.v2) ∈ news9 := by rw [hn9]; exact List.mem_append_right _ (List.mem_append_right _ (.tail _ (.head _)))
    clear N8
    refine S_cons (S_Expr (S_method ?_))
    walk_at "my steps"
    refine S_callWith (K := hd.heap_1 w.params) ?kp (wpS_of ?_)
    case kp => k_is
    walk_at "my steps"
    rename Fr g _ _ _ => F11
    rename News g _ _ _ => N11
    rw [hn9] at N11
    refine ledFromM (n := n + 7) (R₀ := R') (rs := rs) (p := p) (S'.less (by walk_at "my less")) F11 N11 nd8 hK.2.2 hrs fun h13 tk13 a ok13 F13 N13 nd13 => ?_
    exact S_nil (hQ8 _ _ { x' with lm := a, vM := (x'.vM.toList.take p).toArray, nM := 0 } (R') ⟨⟨sm.fj, sm.mm, sm.mt, sm.mj, sm.lr, sm.nw, sm.vR, sm.nR, sm.nn, sm.tn, sm.tj, sm.v3⟩, sub, ⟨hK.1.ot, hK.1.od, hK.1.md, hK.1.y, hK.1.tm, hK.1.v2⟩, ⟨hK.2.1.due, hK.2.1.cur, hK.2.1.rows⟩, ok13⟩ F13 N13 nd13)
  · rintro h8 tk8 x' R' o1 ⟨sm, sub, hK⟩ F8 N8 nd8
    exact S_nil (hQ9 _ _ (h _ _ x' R' o1 sm sub hK.1 hK.2.1 hK.2.2 F8 N8 nd8))
theorem delToLoop {w : World} {A : Around} {s : Shared} {g : Heap} {L fa : Addr} {cd : Value} {n : Nat} {x : St} {R : List (Addr × Obj)} {rs : List Rw} {sa nu : Addr} {x1 x2 x3 x4 x5 x6 x7 x8 : Option Value} {Q : Flow → Shared → Prop} {p : Nat} {tp : Tok}
    (S' : Site w (A.deeper (lawEnv L fa cd)) g L (n + 8)) (F : Fr g L s.heap (x.loc sa nu x1 (some (.int p tp)) x3 x4 x5 x6 x7 x8)) (N : News g L s.heap (x.led w R)) (nd : Nd (x.led w R)) (okF : x.OkF rs R) (okM : RowsAt R x.vM.toList rs) (hok : ∀ r ∈ rs, OkR r) (hrs : rs.length ≤ 9) 
    (h : ∀ h' tk (x' : St) R' o1, x.Same x' → (∀ p ∈ R, p ∈ R') → x.SameT x' → x'.OkF (rs.drop p) R' → RowsAt R' x'.vM.toList (rs.drop p) → Fr g L h' (x'.loc sa nu o1 (some (.int p tp)) x3 x4 x5 x6 x7 x8) → News g L h' (x'.led w R') → Nd (x'.led w R') → Q .next { s with heap := h', toks := tk }) :
    wpS (model PySem.Challenge.rw_jr0034_01.row.prog w) (A.deeper (lawEnv L fa cd)) (execs (lastOf lawIf3) (lawEnv L fa cd)) Q s := by
  change Site w (A.deeper (envOf (PySem.Str.ofString "law") { kind := _, names := _, isGenerator := _, isCoroutine := _, more := _ } L _ _)) g L (n + 8) at S'
  (try dsimp only at S')
  change wpS _ (A.deeper (envOf (PySem.Str.ofString "law") { kind := _, names := _, isGenerator := _, isCoroutine := _, more := _ } L _ _)) (execs (_ :: []) (envOf (PySem.Str.ofString "law") { kind := _, names := _, isGenerator := _, isCoroutine := _, more := _ } L _ _)) _ _
  (try dsimp only)
  refine Site.use S' fun A₀ base outer env mean mg mb B hA hf hke X T room units calm => ?_
  refine wpS_abs fun Q9 hQ9 => ?_
  refine S_cons (S_For (wpS_of ?_))
  walk_at "my steps"
  rename Fr g _ _ _ => F6
  rename News g _ _ _ => N6
  rename_i Dt _ l6
  refine iterTup F6 N6 (.head _) fun I o h7 ho F7 N7 l7 => ?_
  have nd7 : Nd ((I, o) :: (Dt, tupO #[.ref x.fj, .ref x.mj] 0) :: x.led w R) := Nd.join (Off.of_lt l7) (Nd.join (Off.of_lt l6) nd)
  clear F6 N6 l7 l6
  (try dsimp only)
  refine twoLoop (fun x' R' => x.Same x' ∧ (∀ p ∈ R, p ∈ R') ∧ x.SameT x' ∧ x'.OkF (rs.drop p) R' ∧ RowsAt R' x'.vM.toList rs) (fun x' R' => x.Same x' ∧ (∀ p ∈ R, p ∈ R') ∧ x.SameT x' ∧ x'.OkF (rs.drop p) R' ∧ RowsAt R' x'.vM.toList (rs.drop p)) rfl rfl rfl calm F7 N7 ho nd7 (fun _ _ hP => hP.1.mj) ?_ ?_ ?_
  · intro o8 h8 tk8 Q8 hQ8 F8 N8 nd8
    clear hQ9 F7 N7
    obtain ⟨news9, hn9⟩ : ∃ l, l = x.led w ((I, o8) :: (Dt, tupO #[.ref x.fj, .ref x.mj] 0) :: R) := ⟨_, rfl⟩
    have N10 : News g L h8 news9 := by rw [hn9]; exact N8
    have i1 : (x.fj, instObj 464 x.dfj) ∈ news9 := by rw [hn9]; exact .head _
    have i3 : (x.dfj, fj6 w x.k1 x.k2 x.k3 x.k4 x.k5 x.k6 x.rf x.lj x.ms x.md x.cur x.tc) ∈ news9 := by rw [hn9]; exact .tail _ (.head _)
    clear N8
    refine S_cons (S_Expr (S_method ?_))
    walk_at "my steps"
    refine S_callWith (K := hd.heap_1 w.params) ?kp (wpS_of ?_)
    case kp => k_is
    walk_at "my steps"
    rename Fr g _ _ _ => F11
    rename News g _ _ _ => N11
    rw [hn9] at N11
    refine ledToF (n := n + 2) (R₀ := R) (rs := rs) (p := p) (S'.less (by walk_at "my less")) F11 N11 nd8 okF (fun p hp => .tail _ (.tail _ hp)) hrs hok fun h13 tk13 b' a tc' vals' nl' T1 ok13 F13 N13 nd13 => ?_
    exact S_nil (hQ8 _ _ { x with b := b', cur := 40 + ((told (rs.drop p)).length : Int), tc := tc', lj := a, vF := vals', nF := nl' } (T1 ++ R) ⟨⟨rfl, rfl, rfl, rfl, rfl, rfl, rfl, rfl, rfl, rfl, rfl, rfl⟩, fun p hp => List.mem_append_right _ hp, ⟨rfl, rfl, rfl, rfl, rfl, rfl⟩, ⟨ok13.due, ok13.cur, ok13.rows.mono fun p hp => List.mem_append_left _ hp⟩, okM.mono fun p hp => List.mem_append_right _ hp⟩ F13 (News.permL N13 (ledTail permT)) (Nd.permL nd13 (ledTail permT)))
  · rintro o8 h8 tk8 x' R' Q8 ⟨sm, sub, hK⟩ hQ8 F8 N8 nd8
    clear hQ9 F7 N7
    obtain ⟨news9, hn9⟩ : ∃ l, l = x'.led w ((I, o8) :: (Dt, tupO #[.ref x.fj, .ref x.mj] 0) :: R') := ⟨_, rfl⟩
    have N10 : News g L h8 news9 := by rw [hn9]; exact N8
    have i1 : (x'.mj, instObj 241 x'.dmj) ∈ news9 := by rw [hn9]; exact List.mem_append_right _ (List.mem_append_right _ (.head _))
    have i3 : (x'.dmj, mj5 w x'.q1 x'.q2 x'.q3 x'.q4 x'.q5 x'.z2 x'.z3 x'.lm (.int x'.tm x'.ti) x'.v2) ∈ news9 := by rw [hn9]; exact List.mem_append_right _ (List.mem_append_right _ (.tail _ (.head _)))
    clear N8
    refine S_cons (S_Expr (S_method ?_))
    walk_at "my steps"
    refine S_callWith (K := hd.heap_1 w.params) ?kp (wpS_of ?_)
    case kp => k_is
    walk_at "my steps"
    rename Fr g _ _ _ => F11
    rename News g _ _ _ => N11
    rw [hn9] at N11
    refine ledToM (n := n + 7) (R₀ := R') (rs := rs) (p := p) (S'.less (by walk_at "my less")) F11 N11 nd8 hK.2.2 hrs fun h13 tk13 a ok13 F13 N13 nd13 => ?_
    exact S_nil (hQ8 _ _ { x' with lm := a, vM := (x'.vM.toList.drop p).toArray, nM := 0 } (R') ⟨⟨sm.fj, sm.mm, sm.mt, sm.mj, sm.lr, sm.nw, sm.vR, sm.nR, sm.nn, sm.tn, sm.tj, sm.v3⟩, sub, ⟨hK.1.ot, hK.1.od, hK.1.md, hK.1.y, hK.1.tm, hK.1.v2⟩, ⟨hK.2.1.due, hK.2.1.cur, hK.2.1.rows⟩, ok13⟩ F13 N13 nd13)
  · rintro h8 tk8 x' R' o1 ⟨sm, sub, hK⟩ F8 N8 nd8
    exact S_nil (hQ9 _ _ (h _ _ x' R' o1 sm sub hK.1 hK.2.1 hK.2.2 F8 N8 nd8))
theorem termLoop {w : World} {A : Around} {s : Shared} {g : Heap} {L fa : Addr} {cd : Value} {n : Nat} {x : St} {R : List (Addr × Obj)} {rs : List Rw} {sa nu : Addr} {x1 x2 x3 x4 x5 x6 x7 x8 : Option Value} {Q : Flow → Shared → Prop} 
    (S' : Site w (A.deeper (lawEnv L fa cd)) g L (n + 8)) (F : Fr g L s.heap (x.loc sa nu x1 x2 x3 x4 x5 x6 x7 x8)) (N : News g L s.heap (x.led w R)) (nd : Nd (x.led w R)) (okF : x.OkF rs R) (okM : RowsAt R x.vM.toList rs) (hok : ∀ r ∈ rs, OkR r) (okT : x.OkT w) (hvv : x.v3 = .none ∨ ∃ q t, x.v3 = .str q t)
    (h : ∀ h' tk (x' : St) R' o1, x.Same x' → (∀ p ∈ R, p ∈ R') → x'.OkF rs R' → RowsAt R' x'.vM.toList rs → x'.OkT w → x'.y = some (x.tn, x.tj, x.v3) → x'.tm = x.tn → x'.v2 = x.v3 → Fr g L h' (x'.loc sa nu o1 x2 x3 x4 x5 x6 x7 x8) → News g L h' (x'.led w R') → Nd (x'.led w R') → Q .next { s with heap := h', toks := tk }) :
    wpS (model PySem.Challenge.rw_jr0034_01.row.prog w) (A.deeper (lawEnv L fa cd)) (execs (lastOf lawEl3) (lawEnv L fa cd)) Q s := by
  change Site w (A.deeper (envOf (PySem.Str.ofString "law") { kind := _, names := _, isGenerator := _, isCoroutine := _, more := _ } L _ _)) g L (n + 8) at S'
  (try dsimp only at S')
  change wpS _ (A.deeper (envOf (PySem.Str.ofString "law") { kind := _, names := _, isGenerator := _, isCoroutine := _, more := _ } L _ _)) (execs (_ :: []) (envOf (PySem.Str.ofString "law") { kind := _, names := _, isGenerator := _, isCoroutine := _, more := _ } L _ _)) _ _
  (try dsimp only)
  refine Site.use S' fun A₀ base outer env mean mg mb B hA hf hke X T room units calm => ?_
  refine wpS_abs fun Q9 hQ9 => ?_
  refine S_cons (S_For (wpS_of ?_))
  walk_at "my steps"
  rename Fr g _ _ _ => F6
  rename News g _ _ _ => N6
  rename_i Dt _ l6
  refine iterTup F6 N6 (.head _) fun I o h7 ho F7 N7 l7 => ?_
  have nd7 : Nd ((I, o) :: (Dt, tupO #[.ref x.fj, .ref x.mj] 0) :: x.led w R) := Nd.join (Off.of_lt l7) (Nd.join (Off.of_lt l6) nd)
  clear F6 N6 l7 l6
  (try dsimp only)
  refine twoLoop (fun x' R' => x.Same x' ∧ (∀ p ∈ R, p ∈ R') ∧ x'.OkF rs R' ∧ RowsAt R' x'.vM.toList rs ∧ x'.OkT w ∧ x'.y = some (x.tn, x.tj, x.v3)) (fun x' R' => x.Same x' ∧ (∀ p ∈ R, p ∈ R') ∧ x'.OkF rs R' ∧ RowsAt R' x'.vM.toList rs ∧ x'.OkT w ∧ x'.y = some (x.tn, x.tj, x.v3) ∧ x'.tm = x.tn ∧ x'.v2 = x.v3) rfl rfl rfl calm F7 N7 ho nd7 (fun _ _ hP => hP.1.mj) ?_ ?_ ?_
  · intro o8 h8 tk8 Q8 hQ8 F8 N8 nd8
    clear hQ9 F7 N7
    obtain ⟨news9, hn9⟩ : ∃ l, l = x.led w ((I, o8) :: (Dt, tupO #[.ref x.fj, .ref x.mj] 0) :: R) := ⟨_, rfl⟩
    have N10 : News g L h8 news9 := by rw [hn9]; exact N8
    have i1 : (x.fj, instObj 464 x.dfj) ∈ news9 := by rw [hn9]; exact .head _
    have i3 : (x.dfj, fj6 w x.k1 x.k2 x.k3 x.k4 x.k5 x.k6 x.rf x.lj x.ms x.md x.cur x.tc) ∈ news9 := by rw [hn9]; exact .tail _ (.head _)
    have i2 : (x.nw, tupO #[.int x.tn x.tj, x.v3] x.nn) ∈ news9 := by rw [hn9]; exact List.mem_append_right _ (List.mem_append_right _ (List.mem_append_right _ (.tail _ (.head _))))
    clear N8
    refine S_cons (S_Expr (S_method ?_))
    walk_at "my steps"
    refine S_callWith (K := hd.heap_1 w.params) ?kp (wpS_of ?_)
    case kp => k_is
    walk_at "my steps"
    rename Fr g _ _ _ => F11
    rename News g _ _ _ => N11
    rw [hn9] at N11
    refine ledTermF (n := n + 5) (S'.less (by walk_at "my less")) F11 N11 nd8 okT hvv fun h13 tk13 ot' od' ok13 F13 N13 nd13 => ?_
    exact S_nil (hQ8 _ _ { x with ot := ot', od := od', y := some (x.tn, x.tj, x.v3) } (R) ⟨⟨rfl, rfl, rfl, rfl, rfl, rfl, rfl, rfl, rfl, rfl, rfl, rfl⟩, fun p hp => hp, ⟨okF.due, okF.cur, okF.rows⟩, okM, ok13, rfl⟩ F13 N13 nd13)
  · rintro o8 h8 tk8 x' R' Q8 ⟨sm, sub, hK⟩ hQ8 F8 N8 nd8
    clear hQ9 F7 N7
    obtain ⟨news9, hn9⟩ : ∃ l, l = x'.led w ((I, o8) :: (Dt, tupO #[.ref x.fj, .ref x.mj] 0) :: R') := ⟨_, rfl⟩
    have N10 : News g L h8 news9 := by rw [hn9]; exact N8
    have i1 : (x'.mj, instObj 241 x'.dmj) ∈ news9 := by rw [hn9]; exact List.mem_append_right _ (List.mem_append_right _ (.head _))
    have i3 : (x'.dmj, mj5 w x'.q1 x'.q2 x'.q3 x'.q4 x'.q5 x'.z2 x'.z3 x'.lm (.int x'.tm x'.ti) x'.v2) ∈ news9 := by rw [hn9]; exact List.mem_append_right _ (List.mem_append_right _ (.tail _ (.head _)))
    have i2 : (x'.nw, tupO #[.int x'.tn x'.tj, x'.v3] x'.nn) ∈ news9 := by rw [hn9]; exact List.mem_append_right _ (List.mem_append_right _ (List.mem_append_right _ (.tail _ (.head _))))
    clear N8
    refine S_cons (S_Expr (S_method ?_))
    walk_at "my steps"
    refine S_callWith (K := hd.heap_1 w.params) ?kp (wpS_of ?_)
    case kp => k_is
    walk_at "my steps"
    rename Fr g _ _ _ => F11
    rename News g _ _ _ => N11
    rw [hn9] at N11
    refine ledTermM (n := n + 7) (S'.less (by walk_at "my less")) F11 N11 nd8 fun h13 tk13 F13 N13 nd13 => ?_
    exact S_nil (hQ8 _ _ { x' with tm := x'.tn, ti := x'.tj, v2 := x'.v3 } (R') ⟨⟨sm.fj, sm.mm, sm.mt, sm.mj, sm.lr, sm.nw, sm.vR, sm.nR, sm.nn, sm.tn, sm.tj, sm.v3⟩, sub, ⟨hK.1.due, hK.1.cur, hK.1.rows⟩, hK.2.1, ⟨hK.2.2.1.ot, hK.2.2.1.od, hK.2.2.1.st, hK.2.2.1.sd⟩, hK.2.2.2, sm.tn, sm.v3⟩ F13 N13 nd13)
  · rintro h8 tk8 x' R' o1 ⟨sm, sub, hK⟩ F8 N8 nd8
    exact S_nil (hQ9 _ _ (h _ _ x' R' o1 sm sub hK.1 hK.2.1 hK.2.2.1 hK.2.2.2.1 hK.2.2.2.2.1 hK.2.2.2.2.2 F8 N8 nd8))
local macro_rules | `(tactic| walk_at "my loc") => `(tactic| (intro z; first | with_reducible exact loc_one z | with_reducible exact loc_place z | with_reducible exact loc_entry z | with_reducible exact loc_many z | with_reducible exact loc_more z | with_reducible exact loc_sort z | with_reducible exact loc_number z | with_reducible exact loc_now z | with_reducible exact loc_rows z | ((with_reducible refine iteIn (loc_one z) ?_); first | with_reducible exact loc_one z | with_reducible exact loc_place z | with_reducible exact loc_entry z | with_reducible exact loc_many z | with_reducible exact loc_more z | with_reducible exact loc_sort z | with_reducible exact loc_number z | with_reducible exact loc_now z | with_reducible exact loc_rows z) | ((with_reducible refine iteIn (loc_place z) ?_); first | with_reducible exact loc_one z | with_reducible exact loc_place z | with_reducible exact loc_entry z | with_reducible exact loc_many z | with_reducible exact loc_more z | with_reducible exact loc_sort z | with_reducible exact loc_number z | with_reducible exact loc_now z | with_reducible exact loc_rows z) | ((with_reducible refine iteIn (loc_entry z) ?_); first | with_reducible exact loc_one z | with_reducible exact loc_place z | with_reducible exact loc_entry z | with_reducible exact loc_many z | with_reducible exact loc_more z | with_reducible exact loc_sort z | with_reducible exact loc_number z | with_reducible exact loc_now z | with_reducible exact loc_rows z) | ((with_reducible refine iteIn (loc_many z) ?_); first | with_reducible exact loc_one z | with_reducible exact loc_place z | with_reducible exact loc_entry z | with_reducible exact loc_many z | with_reducible exact loc_more z | with_reducible exact loc_sort z | with_reducible exact loc_number z | with_reducible exact loc_now z | with_reducible exact loc_rows z) | ((with_reducible refine iteIn (loc_more z) ?_); first | with_reducible exact loc_one z | with_reducible exact loc_place z | with_reducible exact loc_entry z | with_reducible exact loc_many z | with_reducible exact loc_more z | with_reducible exact loc_sort z | with_reducible exact loc_number z | with_reducible exact loc_now z | with_reducible exact loc_rows z) | ((with_reducible refine iteIn (loc_sort z) ?_); first | with_reducible exact loc_one z | with_reducible exact loc_place z | with_reducible exact loc_entry z | with_reducible exact loc_many z | with_reducible exact loc_more z | with_reducible exact loc_sort z | with_reducible exact loc_number z | with_reducible exact loc_now z | with_reducible exact loc_rows z) | ((with_reducible refine iteIn (loc_number z) ?_); first | with_reducible exact loc_one z | with_reducible exact loc_place z | with_reducible exact loc_entry z | with_reducible exact loc_many z | with_reducible exact loc_more z | with_reducible exact loc_sort z | with_reducible exact loc_number z | with_reducible exact loc_now z | with_reducible exact loc_rows z) | ((with_reducible refine iteIn (loc_now z) ?_); first | with_reducible exact loc_one z | with_reducible exact loc_place z | with_reducible exact loc_entry z | with_reducible exact loc_many z | with_reducible exact loc_more z | with_reducible exact loc_sort z | with_reducible exact loc_number z | with_reducible exact loc_now z | with_reducible exact loc_rows z) | ((with_reducible refine iteIn (loc_rows z) ?_); first | with_reducible exact loc_one z | with_reducible exact loc_place z | with_reducible exact loc_entry z | with_reducible exact loc_many z | with_reducible exact loc_more z | with_reducible exact loc_sort z | with_reducible exact loc_number z | with_reducible exact loc_now z | with_reducible exact loc_rows z)))
/- part C25 -/
structure St.Ok (w : World) (x : St) (rs : List Rw) (R : List (Addr × Obj)) : Prop where
  f : x.OkF rs R
  m : RowsAt R x.vM.toList rs
  r : RowsAt R x.vR.toList rs
  t : x.OkT w
  y : (x.y = none ∧ x.tn = 0 ∧ x.v3 = .none) ∨ ∃ ty, x.y = some (x.tn, ty, x.v3)
  tm : x.tm = x.tn
  v : x.v2 = x.v3
  s : x.v3 = .none ∨ ∃ q t, x.v3 = .str q t
  ok : ∀ r ∈ rs, OkR r
def BrPost (w : World) (g : Heap) (L sa nu : Addr) (x5 x6 x7 x8 : Option Value) (s : Shared) (R : List (Addr × Obj)) (k : Nat) (Q : Flow → Shared → Prop) : Prop :=
  ∀ h' tk (x' : St) R' rs' o1 o2 o3 o4, x'.Ok w rs' R' → rs'.length ≤ k + 1 → (∀ p ∈ R, p ∈ R') → Fr g L h' (x'.loc sa nu o1 o2 o3 o4 x5 x6 x7 x8) → News g L h' (x'.led w R') → Nd (x'.led w R') → Q .next { s with heap := h', toks := tk }
theorem News.drop2 {h₀ h : Heap} {L : Addr} {a b : Addr × Obj} {c : List (Addr × Obj)} (N : News h₀ L h (a :: b :: c)) : News h₀ L h (a :: c) := fun p hp => N p (by
  rcases List.mem_cons.mp hp with e | e
  · exact e ▸ .head _
  · exact .tail _ (.tail _ e))
theorem tup_nat {c : List UInt8} {a b : Int} {t1 t2 t3 : Tok} (ha : 0 ≤ a) (hb : 0 ≤ b) : ({ cls := .type "tuple", data := .seq #[.bytes c.toArray t1, .int a t2, .int b t3] } : Obj) = tupR ⟨c, a.toNat, b.toNat⟩ t1 t2 t3 := by
  unfold tupR
  dsimp only
  rw [Int.toNat_of_nonneg ha, Int.toNat_of_nonneg hb]
theorem St.Ok.same {w : World} {x x' : St} {rs rs' : List Rw} {R R' : List (Addr × Obj)} (ok : x.Ok w rs R) (hmt : x'.mt = x.mt) (htn : x'.tn = x.tn) (hv3 : x'.v3 = x.v3) (st : x.SameT x') (f : x'.OkF rs' R') (m : RowsAt R' x'.vM.toList rs') (r : RowsAt R' x'.vR.toList rs') (o : ∀ r ∈ rs', OkR r) : x'.Ok w rs' R' :=
  ⟨f, m, r, ⟨by rw [st.ot, st.y]; exact ok.t.ot, by rw [st.od, st.y]; exact ok.t.od, by rw [hmt]; exact ok.t.st, by rw [st.md]; exact ok.t.sd⟩, by rw [st.y, htn, hv3]; exact ok.y, by rw [st.tm, htn]; exact ok.tm, by rw [st.v2, hv3]; exact ok.v, by rw [hv3]; exact ok.s, o⟩
/-- the rows' list is put in -/
theorem ledRows {w : World} {g h : Heap} {L D : Addr} {x : St} {v : Array Value} {n : Nat} {R : List (Addr × Obj)} (N : News g L h ((D, listOf v n) :: x.led w R)) : News g L h (St.led w { x with lr := D, vR := v, nR := n } R) := fun p hp => N p (by
  have hp' : p ∈ x.F6 w ++ (x.M4 w ++ (x.J3 w ++ ([(D, listOf v n)] ++ ([(x.nw, tupO #[.int x.tn x.tj, x.v3] x.nn)] ++ R)))) := hp
  show p ∈ [(D, listOf v n)] ++ (x.F6 w ++ (x.M4 w ++ (x.J3 w ++ ([(x.lr, listOf x.vR x.nR)] ++ ([(x.nw, tupO #[.int x.tn x.tj, x.v3] x.nn)] ++ R)))))
  simp only [List.mem_append] at hp' ⊢
  rcases hp' with e | e | e | e | e | e
  · exact .inr (.inl e)
  · exact .inr (.inr (.inl e))
  · exact .inr (.inr (.inr (.inl e)))
  · exact .inl e
  · exact .inr (.inr (.inr (.inr (.inr (.inl e)))))
  · exact .inr (.inr (.inr (.inr (.inr (.inr e))))))
theorem ndRows {w : World} {D : Addr} {x : St} {v : Array Value} {n : Nat} {R : List (Addr × Obj)} (nd : Nd ((D, listOf v n) :: x.led w R)) : Nd (St.led w { x with lr := D, vR := v, nR := n } R) := by
  have n1 : Nd ([(D, listOf v n)] ++ (x.F6 w ++ (x.M4 w ++ (x.J3 w ++ ([(x.lr, listOf x.vR x.nR)] ++ ([(x.nw, tupO #[.int x.tn x.tj, x.v3] x.nn)] ++ R)))))) := nd
  have n2 := Nd.back3 n1
  have n3 := (Nd.unmid (a := x.F6 w ++ (x.M4 w ++ (x.J3 w ++ [(D, listOf v n)]))) (x := x.lr) (o := listOf x.vR x.nR) (b := [(x.nw, tupO #[.int x.tn x.tj, x.v3] x.nn)] ++ R) (by simp only [List.append_assoc]; exact n2)).1
  have n4 : Nd (x.F6 w ++ (x.M4 w ++ (x.J3 w ++ ([(D, listOf v n)] ++ ([(x.nw, tupO #[.int x.tn x.tj, x.v3] x.nn)] ++ R))))) := by simpa only [List.append_assoc] using n3
  exact n4
theorem br1c {w : World} {A : Around} {s : Shared} {g : Heap} {L fa : Addr} {cd : Value} {n : Nat} {x : St} {R : List (Addr × Obj)} {rs : List Rw} {sa nu : Addr} {x1 x2 x3 x4 x5 x6 x7 x8 : Option Value} {Q : Flow → Shared → Prop} {r : Rw} {en : Addr} {ta tb td : Tok} (S' : Site w (A.deeper (lawEnv L fa cd)) g L (n + 8)) (F : Fr g L s.heap (x.loc sa nu x1 x2 (some (.ref en)) x4 x5 x6 x7 x8)) (N : News g L s.heap (x.led w R)) (nd : Nd (x.led w R)) (ok : x.Ok w rs R) (hrs : rs.length ≤ 8) (hen : (en, tupR r ta tb td) ∈ R) (hr : OkR r) (h : BrPost w g L sa nu x5 x6 x7 x8 s R rs.length Q) :
    wpS (model PySem.Challenge.rw_jr0034_01.row.prog w) (A.deeper (lawEnv L fa cd)) (execs lawIf1.tail.tail (lawEnv L fa cd)) Q s := by
  have S0 := S'
  change Site w (A.deeper (envOf (PySem.Str.ofString "law") { kind := _, names := _, isGenerator := _, isCoroutine := _, more := _ } L _ _)) g L (n + 8) at S'
  (try dsimp only at S')
  change wpS _ (A.deeper (envOf (PySem.Str.ofString "law") { kind := _, names := _, isGenerator := _, isCoroutine := _, more := _ } L _ _)) (execs (_ :: _ :: []) (envOf (PySem.Str.ofString "law") { kind := _, names := _, isGenerator := _, isCoroutine := _, more := _ } L _ _)) _ _
  (try dsimp only)
  refine Site.use S' fun A₀ base outer env mean mg mb B hA hf hke X T room units calm => ?_
  obtain ⟨news9, hn9⟩ : ∃ l, l = x.led w R := ⟨_, rfl⟩
  have N9 : News g L s.heap news9 := by rw [hn9]; exact N
  have i1 : (x.lr, listOf x.vR x.nR) ∈ news9 := by rw [hn9]; exact List.mem_append_right _ (List.mem_append_right _ (List.mem_append_right _ (.head _)))
  have hvR : x.vR.size = rs.length := by rw [← Array.length_toList]; exact ok.r.length
  clear N
  refine S_clean ?_
  walk_at "my steps"
  rename Fr g _ _ _ => F2
  rename News g _ _ _ => N2
  refine kmk_add_lit (s := ⟨_, _, _, _, _⟩) (its := x.vR) (its2 := #[.ref en]) (zs := x.vR.toList ++ [.ref en]) F2 N2 ⟨_, (N2 _ (.tail _ i1)).1, rfl, _, rfl⟩ ⟨_, (N2 _ (.head _)).1, rfl, _, rfl⟩ rfl (fun D h3 F3 N3 l3 => ?_) (by rw [sizeLine_eq, Array.length_toList]; show x.vR.size + 1 ≤ _; (first | lia | omega))
  clear F2 N2
  show wpAny _ _ _ _ _ _
  walk_at "my steps"
  rename Fr g _ _ _ => F4
  rename News g _ _ _ => N4
  have oD : Off D (x.led w R) := by
    rw [← hn9]
    exact (Off.of_lt l3).sub fun p hp => .tail _ hp
  rw [hn9] at N4
  have N5 : News g L _ ((D, listOf (x.vR.toList ++ [Value.ref en]).toArray 0) :: x.led w R) := fun p hp => N4 p (by
    rcases List.mem_cons.mp hp with e | e
    · exact e ▸ .head _
    · exact .tail _ (.tail _ e))
  have nd5 : Nd ((D, listOf (x.vR.toList ++ [Value.ref en]).toArray 0) :: x.led w R) := Nd.join oD nd
  have N6 := ledRows N5
  have nd6 := ndRows nd5
  have F6 := Fr_of (f' := St.loc { x with lr := D, vR := (x.vR.toList ++ [Value.ref en]).toArray, nR := 0 } sa nu x1 x2 (some (.ref en)) x4 x5 x6 x7 x8) (F := F4) (e := by walk_at "my loc")
  refine addLoop (x3 := none) (n := n) (x := { x with lr := D, vR := (x.vR.toList ++ [Value.ref en]).toArray, nR := 0 }) (r := r) (ta := ta) (tb := tb) (td := td) (rs := rs) S0 F6 N6 nd6 ⟨ok.f.due, ok.f.cur, ok.f.rows⟩ ok.m ok.ok hen hrs hr fun h' tk x' R' o1 sm sub st f m F7 N7 nd7 => ?_
  have ok7 : x'.Ok w (rs ++ [r]) R' := by
    refine ok.same (x' := x') sm.mt sm.tn sm.v3 ⟨st.ot, st.od, st.md, st.y, st.tm, st.v2⟩ f m ?_ ?_
    · rw [sm.vR]
      show RowsAt R' (x.vR.toList ++ [Value.ref en]).toArray.toList _
      rw [List.toList_toArray]
      exact RowsAt.snoc ⟨en, ta, tb, td, rfl, sub _ hen⟩ (ok.r.mono sub)
    · intro q hq
      rcases List.mem_append.mp hq with hq | hq
      · exact ok.ok q hq
      · rw [List.mem_singleton.mp hq]
        exact hr
  exact h h' tk x' R' (rs ++ [r]) o1 _ _ _ ok7 (by simp) sub F7 N7 nd7
theorem br1b {w : World} {A : Around} {s : Shared} {g : Heap} {L fa : Addr} {cd : Value} {n : Nat} {x : St} {R : List (Addr × Obj)} {rs : List Rw} {sa nu : Addr} {x1 x2 x3 x4 x5 x6 x7 x8 : Option Value} {Q : Flow → Shared → Prop} {more mv : Int} {tmo tv : Tok} (S' : Site w (A.deeper (lawEnv L fa cd)) g L (n + 8)) (F : Fr g L s.heap (x.loc sa nu x1 x2 x3 (some (.int mv tv)) (some (.int more tmo)) x6 x7 x8)) (N : News g L s.heap (x.led w R)) (nd : Nd (x.led w R)) (ok : x.Ok w rs R) (hrs : rs.length ≤ 8) (hmv : 0 ≤ mv ∧ mv ≤ 300) (hmo : 0 ≤ more) (h : BrPost w g L sa nu (some (.int more tmo)) x6 x7 x8 s R rs.length Q) :
    wpS (model PySem.Challenge.rw_jr0034_01.row.prog w) (A.deeper (lawEnv L fa cd)) (execs lawIf1.tail (lawEnv L fa cd)) Q s := by
  have S0 := S'
  change Site w (A.deeper (envOf (PySem.Str.ofString "law") { kind := _, names := _, isGenerator := _, isCoroutine := _, more := _ } L _ _)) g L (n + 8) at S'
  (try dsimp only at S')
  change wpS _ (A.deeper (envOf (PySem.Str.ofString "law") { kind := _, names := _, isGenerator := _, isCoroutine := _, more := _ } L _ _)) (execs (_ :: _ :: _ :: []) (envOf (PySem.Str.ofString "law") { kind := _, names := _, isGenerator := _, isCoroutine := _, more := _ } L _ _)) _ _
  (try dsimp only)
  refine Site.use S' fun A₀ base outer env mean mg mb B hA hf hke X T room units calm => ?_
  obtain ⟨news9, hn9⟩ : ∃ l, l = x.led w R := ⟨_, rfl⟩
  have N9 : News g L s.heap news9 := by rw [hn9]; exact N
  have i1 : (x.lr, listOf x.vR x.nR) ∈ news9 := by rw [hn9]; exact List.mem_append_right _ (List.mem_append_right _ (List.mem_append_right _ (.head _)))
  have hvR : x.vR.size = rs.length := by rw [← Array.length_toList]; exact ok.r.length
  clear N
  have hb1 : 0 ≤ 48 + more.fmod 10 ∧ 48 + more.fmod 10 < 256 := by
    rw [Int.fmod_eq_emod_of_nonneg _ (by decide)]
    (first | lia | omega)
  have hb2 : 0 ≤ 65 + more.fmod 26 ∧ 65 + more.fmod 26 < 256 := by
    rw [Int.fmod_eq_emod_of_nonneg _ (by decide)]
    (first | lia | omega)
  refine S_clean ?_
  walk_at "my steps"
  rename Fr g _ _ _ => F2
  rename News g _ _ _ => N2
  refine' bytes_lits (s := ⟨_, _, _, _, _⟩) calm F2 N2 (.head _) ?i4 ?i5 ?i6 fun h3 t3 k3 F3 N3 => ?_
  case i4 => repeat' constructor
  case i6 => exact (by decide : 2 ≤ 1000)
  case i5 =>
    intro z hz
    simp only [List.mem_cons, List.not_mem_nil, or_false] at hz
    rcases hz with rfl | rfl
    · exact hb1
    · exact hb2
  clear F2 N2
  have hbl : (List.map (fun n : Int => n.toNat.toUInt8) [48 + more.fmod 10, 65 + more.fmod 26]).length = 2 := rfl
  have hbn : List.map (fun n : Int => n.toNat.toUInt8) [48 + more.fmod 10, 65 + more.fmod 26] ≠ [] := by simp
  generalize List.map (fun n : Int => n.toNat.toUInt8) [48 + more.fmod 10, 65 + more.fmod 26] = bs at hbl hbn ⊢
  show wpAny _ _ _ _ _ _
  walk_at "my steps"
  refine mul_l hbn (by decide) (by decide) (by (first | lia | omega)) fun t4 k4 => ?_
  have hcl : (List.replicate (150 : Int).toNat bs).flatten.length = 300 := by
    rw [List.length_flatten]
    simp [hbl]
  generalize (List.replicate (150 : Int).toNat bs).flatten = cs at hcl ⊢
  show wpAny _ _ _ _ _ _
  walk_at "my steps"
  rename Fr g _ _ _ => F4
  rename News g _ _ _ => N4
  rename_i D4 _ l4 _
  have h60 : ((2 : Int) ^ Int.toNat 60) = 1152921504606846976 := by decide +kernel
  have ha : 0 ≤ more.fmod (2 ^ Int.toNat 60) ∧ more.fmod (2 ^ Int.toNat 60) < 1152921504606846976 := by
    rw [h60, Int.fmod_eq_emod_of_nonneg _ (by decide)]
    (first | lia | omega)
  have hb : 0 ≤ (more * 7).fmod (2 ^ Int.toNat 60) ∧ (more * 7).fmod (2 ^ Int.toNat 60) < 1152921504606846976 := by
    rw [h60, Int.fmod_eq_emod_of_nonneg _ (by decide)]
    (first | lia | omega)
  rw [tup_nat ha.1 hb.1, hn9] at N4
  have oD := off_of_allLt l4.2
  rw [hn9] at oD
  have hcut : (cutL cs none (some mv)).length ≤ 300 := by
    rw [cut_to _ hmv.1, List.length_take]
    (first | lia | omega)
  have N5 := News.drop2 N4
  refine br1c (x3 := none) (R := [(D4, tupR ⟨cutL cs none (some mv), (more.fmod (2 ^ Int.toNat 60)).toNat, ((more * 7).fmod (2 ^ Int.toNat 60)).toNat⟩ _ _ _)] ++ R) (rs := rs) S0 (Fr_of (f' := x.loc sa nu x1 x2 (some (.ref D4)) (some (.int mv tv)) (some (.int more tmo)) x6 x7 x8) (F := F4) (e := by walk_at "my loc")) (News.back4 (a := x.F6 w) (b := x.M4 w) (c := x.J3 w) (d := x.R2) (e := [_]) (f := R) N5) (Nd.back4 (a := x.F6 w) (b := x.M4 w) (c := x.J3 w) (d := x.R2) (e := [_]) (f := R) (Nd.join oD nd)) ?ok hrs (.head _) ?okr ?post
  case ok => exact ⟨⟨ok.f.due, ok.f.cur, ok.f.rows.mono fun p hp => .tail _ hp⟩, ok.m.mono fun p hp => .tail _ hp, ok.r.mono fun p hp => .tail _ hp, ok.t, ok.y, ok.tm, ok.v, ok.s, ok.ok⟩
  case okr => exact ⟨Nat.le_trans hcut (by decide), by show (more.fmod (2 ^ Int.toNat 60)).toNat < _; (first | lia | omega), by show ((more * 7).fmod (2 ^ Int.toNat 60)).toNat < _; (first | lia | omega)⟩
  case post => exact fun h' tk x' R' rs' o1 o2 o3 o4 a1 a2 a3 a4 a5 a6 => h h' tk x' R' rs' o1 o2 o3 o4 a1 a2 (fun p hp => a3 p (.tail _ hp)) a4 a5 a6
/- part C26 -/
theorem br1 {w : World} {A : Around} {s : Shared} {g : Heap} {L fa : Addr} {cd : Value} {n : Nat} {x : St} {R : List (Addr × Obj)} {rs : List Rw} {sa nu : Addr} {x1 x2 x3 x4 x5 x6 x7 x8 : Option Value} {Q : Flow → Shared → Prop} {more : Int} {tmo : Tok} (S' : Site w (A.deeper (lawEnv L fa cd)) g L (n + 8)) (F : Fr g L s.heap (x.loc sa nu x1 x2 x3 x4 (some (.int more tmo)) x6 x7 x8)) (N : News g L s.heap (x.led w R)) (nd : Nd (x.led w R)) (ok : x.Ok w rs R) (hrs : rs.length ≤ 8) (hmo : 0 ≤ more) (h : BrPost w g L sa nu (some (.int more tmo)) x6 x7 x8 s R rs.length Q) :
    wpS (model PySem.Challenge.rw_jr0034_01.row.prog w) (A.deeper (lawEnv L fa cd)) (execs lawIf1 (lawEnv L fa cd)) Q s := by
  have S0 := S'
  change Site w (A.deeper (envOf (PySem.Str.ofString "law") { kind := _, names := _, isGenerator := _, isCoroutine := _, more := _ } L _ _)) g L (n + 8) at S'
  (try dsimp only at S')
  change wpS _ (A.deeper (envOf (PySem.Str.ofString "law") { kind := _, names := _, isGenerator := _, isCoroutine := _, more := _ } L _ _)) (execs (_ :: _ :: _ :: _ :: []) (envOf (PySem.Str.ofString "law") { kind := _, names := _, isGenerator := _, isCoroutine := _, more := _ } L _ _)) _ _
  (try dsimp only)
  refine Site.use S' fun A₀ base outer env mean mg mb B hA hf hke X T room units calm => ?_
  obtain ⟨news9, hn9⟩ : ∃ l, l = x.led w R := ⟨_, rfl⟩
  have N9 : News g L s.heap news9 := by rw [hn9]; exact N
  have i1 : (x.lr, listOf x.vR x.nR) ∈ news9 := by rw [hn9]; exact List.mem_append_right _ (List.mem_append_right _ (List.mem_append_right _ (.head _)))
  have hvR : x.vR.size = rs.length := by rw [← Array.length_toList]; exact ok.r.length
  clear N
  have hm1 : 0 ≤ 240 + more.fmod 61 ∧ 240 + more.fmod 61 ≤ 300 := by
    rw [Int.fmod_eq_emod_of_nonneg _ (by decide)]
    (first | lia | omega)
  have hm2 : 0 ≤ more.fmod 21 ∧ more.fmod 21 ≤ 300 := by
    rw [Int.fmod_eq_emod_of_nonneg _ (by decide)]
    (first | lia | omega)
  refine S_clean ?_
  walk_at "my steps"
  · rename Fr g _ _ _ => F2
    rename News g _ _ _ => N2
    rw [hn9] at N2
    exact br1b (x4 := none) (x5 := none) S0 (Fr_of (f' := x.loc sa nu x1 x2 x3 (some (.int (240 + more.fmod 61) _)) (some (.int more tmo)) x6 x7 x8) (F := F2) (e := by walk_at "my loc")) N2 nd ok hrs hm1 hmo h
  · rename Fr g _ _ _ => F2
    rename News g _ _ _ => N2
    rw [hn9] at N2
    exact br1b (x4 := none) (x5 := none) S0 (Fr_of (f' := x.loc sa nu x1 x2 x3 (some (.int (more.fmod 21) _)) (some (.int more tmo)) x6 x7 x8) (F := F2) (e := by walk_at "my loc")) N2 nd ok hrs hm2 hmo h
theorem br2 {w : World} {A : Around} {s : Shared} {g : Heap} {L fa : Addr} {cd : Value} {n : Nat} {x : St} {R : List (Addr × Obj)} {rs : List Rw} {sa nu : Addr} {x1 x2 x3 x4 x5 x6 x7 x8 : Option Value} {Q : Flow → Shared → Prop} {more : Int} {tmo : Tok} (S' : Site w (A.deeper (lawEnv L fa cd)) g L (n + 8)) (F : Fr g L s.heap (x.loc sa nu x1 x2 x3 x4 (some (.int more tmo)) x6 x7 x8)) (N : News g L s.heap (x.led w R)) (nd : Nd (x.led w R)) (ok : x.Ok w rs R) (hrs : rs.length ≤ 8) (hmo : 0 ≤ more) (h : BrPost w g L sa nu (some (.int more tmo)) x6 x7 x8 s R rs.length Q) :
    wpS (model PySem.Challenge.rw_jr0034_01.row.prog w) (A.deeper (lawEnv L fa cd)) (execs lawIf2 (lawEnv L fa cd)) Q s := by
  have S0 := S'
  change Site w (A.deeper (envOf (PySem.Str.ofString "law") { kind := _, names := _, isGenerator := _, isCoroutine := _, more := _ } L _ _)) g L (n + 8) at S'
  (try dsimp only at S')
  change wpS _ (A.deeper (envOf (PySem.Str.ofString "law") { kind := _, names := _, isGenerator := _, isCoroutine := _, more := _ } L _ _)) (execs (_ :: _ :: _ :: []) (envOf (PySem.Str.ofString "law") { kind := _, names := _, isGenerator := _, isCoroutine := _, more := _ } L _ _)) _ _
  (try dsimp only)
  refine Site.use S' fun A₀ base outer env mean mg mb B hA hf hke X T room units calm => ?_
  obtain ⟨news9, hn9⟩ : ∃ l, l = x.led w R := ⟨_, rfl⟩
  have N9 : News g L s.heap news9 := by rw [hn9]; exact N
  have i1 : (x.lr, listOf x.vR x.nR) ∈ news9 := by rw [hn9]; exact List.mem_append_right _ (List.mem_append_right _ (List.mem_append_right _ (.head _)))
  have hvR : x.vR.size = rs.length := by rw [← Array.length_toList]; exact ok.r.length
  clear N
  have hfm : more.fmod (↑x.vR.size + 1) = more % (↑x.vR.size + 1) := Int.fmod_eq_emod_of_nonneg _ (by (first | lia | omega))
  have hb1 : 0 ≤ more % ((x.vR.size : Int) + 1) := Int.emod_nonneg _ (by (first | lia | omega))
  have hb2 : more % ((x.vR.size : Int) + 1) < (x.vR.size : Int) + 1 := Int.emod_lt_of_pos _ (by (first | lia | omega))
  have hk0 : 0 ≤ more.fmod (↑x.vR.size + 1) := by rw [hfm]; (first | lia | omega)
  obtain ⟨p, hp⟩ : ∃ p : Nat, more.fmod (↑x.vR.size + 1) = (p : Int) := ⟨_, (Int.toNat_of_nonneg hk0).symm⟩
  have hpl : p ≤ rs.length + 1 := by (first | lia | omega)
  refine S_clean ?_
  walk_at "my steps"
  refine S_clean ?_
  walk_at "my steps"
  rename Fr g _ _ _ => F4
  rename News g _ _ _ => N4
  rename_i D _ l4 _
  rw [hn9] at N4
  have oD : Off D (x.led w R) := by
    rw [← hn9]
    exact Off.of_lt l4
  rw [hp] at F4 N4
  simp only [Int.toNat_natCast] at N4
  refine delFromLoop (x2 := none) (n := n) (x := { x with lr := D, vR := (x.vR.toList.take p).toArray, nR := 0 }) (rs := rs) (p := p) S0 (Fr_of (f' := St.loc { x with lr := D, vR := (x.vR.toList.take p).toArray, nR := 0 } sa nu x1 (some (.int p _)) x3 x4 (some (.int more tmo)) x6 x7 x8) (F := F4) (e := by walk_at "my loc")) (ledRows N4) (ndRows (Nd.join oD nd)) ⟨ok.f.due, ok.f.cur, ok.f.rows⟩ ok.m ok.ok (by (first | lia | omega)) (by (first | lia | omega)) fun h' tk x' R' o1 sm sub st f m F7 N7 nd7 => ?_
  have ok7 : x'.Ok w (rs.take p) R' := by
    refine ok.same (x' := x') sm.mt sm.tn sm.v3 ⟨st.ot, st.od, st.md, st.y, st.tm, st.v2⟩ f m ?_ ?_
    · rw [sm.vR]
      show RowsAt R' (x.vR.toList.take p).toArray.toList _
      rw [List.toList_toArray]
      exact (ok.r.take p).mono sub
    · exact fun q hq => ok.ok q (List.mem_of_mem_take hq)
  exact h h' tk x' R' _ o1 _ _ _ ok7 (by simp only [List.length_take]; (first | lia | omega)) sub F7 N7 nd7
theorem br3 {w : World} {A : Around} {s : Shared} {g : Heap} {L fa : Addr} {cd : Value} {n : Nat} {x : St} {R : List (Addr × Obj)} {rs : List Rw} {sa nu : Addr} {x1 x2 x3 x4 x5 x6 x7 x8 : Option Value} {Q : Flow → Shared → Prop} {more : Int} {tmo : Tok} (S' : Site w (A.deeper (lawEnv L fa cd)) g L (n + 8)) (F : Fr g L s.heap (x.loc sa nu x1 x2 x3 x4 (some (.int more tmo)) x6 x7 x8)) (N : News g L s.heap (x.led w R)) (nd : Nd (x.led w R)) (ok : x.Ok w rs R) (hrs : rs.length ≤ 8) (hmo : 0 ≤ more) (h : BrPost w g L sa nu (some (.int more tmo)) x6 x7 x8 s R rs.length Q) :
    wpS (model PySem.Challenge.rw_jr0034_01.row.prog w) (A.deeper (lawEnv L fa cd)) (execs lawIf3 (lawEnv L fa cd)) Q s := by
  have S0 := S'
  change Site w (A.deeper (envOf (PySem.Str.ofString "law") { kind := _, names := _, isGenerator := _, isCoroutine := _, more := _ } L _ _)) g L (n + 8) at S'
  (try dsimp only at S')
  change wpS _ (A.deeper (envOf (PySem.Str.ofString "law") { kind := _, names := _, isGenerator := _, isCoroutine := _, more := _ } L _ _)) (execs (_ :: _ :: _ :: []) (envOf (PySem.Str.ofString "law") { kind := _, names := _, isGenerator := _, isCoroutine := _, more := _ } L _ _)) _ _
  (try dsimp only)
  refine Site.use S' fun A₀ base outer env mean mg mb B hA hf hke X T room units calm => ?_
  obtain ⟨news9, hn9⟩ : ∃ l, l = x.led w R := ⟨_, rfl⟩
  have N9 : News g L s.heap news9 := by rw [hn9]; exact N
  have i1 : (x.lr, listOf x.vR x.nR) ∈ news9 := by rw [hn9]; exact List.mem_append_right _ (List.mem_append_right _ (List.mem_append_right _ (.head _)))
  have hvR : x.vR.size = rs.length := by rw [← Array.length_toList]; exact ok.r.length
  clear N
  have hfm : more.fmod (↑x.vR.size + 1) = more % (↑x.vR.size + 1) := Int.fmod_eq_emod_of_nonneg _ (by (first | lia | omega))
  have hb1 : 0 ≤ more % ((x.vR.size : Int) + 1) := Int.emod_nonneg _ (by (first | lia | omega))
  have hb2 : more % ((x.vR.size : Int) + 1) < (x.vR.size : Int) + 1 := Int.emod_lt_of_pos _ (by (first | lia | omega))
  have hk0 : 0 ≤ 1 + more.fmod (↑x.vR.size + 1) := by rw [hfm]; (first | lia | omega)
  obtain ⟨p, hp⟩ : ∃ p : Nat, 1 + more.fmod (↑x.vR.size + 1) = (p : Int) := ⟨_, (Int.toNat_of_nonneg hk0).symm⟩
  have hpl : p ≤ rs.length + 1 := by (first | lia | omega)
  refine S_clean ?_
  walk_at "my steps"
  refine S_clean ?_
  walk_at "my steps"
  rename Fr g _ _ _ => F4
  rename News g _ _ _ => N4
  rename_i D _ l4 _
  rw [hn9] at N4
  have oD : Off D (x.led w R) := by
    rw [← hn9]
    exact Off.of_lt l4
  rw [hp] at F4 N4
  simp only [Int.toNat_natCast] at N4
  refine delToLoop (x2 := none) (n := n) (x := { x with lr := D, vR := (x.vR.toList.drop p).toArray, nR := 0 }) (rs := rs) (p := p) S0 (Fr_of (f' := St.loc { x with lr := D, vR := (x.vR.toList.drop p).toArray, nR := 0 } sa nu x1 (some (.int p _)) x3 x4 (some (.int more tmo)) x6 x7 x8) (F := F4) (e := by walk_at "my loc")) (ledRows N4) (ndRows (Nd.join oD nd)) ⟨ok.f.due, ok.f.cur, ok.f.rows⟩ ok.m ok.ok (by (first | lia | omega)) fun h' tk x' R' o1 sm sub st f m F7 N7 nd7 => ?_
  have ok7 : x'.Ok w (rs.drop p) R' := by
    refine ok.same (x' := x') sm.mt sm.tn sm.v3 ⟨st.ot, st.od, st.md, st.y, st.tm, st.v2⟩ f m ?_ ?_
    · rw [sm.vR]
      show RowsAt R' (x.vR.toList.drop p).toArray.toList _
      rw [List.toList_toArray]
      exact (ok.r.drop p).mono sub
    · exact fun q hq => ok.ok q (List.mem_of_mem_drop hq)
  exact h h' tk x' R' _ o1 _ _ _ ok7 (by simp only [List.length_drop]; (first | lia | omega)) sub F7 N7 nd7
theorem ledNow {w : World} {g h : Heap} {L D : Addr} {x : St} {k : Int} {tk : Tok} {v : Value} {R : List (Addr × Obj)} (N : News g L h ((D, tupO #[.int k tk, v] 0) :: x.led w R)) : News g L h (St.led w { x with nw := D, tn := k, tj := tk, v3 := v, nn := 0 } R) := fun p hp => N p (by
  have hp' : p ∈ x.F6 w ++ (x.M4 w ++ (x.J3 w ++ ([(x.lr, listOf x.vR x.nR)] ++ ([(D, tupO #[.int k tk, v] 0)] ++ R)))) := hp
  show p ∈ [(D, tupO #[.int k tk, v] 0)] ++ (x.F6 w ++ (x.M4 w ++ (x.J3 w ++ ([(x.lr, listOf x.vR x.nR)] ++ ([(x.nw, tupO #[.int x.tn x.tj, x.v3] x.nn)] ++ R)))))
  simp only [List.mem_append] at hp' ⊢
  rcases hp' with e | e | e | e | e | e
  · exact .inr (.inl e)
  · exact .inr (.inr (.inl e))
  · exact .inr (.inr (.inr (.inl e)))
  · exact .inr (.inr (.inr (.inr (.inl e))))
  · exact .inl e
  · exact .inr (.inr (.inr (.inr (.inr (.inr e))))))
theorem ndNow {w : World} {D : Addr} {x : St} {k : Int} {tk : Tok} {v : Value} {R : List (Addr × Obj)} (nd : Nd ((D, tupO #[.int k tk, v] 0) :: x.led w R)) : Nd (St.led w { x with nw := D, tn := k, tj := tk, v3 := v, nn := 0 } R) := by
  have n1 : Nd ([(D, tupO #[.int k tk, v] 0)] ++ (x.F6 w ++ (x.M4 w ++ (x.J3 w ++ ([(x.lr, listOf x.vR x.nR)] ++ ([(x.nw, tupO #[.int x.tn x.tj, x.v3] x.nn)] ++ R)))))) := nd
  have n2 := Nd.back4 n1
  have n3 := (Nd.unmid (a := x.F6 w ++ (x.M4 w ++ (x.J3 w ++ ([(x.lr, listOf x.vR x.nR)] ++ [(D, tupO #[.int k tk, v] 0)])))) (x := x.nw) (o := tupO #[.int x.tn x.tj, x.v3] x.nn) (b := R) (by simp only [List.append_assoc]; exact n2)).1
  have n4 : Nd (x.F6 w ++ (x.M4 w ++ (x.J3 w ++ ([(x.lr, listOf x.vR x.nR)] ++ ([(D, tupO #[.int k tk, v] 0)] ++ R))))) := by simpa only [List.append_assoc] using n3
  exact n4
theorem br4c {w : World} {A : Around} {s : Shared} {g : Heap} {L fa : Addr} {cd : Value} {n : Nat} {x : St} {R : List (Addr × Obj)} {rs : List Rw} {sa nu : Addr} {x1 x2 x3 x4 x5 x6 x7 x8 : Option Value} {Q : Flow → Shared → Prop} {k : Int} {tk : Tok} {v : Value} {D : Addr} (S' : Site w (A.deeper (lawEnv L fa cd)) g L (n + 8)) (F : Fr g L s.heap (lawLoc sa nu x.mt x.mm x.mj x.fj x.lr D x1 x2 x3 x4 x5 x6 x7 x8)) (N : News g L s.heap ((D, tupO #[.int k tk, v] 0) :: x.led w R)) (nd : Nd ((D, tupO #[.int k tk, v] 0) :: x.led w R)) (ok : x.Ok w rs R) (hv : v = .none ∨ ∃ q t, v = .str q t) (h : BrPost w g L sa nu x5 x6 x7 x8 s R rs.length Q) :
    wpS (model PySem.Challenge.rw_jr0034_01.row.prog w) (A.deeper (lawEnv L fa cd)) (execs (lastOf lawEl3) (lawEnv L fa cd)) Q s := by
  refine termLoop (n := n) (x := { x with nw := D, tn := k, tj := tk, v3 := v, nn := 0 }) (rs := rs) S' F (ledNow N) (ndNow nd) ⟨ok.f.due, ok.f.cur, ok.f.rows⟩ ok.m ok.ok ⟨ok.t.ot, ok.t.od, ok.t.st, ok.t.sd⟩ hv fun h' tk9 x' R' o1 sm sub f m t y tm v2 F7 N7 nd7 => ?_
  have e3 : x'.v3 = v := sm.v3
  have en : x'.tn = k := sm.tn
  have ok7 : x'.Ok w rs R' := by
    refine ⟨f, m, ?_, t, .inr ⟨tk, ?_⟩, ?_, ?_, ?_, ok.ok⟩
    · rw [sm.vR]
      exact ok.r.mono sub
    · rw [y, en, e3]
    · rw [tm, en]
    · rw [v2, e3]
    · rw [e3]; exact hv
  exact h h' tk9 x' R' rs o1 _ _ _ ok7 (by (first | lia | omega)) sub F7 N7 nd7
theorem br4 {w : World} {A : Around} {s : Shared} {g : Heap} {L fa : Addr} {cd : Value} {n : Nat} {x : St} {R : List (Addr × Obj)} {rs : List Rw} {sa nu : Addr} {x1 x2 x3 x4 x5 x6 x7 x8 : Option Value} {Q : Flow → Shared → Prop} {more : Int} {tmo : Tok} (S' : Site w (A.deeper (lawEnv L fa cd)) g L (n + 8)) (F : Fr g L s.heap (x.loc sa nu x1 x2 x3 x4 (some (.int more tmo)) x6 x7 x8)) (N : News g L s.heap (x.led w R)) (nd : Nd (x.led w R)) (ok : x.Ok w rs R) (hrs : rs.length ≤ 8) (hmo : 0 ≤ more) (h : BrPost w g L sa nu (some (.int more tmo)) x6 x7 x8 s R rs.length Q) :
    wpS (model PySem.Challenge.rw_jr0034_01.row.prog w) (A.deeper (lawEnv L fa cd)) (execs lawEl3 (lawEnv L fa cd)) Q s := by
  have S0 := S'
  change Site w (A.deeper (envOf (PySem.Str.ofString "law") { kind := _, names := _, isGenerator := _, isCoroutine := _, more := _ } L _ _)) g L (n + 8) at S'
  (try dsimp only at S')
  change wpS _ (A.deeper (envOf (PySem.Str.ofString "law") { kind := _, names := _, isGenerator := _, isCoroutine := _, more := _ } L _ _)) (execs (_ :: _ :: []) (envOf (PySem.Str.ofString "law") { kind := _, names := _, isGenerator := _, isCoroutine := _, more := _ } L _ _)) _ _
  (try dsimp only)
  refine Site.use S' fun A₀ base outer env mean mg mb B hA hf hke X T room units calm => ?_
  obtain ⟨news9, hn9⟩ : ∃ l, l = x.led w R := ⟨_, rfl⟩
  have N9 : News g L s.heap news9 := by rw [hn9]; exact N
  have i1 : (x.lr, listOf x.vR x.nR) ∈ news9 := by rw [hn9]; exact List.mem_append_right _ (List.mem_append_right _ (List.mem_append_right _ (.head _)))
  have hvR : x.vR.size = rs.length := by rw [← Array.length_toList]; exact ok.r.length
  clear N
  have hm3 : more.fmod 3 = more % 3 := Int.fmod_eq_emod_of_nonneg _ (by decide)
  have hb3 : 0 ≤ more.fmod 3 ∧ more.fmod 3 < 3 := by rw [hm3]; (first | lia | omega)
  refine S_clean ?_
  walk_at "my steps"
  have hcase : more.fmod 3 = 0 ∨ more.fmod 3 = 1 ∨ more.fmod 3 = 2 := by (first | lia | omega)
  rename Fr g _ _ _ => F2
  rename News g _ _ _ => N2
  rcases hcase with e | e | e
  all_goals
    rw [e]
    refine item_v (s := ⟨_, _, _, _, _⟩) N2 (.head _) (by decide) (show 3 ≤ 100000 by decide) rfl ?_
    walk_at "my steps"
    rename Fr g _ _ _ => F4
    rename News g _ _ _ => N4
    rename_i D4 _ l4 _
    have oD := off_of_allLt l4.2
    rw [hn9] at N4 oD
    refine br4c (D := D4) S0 (Fr_of (f' := lawLoc sa nu x.mt x.mm x.mj x.fj x.lr D4 x1 x2 x3 x4 (some (.int more tmo)) x6 x7 x8) (F := F4) (e := by walk_at "my loc")) (News.drop2 N4) (Nd.join oD nd) ok (by first | exact .inl rfl | exact .inr ⟨_, _, rfl⟩) h
/- part C27 -/
theorem rightIf {w : World} {A : Around} {s : Shared} {g : Heap} {L fa : Addr} {cd : Value} {n : Nat} {x : St} {R : List (Addr × Obj)} {rs : List Rw} {sa nu : Addr} {x1 x2 x3 x4 x5 x6 x7 x8 : Option Value} {Q : Flow → Shared → Prop} {p0 p1 p2 p3 p4 p5 p6 p8 p9 : Pos} {kk : Nat} {pc pn pi : Pos} (S' : Site w (A.deeper (lawEnv L fa cd)) g L (n + 12)) (F : Fr g L s.heap (x.loc sa nu x1 x2 x3 x4 x5 x6 x7 x8)) (N : News g L s.heap (x.led w R)) (nd : Nd (x.led w R)) (ok : x.Ok w rs R) (hrs : rs.length ≤ 9)
    (h : ∀ h' tk, Fr g L h' (x.loc sa nu x1 x2 x3 x4 x5 x6 x7 x8) → News g L h' (x.led w R) → Q .next { s with heap := h', toks := tk }) :
    wpS (model PySem.Challenge.rw_jr0034_01.row.prog w) (A.deeper (lawEnv L fa cd)) (exec (.If (.UnaryOp .Not (.Call (.Name (PySem.Str.ofString "_law_right") p0) [.Name (PySem.Str.ofString "journal") p1, .Name (PySem.Str.ofString "memory") p2, .Name (PySem.Str.ofString "octets") p3, .Name (PySem.Str.ofString "meta") p4, .Name (PySem.Str.ofString "rows") p5, .Name (PySem.Str.ofString "now") p6] [] pc) pn) [.Return (some (.Constant (.bool false) kk p8)) p9] [] pi) (lawEnv L fa cd)) Q s := by
  change Site w (A.deeper (envOf (PySem.Str.ofString "law") { kind := _, names := _, isGenerator := _, isCoroutine := _, more := _ } L _ _)) g L (n + 12) at S'
  (try dsimp only at S')
  change wpS _ (A.deeper (envOf (PySem.Str.ofString "law") { kind := _, names := _, isGenerator := _, isCoroutine := _, more := _ } L _ _)) (exec _ (envOf (PySem.Str.ofString "law") { kind := _, names := _, isGenerator := _, isCoroutine := _, more := _ } L _ _)) _ _
  (try dsimp only)
  refine Site.use S' fun A₀ base outer env mean mg mb B hA hf hke X T room units calm => ?_
  obtain ⟨news9, hn9⟩ : ∃ l, l = x.led w R := ⟨_, rfl⟩
  have N9 : News g L s.heap news9 := by rw [hn9]; exact N
  clear N
  refine S_If (S_isTrue_not (S_isTrue_plain (S_Call_Name ?_)))
  walk_at "my steps"
  refine S_callWith (K := hd.heap_1 w.params) ?kp (wpS_of ?_)
  case kp => k_is
  walk_at "my steps"
  rename Fr g _ _ _ => F2
  rename News g _ _ _ => N2
  rw [hn9] at N2
  obtain ⟨nw9, hnw⟩ : ∃ l, l = (x.F6 w ++ [(x.ms, instObj 324 x.dms), (x.dms, dictOf [ent w "_MetaStorer__path" x.k0 (.ref x.mt)] 1)]) ++ ((x.md, x.od) :: (x.J3 w ++ (x.R2 ++ R))) := ⟨_, rfl⟩
  have N3 : News g L _ ((x.mt, x.ot) :: nw9) := hnw ▸ News.swap (a := x.F6 w ++ [(x.ms, instObj 324 x.dms), (x.dms, dictOf [ent w "_MetaStorer__path" x.k0 (.ref x.mt)] 1)]) (b := [(x.mt, x.ot)]) (c := (x.md, x.od) :: (x.J3 w ++ (x.R2 ++ R))) N2
  have nd3 : Nd ((x.mt, x.ot) :: nw9) := hnw ▸ Nd.swap (a := x.F6 w ++ [(x.ms, instObj 324 x.dms), (x.dms, dictOf [ent w "_MetaStorer__path" x.k0 (.ref x.mt)] 1)]) (b := [(x.mt, x.ot)]) (c := (x.md, x.od) :: (x.J3 w ++ (x.R2 ++ R))) nd
  have sub : ∀ p ∈ R, p ∈ nw9 := fun p hp => hnw ▸ List.mem_append_right _ (.tail _ (List.mem_append_right _ (List.mem_append_right _ hp)))
  have j1 : (x.fj, instObj 464 x.dfj) ∈ nw9 := by rw [hnw]; exact .head _
  have j2 : (x.dfj, fj6 w x.k1 x.k2 x.k3 x.k4 x.k5 x.k6 x.rf x.lj x.ms x.md x.cur x.tc) ∈ nw9 := by rw [hnw]; exact .tail _ (.head _)
  have j5 : (x.mm, baObj x.b) ∈ nw9 := by rw [hnw]; exact .tail _ (.tail _ (.tail _ (.tail _ (.head _))))
  have j3 : (x.lj, listOf x.vF x.nF) ∈ nw9 := by rw [hnw]; exact .tail _ (.tail _ (.tail _ (.tail _ (.tail _ (.head _)))))
  have j4 : (x.md, x.od) ∈ nw9 := by rw [hnw]; exact List.mem_append_right _ (.head _)
  have j6 : (x.mj, instObj 241 x.dmj) ∈ nw9 := by rw [hnw]; exact List.mem_append_right _ (.tail _ (.head _))
  have j7 : (x.dmj, mj5 w x.q1 x.q2 x.q3 x.q4 x.q5 x.z2 x.z3 x.lm (.int x.tn x.ti) x.v2) ∈ nw9 := by rw [hnw, ← ok.tm]; exact List.mem_append_right _ (.tail _ (.tail _ (.head _)))
  have j8 : (x.lm, listOf x.vM x.nM) ∈ nw9 := by rw [hnw]; exact List.mem_append_right _ (.tail _ (.tail _ (.tail _ (.head _))))
  have j9 : (x.lr, listOf x.vR x.nR) ∈ nw9 := by rw [hnw]; exact List.mem_append_right _ (.tail _ (List.mem_append_right _ (.head _)))
  have j10 : (x.nw, tupO #[.int x.tn x.tj, x.v3] x.nn) ∈ nw9 := by rw [hnw]; exact List.mem_append_right _ (.tail _ (List.mem_append_right _ (.tail _ (.head _))))
  have hv : (x.v3 = .none ∧ x.v2 = .none ∧ x.v3 = .none) ∨ ∃ q a b c, x.v3 = .str q a ∧ x.v2 = .str q b ∧ x.v3 = .str q c := by
    rcases ok.s with e | ⟨q, t, e⟩
    · exact .inl ⟨e, by rw [ok.v, e], e⟩
    · exact .inr ⟨q, t, t, t, e, by rw [ok.v, e], e⟩
  clear N2
  refine right_S (n := n) (v1 := x.v3) S' F2 N3 nd3 j1 j2 j3 j4 j5 j6 j7 j8 j9 j10 ok.f.due (ok.f.rows.mono sub) (ok.m.mono sub) (ok.r.mono sub) hrs ok.ok ok.t.ot ok.t.od ok.t.st ok.t.sd ok.y hv fun h4 tk4 F4 N4 => ?_
  have N5 : News g L h4 (x.led w R) := News.swap (a := [(x.mt, x.ot)]) (b := x.F6 w ++ [(x.ms, instObj 324 x.dms), (x.dms, dictOf [ent w "_MetaStorer__path" x.k0 (.ref x.mt)] 1)]) (c := (x.md, x.od) :: (x.J3 w ++ (x.R2 ++ R))) (hnw ▸ N4)
  clear N3 N4 nd3
  show wpAny _ _ _ _ _ _
  walk_at "my steps"
  rename Fr g _ _ _ => F6
  exact S_nil (h _ _ F6 N5)
theorem turn {w : World} {A : Around} {s : Shared} {g : Heap} {L fa : Addr} {cd : Value} {n : Nat} {x : St} {R : List (Addr × Obj)} {rs : List Rw} {sa nu : Addr} {x1 x2 x3 x4 x5 x6 x7 x8 : Option Value} {Q : Flow → Shared → Prop} {number : Int} {tnu : Tok} (S' : Site w (A.deeper (lawEnv L fa cd)) g L (n + 12)) (F : Fr g L s.heap (x.loc sa nu x1 x2 x3 x4 x5 x6 (some (.int number tnu)) x8)) (N : News g L s.heap (x.led w R)) (nd : Nd (x.led w R)) (ok : x.Ok w rs R) (hrs : rs.length ≤ 8) (hnu : 0 ≤ number)
    (h : ∀ h' tk (x' : St) R' rs' o1 o2 o3 o4 o5 o6, x'.Ok w rs' R' → rs'.length ≤ rs.length + 1 → (∀ p ∈ R, p ∈ R') → Fr g L h' (x'.loc sa nu o1 o2 o3 o4 o5 o6 (some (.int number tnu)) x8) → News g L h' (x'.led w R') → Nd (x'.led w R') → Q .next { s with heap := h', toks := tk }) :
    wpS (model PySem.Challenge.rw_jr0034_01.row.prog w) (A.deeper (lawEnv L fa cd)) (execs lawTurn (lawEnv L fa cd)) Q s := by
  have S0 := S'
  change Site w (A.deeper (envOf (PySem.Str.ofString "law") { kind := _, names := _, isGenerator := _, isCoroutine := _, more := _ } L _ _)) g L (n + 12) at S'
  (try dsimp only at S')
  change wpS _ (A.deeper (envOf (PySem.Str.ofString "law") { kind := _, names := _, isGenerator := _, isCoroutine := _, more := _ } L _ _)) (execs (_ :: _ :: _ :: []) (envOf (PySem.Str.ofString "law") { kind := _, names := _, isGenerator := _, isCoroutine := _, more := _ } L _ _)) _ _
  (try dsimp only)
  refine Site.use S' fun A₀ base outer env mean mg mb B hA hf hke X T room units calm => ?_
  obtain ⟨news9, hn9⟩ : ∃ l, l = x.led w R := ⟨_, rfl⟩
  have N9 : News g L s.heap news9 := by rw [hn9]; exact N
  clear N
  have hmo : 0 ≤ number.fdiv 6 := Int.fdiv_nonneg hnu (by decide)
  refine S_clean ?_
  walk_at "my steps"
  rename Fr g _ _ _ => F2
  have F3 := Fr_of (f' := x.loc sa nu x1 x2 x3 x4 (some (.int (number.fdiv 6) _)) (some (.int (number.fmod 6) _)) (some (.int number tnu)) x8) (F := F2) (e := by walk_at "my loc")
  clear F2
  refine S_cons (S_If (wpS_of ?_))
  walk_at "my steps"
  · rename Fr g _ _ _ => F4
    rename News g _ _ _ => N4
    rw [hn9] at N4
    refine br1 (n := n + 4) (x5 := none) (S0.less (by walk_at "my less")) F4 (fun p hp => N4 p (.tail _ hp)) nd ok hrs hmo ?_
    intro h' tk x' R' rs' o1 o2 o3 o4 a1 a2 a3 a4 a5 a6
    show wpS _ _ (execs (_ :: []) _) _ _
    exact S_cons (rightIf (n := n) S0 a4 a5 a6 a1 (by (first | lia | omega)) fun h5 tk5 F5 N5 => S_nil (h h5 tk5 x' R' rs' o1 o2 o3 o4 _ _ a1 a2 a3 F5 N5 a6))
  refine S_cons (S_If (wpS_of ?_))
  walk_at "my steps"
  · rename Fr g _ _ _ => F4
    rename News g _ _ _ => N4
    rw [hn9] at N4
    refine br2 (n := n + 4) (x5 := none) (S0.less (by walk_at "my less")) F4 (fun p hp => N4 p (.tail _ hp)) nd ok hrs hmo ?_
    intro h' tk x' R' rs' o1 o2 o3 o4 a1 a2 a3 a4 a5 a6
    refine S_nil ?_
    show wpS _ _ (execs (_ :: []) _) _ _
    exact S_cons (rightIf (n := n) S0 a4 a5 a6 a1 (by (first | lia | omega)) fun h5 tk5 F5 N5 => S_nil (h h5 tk5 x' R' rs' o1 o2 o3 o4 _ _ a1 a2 a3 F5 N5 a6))
  refine S_cons (S_If (wpS_of ?_))
  walk_at "my steps"
  · rename Fr g _ _ _ => F4
    rename News g _ _ _ => N4
    rw [hn9] at N4
    refine br3 (n := n + 4) (x5 := none) (S0.less (by walk_at "my less")) F4 (fun p hp => N4 p (.tail _ hp)) nd ok hrs hmo ?_
    intro h' tk x' R' rs' o1 o2 o3 o4 a1 a2 a3 a4 a5 a6
    refine S_nil ?_
    refine S_nil ?_
    show wpS _ _ (execs (_ :: []) _) _ _
    exact S_cons (rightIf (n := n) S0 a4 a5 a6 a1 (by (first | lia | omega)) fun h5 tk5 F5 N5 => S_nil (h h5 tk5 x' R' rs' o1 o2 o3 o4 _ _ a1 a2 a3 F5 N5 a6))
  · rename Fr g _ _ _ => F4
    rename News g _ _ _ => N4
    rw [hn9] at N4
    refine br4 (n := n + 4) (x5 := none) (S0.less (by walk_at "my less")) F4 (fun p hp => N4 p (.tail _ hp)) nd ok hrs hmo ?_
    intro h' tk x' R' rs' o1 o2 o3 o4 a1 a2 a3 a4 a5 a6
    refine S_nil ?_
    refine S_nil ?_
    show wpS _ _ (execs (_ :: []) _) _ _
    exact S_cons (rightIf (n := n) S0 a4 a5 a6 a1 (by (first | lia | omega)) fun h5 tk5 F5 N5 => S_nil (h h5 tk5 x' R' rs' o1 o2 o3 o4 _ _ a1 a2 a3 F5 N5 a6))
/- part C28 -/
theorem intsAre_get {vs : List Value} {ns : List Int} (h : IntsAre vs ns) : ∀ {i : Nat} {v : Value}, vs[i]? = some v → ∃ z t, v = Value.int z t := by
  induction h with
  | nil => intro i v e; simp at e
  | cons n t _ ih =>
    intro i v e
    cases i with
    | zero => exact ⟨n, t, by cases e; rfl⟩
    | succ i => exact ih (i := i) e
open LCg in
theorem compRest_inv {prog : Program} {w : World} {A : Around} {h₀ : Heap} {L : Addr} {m : PySem.Str → Option Value} {env : Env} {elt : PySem.Expr} {x : PySem.Str} {scope : Scope} {cl : List (PySem.Str × Addr)} {s : Shared} {S : List (Addr × Obj) → Prop} {P : Nat → Value → Prop} {Fin : List Value → List (Addr × Obj) → Prop} {news : List (Addr × Obj)}
    (n : Nat) (J : Nat → List Value → Prop) (h0 : J 0 []) (fin : ∀ ys, J n ys → Fin ys news)
    (turn : ∀ (i : Nat) (v : Value) (I : Addr) (oI : Obj) (C : Addr) (oC : Obj) (D : Addr) (ys : List Value) (m₂ : PySem.Str → Option Value) (h : Heap) (tk : Nat) (E' : Value → Shared → Prop) (K : Value → List (Addr × Obj) → Prop), i < n → J i ys → P i v → NsObj oC m₂ → m₂ x = some v → Fr h₀ L h m →
      News h₀ L h ((I, oI) :: (C, oC) :: (D, lst ys) :: news) → Off3 I C D news → ((@Ne Nat I C) ∧ (@Ne Nat I D) ∧ (@Ne Nat C D)) → (∀ y, J (i + 1) (ys ++ [y]) → K y news) →
      wpAny (model prog w) A (eval elt (compEnvC scope cl C env)) (CompEnd h₀ L m { s with heap := h, toks := tk } I oI C oC D (lst ys) S K) E' { s with heap := h, toks := tk }) :
    CompRest prog w A h₀ L m env elt x scope cl s S P Fin n 0 [] news := by
  have aux : ∀ k i ys, i + k = n → J i ys → CompRest prog w A h₀ L m env elt x scope cl s S P Fin k i ys news := by
    intro k
    induction k with
    | zero =>
      intro i ys hi hJ
      have : i = n := by (first | lia | omega)
      subst this
      exact CompRest.zero (fin ys hJ)
    | succ k ih =>
      intro i ys hi hJ
      exact CompRest.succ fun v I oI C oC D m₂ h tk E' hP hn hx F N o3 ne =>
        turn i v I oI C oC D ys m₂ h tk E' _ (by (first | lia | omega)) hJ hP hn hx F N o3 ne fun y hy => ih (i + 1) (ys ++ [y]) (by (first | lia | omega)) hy
  exact aux n 0 [] (by (first | lia | omega)) h0
theorem start0 {w : World} {A : Around} {s : Shared} {g : Heap} {L fa sa : Addr} {cd : Value} {n : Nat} {its : Array Value} {ns : List Int} {Q : Flow → Shared → Prop} (S' : Site w (A.deeper (lawEnv L fa cd)) g L (n + 12)) (F : Fr g L s.heap (fun x => [(PySem.Str.ofString "script", Value.ref sa)].lookup x)) (hl : g.IsList sa its) (hi : IntsAre its.toList ns) (hlen : ns.length ≤ 63)
    (h : ∀ h' tk nu vs ms, IntsAre vs ms → ms.length ≤ 7 → (∀ z ∈ ms, 0 ≤ z) → Fr g L h' (fun z => if z = PySem.Str.ofString "numbers" then some (.ref nu) else [(PySem.Str.ofString "script", Value.ref sa)].lookup z) → News g L h' [(nu, LCg.lst vs)] → wpS (model PySem.Challenge.rw_jr0034_01.row.prog w) (A.deeper (lawEnv L fa cd)) (execs lawRec.body.tail (lawEnv L fa cd)) Q { s with heap := h', toks := tk }) :
    wpS (model PySem.Challenge.rw_jr0034_01.row.prog w) (A.deeper (lawEnv L fa cd)) (execs lawRec.body (lawEnv L fa cd)) Q s := by
  change Site w (A.deeper (envOf (PySem.Str.ofString "law") { kind := _, names := _, isGenerator := _, isCoroutine := _, more := _ } L _ _)) g L (n + 12) at S'
  (try dsimp only at S')
  change wpS _ (A.deeper (envOf (PySem.Str.ofString "law") { kind := _, names := _, isGenerator := _, isCoroutine := _, more := _ } L _ _)) (execs (_ :: _) (envOf (PySem.Str.ofString "law") { kind := _, names := _, isGenerator := _, isCoroutine := _, more := _ } L _ _)) _ _
  (try dsimp only)
  refine Site.use S' fun A₀ base outer env mean mg mb B hA hf hke X T room units calm => ?_
  have N : News g L s.heap [] := News_nil
  refine S_clean ?_
  refine LCg.Assign_ListComp_U (F₀ := F) (by rfl) (by with_unfolding_all rfl) (by rfl) (by decide) (by rfl) (by decide) (by rfl) (by rfl) (by rfl) ?_
  walk_at "my steps"
  rename Fr g _ _ _ => F2
  rename News g _ _ _ => N2
  rename IntsAre _ (List.take 7 ns) => hI2
  rename_i D2 vs2 h2 hC2 hL2 _
  have hvl : vs2.length = (List.take 7 ns).length := hI2.length
  refine LCg.CompSrc.ledger calm F2 N2 (.head _) (by rw [sizeLine_eq, List.size_toArray]; (first | lia | omega)) ?_
  intro h3
  have hall : ∀ i v, vs2.toArray[i]? = some v → ∃ z t, v = Value.int z t := fun i v e => intsAre_get hI2 (i := i) (by rw [List.getElem?_toArray] at e; exact e)
  with_reducible refine compRest_inv vs2.toArray.size (fun i ys => ∃ ms : List Int, IntsAre ys ms ∧ ms.length = i ∧ ∀ z ∈ ms, 0 ≤ z) ⟨[], .nil, rfl, by simp⟩ ?_ ?_
  · rintro ys ⟨ms, hms, hml, hm0⟩
    unfold LCg.FinA
    intro D4 h4 tk4 F4 N4 o4
    have hsz : ms.length ≤ 7 := by
      rw [hml, List.size_toArray, hvl, List.length_take]
      (first | lia | omega)
    exact h h4 tk4 D4 ys ms hms hsz hm0 F4 fun p hp => N4 p (by
      rw [List.mem_singleton.mp hp]
      exact .head _)
  · rintro i2 v3 I2 oI2 C2 oC2 D3 ys2 m2 h22 tk22 E22 K22 hi2 ⟨ms, hms, hml, hm0⟩ hv3 hns hm22 F22 N22 off22 ne22 hK
    obtain ⟨z, tz, rfl⟩ := hall i2 v3 hv3
    walk_at "my steps"
    refine LCg.CompEnd.intro F22 N22 _ (fun p hp => hp) off22 (.inr ⟨_, .head _, rfl, _, rfl⟩) (hK _ ⟨ms ++ [if z < 0 then -z else z], hms.append (.cons _ _ .nil), by rw [List.length_append, hml]; rfl, fun q hq => ?_⟩)
    rcases List.mem_append.mp hq with hq | hq
    · exact hm0 q hq
    · rw [List.mem_singleton.mp hq]
      split <;> (first | lia | omega)
/- part C29 -/
theorem start1 {w : World} {A : Around} {s : Shared} {g : Heap} {L fa sa nu : Addr} {cd : Value} {n : Nat} {vs : List Value} {ms : List Int} {Q : Flow → Shared → Prop} (S' : Site w (A.deeper (lawEnv L fa cd)) g L (n + 12)) (F : Fr g L s.heap (fun z => if z = PySem.Str.ofString "numbers" then some (.ref nu) else [(PySem.Str.ofString "script", Value.ref sa)].lookup z)) (N : News g L s.heap [(nu, LCg.lst vs)]) (hi : IntsAre vs ms) (hlen : ms.length ≤ 7) (h0 : ∀ z ∈ ms, 0 ≤ z)
    (h : ∀ h' tk (sz : Int) (tz : Tok), 930 ≤ sz → sz ≤ 1029 → Fr g L h' (fun z => if z = PySem.Str.ofString "size" then some (.int sz tz) else if z = PySem.Str.ofString "numbers" then some (.ref nu) else [(PySem.Str.ofString "script", Value.ref sa)].lookup z) → News g L h' [(nu, LCg.lst vs)] → wpS (model PySem.Challenge.rw_jr0034_01.row.prog w) (A.deeper (lawEnv L fa cd)) (execs lawRec.body.tail.tail (lawEnv L fa cd)) Q { s with heap := h', toks := tk }) :
    wpS (model PySem.Challenge.rw_jr0034_01.row.prog w) (A.deeper (lawEnv L fa cd)) (execs lawRec.body.tail (lawEnv L fa cd)) Q s := by
  change Site w (A.deeper (envOf (PySem.Str.ofString "law") { kind := _, names := _, isGenerator := _, isCoroutine := _, more := _ } L _ _)) g L (n + 12) at S'
  (try dsimp only at S')
  change wpS _ (A.deeper (envOf (PySem.Str.ofString "law") { kind := _, names := _, isGenerator := _, isCoroutine := _, more := _ } L _ _)) (execs (_ :: _) (envOf (PySem.Str.ofString "law") { kind := _, names := _, isGenerator := _, isCoroutine := _, more := _ } L _ _)) _ _
  (try dsimp only)
  refine Site.use S' fun A₀ base outer env mean mg mb B hA hf hke X T room units calm => ?_
  cases hi with
  | nil =>
    refine S_clean ?_
    walk_at "my steps"
    rename Fr g _ _ _ => F2
    rename News g _ _ _ => N2
    dsimp only at F2
    (try dsimp only)
    have e99 : 930 + Int.fmod 60 100 = 990 := by decide
    rw [e99] at F2
    have F3 := Fr_of (f' := (fun z => if z = PySem.Str.ofString "size" then some (.int 990 _) else if z = PySem.Str.ofString "numbers" then some (.ref nu) else [(PySem.Str.ofString "script", Value.ref sa)].lookup z)) (F := F2) (e := by (intro z; by_cases q1 : z = PySem.Str.ofString "size"; (subst q1; rfl); by_cases q2 : z = PySem.Str.ofString "numbers"; (subst q2; rfl); simp only [if_neg q1, if_neg q2]))
    change wpS _ (A.deeper (lawEnv L fa cd)) (execs lawRec.body.tail.tail (lawEnv L fa cd)) _ _
    with_reducible refine h _ _ _ _ ?_ ?_ F3 N2
    · decide
    · decide
  | cons m0 t0 hi =>
    have hm0 : 0 ≤ m0 := h0 m0 (.head _)
    have hb1 : 930 ≤ 930 + m0.fmod 100 ∧ 930 + m0.fmod 100 ≤ 1029 := by
      rw [Int.fmod_eq_emod_of_nonneg _ (by decide)]
      (first | lia | omega)
    have hvl := hi.length
    simp only [List.length_cons] at hlen
    refine S_clean ?_
    walk_at "my steps"
    rename Fr g _ _ _ => F5
    rename News g _ _ _ => N5
    have F3 := Fr_of (f' := (fun z => if z = PySem.Str.ofString "size" then some (.int (930 + m0.fmod 100) _) else if z = PySem.Str.ofString "numbers" then some (.ref nu) else [(PySem.Str.ofString "script", Value.ref sa)].lookup z)) (F := F5) (e := by (intro z; by_cases q1 : z = PySem.Str.ofString "size"; (subst q1; rfl); by_cases q2 : z = PySem.Str.ofString "numbers"; (subst q2; rfl); simp only [if_neg q1, if_neg q2]))
    change wpS _ (A.deeper (lawEnv L fa cd)) (execs lawRec.body.tail.tail (lawEnv L fa cd)) _ _
    with_reducible refine h _ _ _ _ ?_ ?_ F3 N5
    · exact hb1.1
    · exact hb1.2
/- part C30 -/
abbrev locS (sa nu : Addr) (sz rw nw oc me jo my : Option Value) : PySem.Str → Option Value := fun z => if z = PySem.Str.ofString "now" then nw else if z = PySem.Str.ofString "rows" then rw else if z = PySem.Str.ofString "journal" then jo else if z = PySem.Str.ofString "memory" then my else if z = PySem.Str.ofString "octets" then oc else if z = PySem.Str.ofString "meta" then me else if z = PySem.Str.ofString "numbers" then some (.ref nu) else if z = PySem.Str.ofString "size" then sz else if z = PySem.Str.ofString "script" then some (.ref sa) else none
local macro_rules | `(tactic| walk_at "binaryOp Mult bytes int") => `(tactic| (k_here; k_dflt (refine' mul_l ?k0 ?k1 ?k2 ?k3 ?_; (case k0 => decide); (case k1 => decide); (case k2 => decide); (case k3 => decide)); intro _ _; generalize hcs9 : (List.replicate (58 : Int).toNat _).flatten = cs9; (have hcl9 : cs9.length = 1044 := (by rw [← hcs9, List.length_flatten]; simp)); clear hcs9))
theorem News.tail1 {h₀ h : Heap} {L : Addr} {a : Addr × Obj} {b : List (Addr × Obj)} (N : News h₀ L h (a :: b)) : News h₀ L h b := fun q hq => N q (.tail _ hq)
theorem nd4 {a b c d : Nat} {o p q r : Obj} (h1 : d < c) (h2 : c < b ∧ d < b) (h3 : b < a ∧ c < a ∧ d < a) : Nd [(a, o), (b, p), (c, q), (d, r)] :=
  Nd.join (off_of_allLt ⟨h3.1, h3.2.1, h3.2.2, trivial⟩) (Nd.join (off_of_allLt ⟨h2.1, h2.2, trivial⟩) (Nd.join (off_of_allLt ⟨h1, trivial⟩) ⟨by simp⟩))
theorem start2 {w : World} {A : Around} {s : Shared} {g : Heap} {L fa sa nu : Addr} {cd : Value} {n : Nat} {vs : List Value} {ms : List Int} {Q : Flow → Shared → Prop} {sz : Int} {tz : Tok} (S' : Site w (A.deeper (lawEnv L fa cd)) g L (n + 12)) (F : Fr g L s.heap (fun z => if z = PySem.Str.ofString "size" then some (.int sz tz) else if z = PySem.Str.ofString "numbers" then some (.ref nu) else [(PySem.Str.ofString "script", Value.ref sa)].lookup z)) (N : News g L s.heap [(nu, LCg.lst vs)]) (hz0 : 930 ≤ sz) (hz1 : sz ≤ 1029)
    (h : ∀ h' tk lr e2 nw r t1 t2 t3 tj, OkR r → r.i = 1 → r.t = 0 → Fr g L h' (locS sa nu (some (.int sz tz)) (some (.ref lr)) (some (.ref nw)) none none none none) → News g L h' [(nw, tupO #[.int 0 tj, .none] 0), (lr, listOf #[.ref e2] 0), (e2, tupR r t1 t2 t3), (nu, LCg.lst vs)] → Nd [(nw, tupO #[.int 0 tj, .none] 0), (lr, listOf #[.ref e2] 0), (e2, tupR r t1 t2 t3), (nu, LCg.lst vs)] → wpS (model PySem.Challenge.rw_jr0034_01.row.prog w) (A.deeper (lawEnv L fa cd)) (execs lawRec.body.tail.tail.tail (lawEnv L fa cd)) Q { s with heap := h', toks := tk }) :
    wpS (model PySem.Challenge.rw_jr0034_01.row.prog w) (A.deeper (lawEnv L fa cd)) (execs lawRec.body.tail.tail (lawEnv L fa cd)) Q s := by
  change Site w (A.deeper (envOf (PySem.Str.ofString "law") { kind := _, names := _, isGenerator := _, isCoroutine := _, more := _ } L _ _)) g L (n + 12) at S'
  (try dsimp only at S')
  change wpS _ (A.deeper (envOf (PySem.Str.ofString "law") { kind := _, names := _, isGenerator := _, isCoroutine := _, more := _ } L _ _)) (execs (_ :: _) (envOf (PySem.Str.ofString "law") { kind := _, names := _, isGenerator := _, isCoroutine := _, more := _ } L _ _)) _ _
  (try dsimp only)
  refine Site.use S' fun A₀ base outer env mean mg mb B hA hf hke X T room units calm => ?_
  refine S_clean ?_
  walk_at "my steps"
  rename Fr g _ _ _ => F5
  rename News g _ _ _ => N5
  rename AllLt _ [_] => l1
  rename AllLt _ [_, _] => l2
  rename AllLt _ [_, _, _] => l3
  rename List.length _ = 1044 => hcl
  rename List UInt8 => cs9
  have hok : OkR ⟨cutL cs9 none (some sz), 1, 0⟩ := ⟨by
    show (cutL cs9 none (some sz)).length ≤ 1029
    rw [cut_to _ (by omega), List.length_take]
    omega, by show 1 < _; decide, by show 0 < _; decide⟩
  have F6 := Fr_of (f' := locS sa nu (some (.int sz tz)) (some (.ref _)) (some (.ref _)) none none none none) (F := F5) (e := by (intro z; (by_cases p0 : z = PySem.Str.ofString "now"; (subst p0; rfl)); (by_cases p1 : z = PySem.Str.ofString "rows"; (subst p1; rfl)); (by_cases p2 : z = PySem.Str.ofString "journal"; (subst p2; rfl)); (by_cases p3 : z = PySem.Str.ofString "memory"; (subst p3; rfl)); (by_cases p4 : z = PySem.Str.ofString "octets"; (subst p4; rfl)); (by_cases p5 : z = PySem.Str.ofString "meta"; (subst p5; rfl)); (by_cases p6 : z = PySem.Str.ofString "numbers"; (subst p6; rfl)); (by_cases p7 : z = PySem.Str.ofString "size"; (subst p7; rfl)); (by_cases p8 : z = PySem.Str.ofString "script"; (subst p8; rfl)); (simp only [locS, List.lookup, beq_eq_false_iff_ne.mpr p8, if_neg p0, if_neg p1, if_neg p2, if_neg p3, if_neg p4, if_neg p5, if_neg p6, if_neg p7, if_neg p8])))
  change wpS _ (A.deeper (lawEnv L fa cd)) (execs lawRec.body.tail.tail.tail (lawEnv L fa cd)) _ _
  exact h _ _ _ _ _ ⟨cutL cs9 none (some sz), 1, 0⟩ _ _ _ _ hok rfl rfl F6 (News.tail1 N5) (nd4 l1.1 ⟨l2.1, l2.2.1⟩ ⟨l3.1, l3.2.1, l3.2.2.1⟩)
/- part C31 -/
section
variable {M : Model} {A : Around} {s : Shared} {env : Env}
theorem S_AssignSwap {elts : List PySem.Expr} {k : Nat} {tpos : Pos} {value : PySem.Expr} {pos : Pos} {names : List PySem.Str} {Q : Flow → Shared → Prop}
    (h : wpS M A (eval value env) (fun v s₁ => wpAny M A (unpackItems v names.length none) (fun items s₂ => wpAny M A (assignInOrder (names.reverse.map fun n => bindName env n) items.reverse) (fun _ => Q .next) noE s₂) noE s₁) s)
    (hs : swapsWithSole [.Tuple elts k tpos] value pos.line env = pure false := by rfl)
    (hw : swappedStores [.Tuple elts k tpos] value env = pure (some names) := by rfl) :
    wpS M A (exec (.Assign [.Tuple elts k tpos] value pos) env) Q s := by
  rw [exec_Assign]
  refine wpS_bind (wpS_standAt ?_)
  rw [hs]
  refine wpS_bind (wpS_pure ?_)
  rw [if_neg (by decide)]
  refine wpS_bind (wpS_mono h (fun v s₁ h₁ => ?_))
  rw [hw]
  refine wpS_bind (wpS_pure (wpS_bind (wpS_rule ?_)))
  exact wpS_bindAny (wpAny_mono h₁ (fun _ _ x => wpS_of (wpAny_bind (wpAny_mono x (fun _ _ y => wpAny_pure y) fun _ _ y => y))) fun _ _ y => y)
end
theorem start3 {w : World} {A : Around} {s : Shared} {g : Heap} {L fa sa nu lr e2 nw : Addr} {cd : Value} {n : Nat} {vs : List Value} {r : Rw} {t1 t2 t3 tj tz : Tok} {sz : Int} {Q : Flow → Shared → Prop} (S' : Site w (A.deeper (lawEnv L fa cd)) g L (n + 12)) (F : Fr g L s.heap (locS sa nu (some (.int sz tz)) (some (.ref lr)) (some (.ref nw)) none none none none)) (N : News g L s.heap [(nw, tupO #[.int 0 tj, .none] 0), (lr, listOf #[.ref e2] 0), (e2, tupR r t1 t2 t3), (nu, LCg.lst vs)]) (nd : Nd [(nw, tupO #[.int 0 tj, .none] 0), (lr, listOf #[.ref e2] 0), (e2, tupR r t1 t2 t3), (nu, LCg.lst vs)]) (hr : OkR r)
    (h : ∀ h' tk mm mt b ot, b.toList = due [r] → b.size ≤ 20000 → ot.IsDictOf (KS w) (metaKV none) → (mt == sysModules) = false → Fr g L h' (locS sa nu (some (.int sz tz)) (some (.ref lr)) (some (.ref nw)) (some (.ref mm)) (some (.ref mt)) none none) → News g L h' ((mm, baObj b) :: (mt, ot) :: [(nw, tupO #[.int 0 tj, .none] 0), (lr, listOf #[.ref e2] 0), (e2, tupR r t1 t2 t3), (nu, LCg.lst vs)]) → Nd ((mm, baObj b) :: (mt, ot) :: [(nw, tupO #[.int 0 tj, .none] 0), (lr, listOf #[.ref e2] 0), (e2, tupR r t1 t2 t3), (nu, LCg.lst vs)]) → wpS (model PySem.Challenge.rw_jr0034_01.row.prog w) (A.deeper (lawEnv L fa cd)) (execs lawRec.body.tail.tail.tail.tail (lawEnv L fa cd)) Q { s with heap := h', toks := tk }) :
    wpS (model PySem.Challenge.rw_jr0034_01.row.prog w) (A.deeper (lawEnv L fa cd)) (execs lawRec.body.tail.tail.tail (lawEnv L fa cd)) Q s := by
  have S0 := S'
  change Site w (A.deeper (envOf (PySem.Str.ofString "law") { kind := _, names := _, isGenerator := _, isCoroutine := _, more := _ } L _ _)) g L (n + 12) at S'
  (try dsimp only at S')
  change wpS _ (A.deeper (envOf (PySem.Str.ofString "law") { kind := _, names := _, isGenerator := _, isCoroutine := _, more := _ } L _ _)) (execs (_ :: _) (envOf (PySem.Str.ofString "law") { kind := _, names := _, isGenerator := _, isCoroutine := _, more := _ } L _ _)) _ _
  (try dsimp only)
  refine Site.use S' fun A₀ base outer env mean mg mb B hA hf hke X T room units calm => ?_
  have hdl : (due [r]).length ≤ 20000 := by
    have := hr.c
    rw [due_length, told_one, recL_length]
    (first | lia | omega)
  refine S_cons (S_AssignSwap (names := [PySem.Str.ofString "octets", PySem.Str.ofString "meta"]) (S_Tuple (S_spliced_cons ?_)))
  rw [if_neg Bool.false_ne_true]
  refine S_Call_Name ?_
  refine' nameX_B (v := .type "bytearray") F X ?tt ?ee ?vv (by decide) ?_
  case tt => k_asm
  case vv => boot_by_name
  case ee => k_is
  show wpS _ _ (callWith _ (.type "bytearray") [] (backTo _ (starEach [_] _)) []) _ _
  refine S_callWith_type (S_spliced_cons ?_)
  rw [if_neg Bool.false_ne_true]
  refine S_Call_Name ?_
  walk_at "my steps"
  refine S_callWith (K := hd.heap_1 w.params) ?kp (wpS_of ?_)
  case kp => k_is
  walk_at "my steps"
  rename Fr g _ _ _ => F8
  rename News g _ _ _ => N8
  refine octets_S (n := n + 11) (rs := [r]) (vals := #[.ref e2]) S' F8 N8 (.tail _ (.head _)) ⟨⟨e2, t1, t2, t3, rfl, .tail _ (.tail _ (.head _))⟩, trivial⟩ (show 1 ≤ 9 by decide) (by
    intro q hq
    rw [List.mem_singleton.mp hq]
    exact hr) fun h9 tk9 t9 F9 N9 => ?_
  clear F8 N8
  refine S_spliced_nil ?_
  refine BA.of_bytes F9 N9 (by rw [sizeLine_eq, List.size_toArray]; (first | lia | omega)) fun mm h10 F10 N10 l10 => ?_
  clear F9 N9
  obtain ⟨b, hb⟩ : ∃ b, b = (due [r]).toArray := ⟨_, rfl⟩
  rw [← hb] at N10
  refine S_spliced_cons (wpS_of ?_)
  rw [if_neg Bool.false_ne_true]
  walk_at "my steps"
  rename_i d2 hh2 o2 F2 N2 lo2 hs2 fs2 hi2 fi2 l2
  have nd2 := Nd.swap (a := [(d2, o2)]) (b := [(mm, baObj b)]) (c := [(nw, tupO #[.int 0 tj, .none] 0), (lr, listOf #[.ref e2] 0), (e2, tupR r t1 t2 t3), (nu, LCg.lst vs)]) (Nd.join (off_of_allLt l2) (Nd.join (Off.of_lt l10) nd))
  (try k_unfold)
  refine S_spliced_nil ?_
  show wpAny _ _ _ _ _ _
  walk_at "my steps"
  rename Fr g _ _ _ => F12
  rename News g _ _ _ => N12
  have N13 := News.swap (a := [(d2, o2)]) (b := [(mm, baObj b)]) (c := [(nw, tupO #[.int 0 tj, .none] 0), (lr, listOf #[.ref e2] 0), (e2, tupR r t1 t2 t3), (nu, LCg.lst vs)]) (News.tail1 N12)
  have F13 := Fr_of (f' := (locS sa nu (some (.int sz tz)) (some (.ref lr)) (some (.ref nw)) (some (.ref mm)) (some (.ref d2)) none none)) (F := F12) (e := by (intro z; (by_cases p0 : z = PySem.Str.ofString "now"; (subst p0; rfl)); (by_cases p1 : z = PySem.Str.ofString "rows"; (subst p1; rfl)); (by_cases p2 : z = PySem.Str.ofString "journal"; (subst p2; rfl)); (by_cases p3 : z = PySem.Str.ofString "memory"; (subst p3; rfl)); (by_cases p4 : z = PySem.Str.ofString "octets"; (subst p4; rfl)); (by_cases p5 : z = PySem.Str.ofString "meta"; (subst p5; rfl)); (by_cases p6 : z = PySem.Str.ofString "numbers"; (subst p6; rfl)); (by_cases p7 : z = PySem.Str.ofString "size"; (subst p7; rfl)); (by_cases p8 : z = PySem.Str.ofString "script"; (subst p8; rfl)); (simp only [locS, List.lookup, beq_eq_false_iff_ne.mpr p8, if_neg p0, if_neg p1, if_neg p2, if_neg p3, if_neg p4, if_neg p5, if_neg p6, if_neg p7, if_neg p8])))
  change wpS _ (A.deeper (lawEnv L fa cd)) (execs lawRec.body.tail.tail.tail.tail (lawEnv L fa cd)) _ _
  exact h _ _ mm d2 b o2 (by rw [hb, List.toList_toArray]) (by rw [hb, List.size_toArray]; exact hdl) hs2 lo2 F13 N13 nd2
/- part C32 -/
theorem arrP {l j1 j2 f1 f2 f3 f4 f5 f6 m1 m2 m3 m4 a c d e : Addr × Obj} {T : List (Addr × Obj)} : (l :: j1 :: j2 :: f1 :: f2 :: f3 :: f4 :: f5 :: f6 :: m1 :: m2 :: m3 :: m4 :: (T ++ [a, c, d, e])).Perm ([f1, f2, f3, f4, f5, f6] ++ ([m1, m2, m3, m4] ++ ([j1, j2, l] ++ ([c, a] ++ ([d, e] ++ T))))) := by
  have p1 : (l :: j1 :: j2 :: f1 :: f2 :: f3 :: f4 :: f5 :: f6 :: m1 :: m2 :: m3 :: m4 :: (T ++ [a, c, d, e])) = [l, j1, j2] ++ (([f1, f2, f3, f4, f5, f6] ++ [m1, m2, m3, m4]) ++ (T ++ [a, c, d, e])) := rfl
  rw [p1, ← List.append_assoc [f1, f2, f3, f4, f5, f6]]
  have q1 : ([l, j1, j2] : List (Addr × Obj)).Perm [j1, j2, l] := List.perm_append_comm (l₁ := [l]) (l₂ := [j1, j2])
  have q2 : (T ++ [a, c, d, e]).Perm ([c, a] ++ ([d, e] ++ T)) := List.perm_append_comm.trans (List.Perm.swap _ _ _)
  refine (List.Perm.append q1 (List.Perm.append_left _ q2)).trans ?_
  exact List.perm_append_comm_assoc _ _ _
theorem start4 {w : World} {A : Around} {s : Shared} {g : Heap} {L fa sa nu lr e2 nw mm mt : Addr} {cd : Value} {n : Nat} {vs : List Value} {r : Rw} {t1 t2 t3 tj tz : Tok} {sz : Int} {b : Array UInt8} {ot : Obj} {Q : Flow → Shared → Prop} (S' : Site w (A.deeper (lawEnv L fa cd)) g L (n + 12)) (F : Fr g L s.heap (locS sa nu (some (.int sz tz)) (some (.ref lr)) (some (.ref nw)) (some (.ref mm)) (some (.ref mt)) none none)) (N : News g L s.heap ((mm, baObj b) :: (mt, ot) :: [(nw, tupO #[.int 0 tj, .none] 0), (lr, listOf #[.ref e2] 0), (e2, tupR r t1 t2 t3), (nu, LCg.lst vs)])) (nd : Nd ((mm, baObj b) :: (mt, ot) :: [(nw, tupO #[.int 0 tj, .none] 0), (lr, listOf #[.ref e2] 0), (e2, tupR r t1 t2 t3), (nu, LCg.lst vs)])) (hr : OkR r) (hb : b.toList = due [r]) (hbz : b.size ≤ 20000) (ht : ot.IsDictOf (KS w) (metaKV none)) (hsm : (mt == sysModules) = false)
    (h : ∀ h' tk (x : St) T, x.lr = lr → x.nw = nw → x.vR = #[.ref e2] → x.vM = #[] → x.tn = 0 → x.tm = 0 → x.v2 = .none → x.v3 = .none → x.y = none → x.OkF [r] T → x.OkT w → Fr g L h' (x.loc sa nu none none none none none none none (some (.int sz tz))) → News g L h' (x.led w ((e2, tupR r t1 t2 t3) :: (nu, LCg.lst vs) :: T)) → Nd (x.led w ((e2, tupR r t1 t2 t3) :: (nu, LCg.lst vs) :: T)) → wpS (model PySem.Challenge.rw_jr0034_01.row.prog w) (A.deeper (lawEnv L fa cd)) (execs lawRec.body.tail.tail.tail.tail.tail (lawEnv L fa cd)) Q { s with heap := h', toks := tk }) :
    wpS (model PySem.Challenge.rw_jr0034_01.row.prog w) (A.deeper (lawEnv L fa cd)) (execs lawRec.body.tail.tail.tail.tail (lawEnv L fa cd)) Q s := by
  have S0 := S'
  change Site w (A.deeper (envOf (PySem.Str.ofString "law") { kind := _, names := _, isGenerator := _, isCoroutine := _, more := _ } L _ _)) g L (n + 12) at S'
  (try dsimp only at S')
  change wpS _ (A.deeper (envOf (PySem.Str.ofString "law") { kind := _, names := _, isGenerator := _, isCoroutine := _, more := _ } L _ _)) (execs (_ :: _) (envOf (PySem.Str.ofString "law") { kind := _, names := _, isGenerator := _, isCoroutine := _, more := _ } L _ _)) _ _
  (try dsimp only)
  refine Site.use S' fun A₀ base outer env mean mg mb B hA hf hke X T room units calm => ?_
  refine S_cons (S_AssignSwap (names := [PySem.Str.ofString "journal", PySem.Str.ofString "memory"]) (S_Tuple (S_spliced_cons ?_)))
  rw [if_neg Bool.false_ne_true]
  refine S_Call_Name ?_
  walk_at "my steps"
  refine S_callWith (K := hd.heap_1 w.params) ?kp (wpS_of ?_)
  case kp => k_is
  walk_at "my steps"
  rename Fr g _ _ _ => F8
  rename News g _ _ _ => N8
  refine' cjF_S (n := n + 3) (b := b) (ot := ot) (y := none) (rs := [r]) (junk := []) S' F8 N8 nd (by rw [hb, List.append_nil]) (by (first | lia | omega)) (show 1 ≤ 9 by decide) (by
    intro q hq
    rw [List.mem_singleton.mp hq]
    exact hr) ht hsm ?_
  intro h10 tk10 b2 fj2 dfj2 rf2 drf2 lj2 ms2 dms2 md2 t1' t2' t3' k0' k1' k2' k3' k4' k5' k6' tc' vals2 nl2 T2 od2 D2 R2 hod2 hmd2 F10 N10 nd10
  clear F8 N8
  refine S_spliced_cons ?_
  rw [if_neg Bool.false_ne_true]
  refine S_Call_Name ?_
  walk_at "my steps"
  refine S_callWith0 (K := hd.heap_1 w.params) (X.keeps F10.keep) ?kp2 ?_
  case kp2 => k_is
  show wpS _ _ (call (.ref 474) []) _ _
  refine cjM_S (n := n + 8) S' F10 N10 fun h12 tk12 mj dmj lm q1 q2 q3 q4 q5 z2 z3 ti F12 N12 l1 l2 l3 => ?_
  have nd12 := Nd.join (Off.of_lt (a := lm) fun p hp => by
    rcases List.mem_cons.mp hp with rfl | hp
    · exact l3
    · rcases List.mem_cons.mp hp with rfl | hp
      · exact Nat.lt_trans l2 l3
      · exact Nat.lt_trans (l1 p hp) (Nat.lt_trans l2 l3)) (o := listOf #[] 0) (Nd.join (o := instObj 241 dmj) (Off.of_lt (a := mj) fun p hp => by
    rcases List.mem_cons.mp hp with rfl | hp
    · exact l2
    · exact Nat.lt_trans (l1 p hp) l2) (Nd.join (o := mj5 w q1 q2 q3 q4 q5 z2 z3 lm (.int 0 ti) .none) (Off.of_lt l1) nd10))
  clear F10 N10 nd10 l1
  refine S_spliced_nil ?_
  show wpAny _ _ _ _ _ _
  walk_at "my steps"
  rename Fr g _ _ _ => F13
  rename News g _ _ _ => N13
  obtain ⟨x, hx⟩ : ∃ x : St, x = ⟨fj2, dfj2, rf2, drf2, mm, lj2, ms2, dms2, mt, md2, mj, dmj, lm, lr, nw, t1', t2', t3', k0', k1', k2', k3', k4', k5', k6', tc', q1, q2, q3, q4, q5, z2, z3, ti, tj, b2, 40 + ((told [r]).length : Int), vals2, #[], #[.ref e2], nl2, 0, 0, 0, ot, od2, none, 0, .none, 0, .none⟩ := ⟨_, rfl⟩
  have F14 := Fr_of (f' := x.loc sa nu none none none none none none none (some (.int sz tz))) (F := F13) (e := by (rw [hx]; walk_at "my loc"))
  have N14 := News.permL (News.tail1 N13) arrP
  have nd14 := Nd.permL nd12 arrP
  change wpS _ (A.deeper (lawEnv L fa cd)) (execs lawRec.body.tail.tail.tail.tail.tail (lawEnv L fa cd)) _ _
  refine h _ _ x T2 ?_ ?_ ?_ ?_ ?_ ?_ ?_ ?_ ?_ ?_ ?_ F14 ?_ ?_
  case _ => rw [hx]
  case _ => rw [hx]
  case _ => rw [hx]
  case _ => rw [hx]
  case _ => rw [hx]
  case _ => rw [hx]
  case _ => rw [hx]
  case _ => rw [hx]
  case _ => rw [hx]
  · rw [hx]
    exact ⟨D2, rfl, R2⟩
  · rw [hx]
    exact ⟨ht, hod2, hsm, hmd2⟩
  · rw [hx]
    exact N14
  · rw [hx]
    exact nd14
/- part C33 -/
theorem start5 {w : World} {A : Around} {s : Shared} {g : Heap} {L fa sa nu e2 : Addr} {cd : Value} {n : Nat} {x : St} {R : List (Addr × Obj)} {r : Rw} {t1 t2 t3 : Tok} {x8 : Option Value} {Q : Flow → Shared → Prop} (S' : Site w (A.deeper (lawEnv L fa cd)) g L (n + 12)) (F : Fr g L s.heap (x.loc sa nu none none none none none none none x8)) (N : News g L s.heap (x.led w R)) (nd : Nd (x.led w R)) (he : (e2, tupR r t1 t2 t3) ∈ R) (hr : OkR r) (hri : r.i = 1) (hrt : r.t = 0) (hvR : x.vR = #[.ref e2]) (hvM : x.vM = #[]) (htn : x.tn = 0) (htm : x.tm = 0) (hv2 : x.v2 = .none) (hv3 : x.v3 = .none) (hy : x.y = none) (okF : x.OkF [r] R) (okT : x.OkT w)
    (h : ∀ h' tk (x' : St) R', x'.Ok w [r] R' → (∀ p ∈ R, p ∈ R') → Fr g L h' (x'.loc sa nu none none none none none none none x8) → News g L h' (x'.led w R') → Nd (x'.led w R') → wpS (model PySem.Challenge.rw_jr0034_01.row.prog w) (A.deeper (lawEnv L fa cd)) (execs lawRec.body.tail.tail.tail.tail.tail.tail (lawEnv L fa cd)) Q { s with heap := h', toks := tk }) :
    wpS (model PySem.Challenge.rw_jr0034_01.row.prog w) (A.deeper (lawEnv L fa cd)) (execs lawRec.body.tail.tail.tail.tail.tail (lawEnv L fa cd)) Q s := by
  have S0 := S'
  change Site w (A.deeper (envOf (PySem.Str.ofString "law") { kind := _, names := _, isGenerator := _, isCoroutine := _, more := _ } L _ _)) g L (n + 12) at S'
  (try dsimp only at S')
  change wpS _ (A.deeper (envOf (PySem.Str.ofString "law") { kind := _, names := _, isGenerator := _, isCoroutine := _, more := _ } L _ _)) (execs (_ :: _) (envOf (PySem.Str.ofString "law") { kind := _, names := _, isGenerator := _, isCoroutine := _, more := _ } L _ _)) _ _
  (try dsimp only)
  refine Site.use S' fun A₀ base outer env mean mg mb B hA hf hke X T room units calm => ?_
  obtain ⟨rc, ri, rt⟩ := r
  dsimp only at hri hrt
  subst hri hrt
  obtain ⟨news9, hn9⟩ : ∃ l, l = x.led w R := ⟨_, rfl⟩
  have N9 : News g L s.heap news9 := by rw [hn9]; exact N
  have i1 : (x.mj, instObj 241 x.dmj) ∈ news9 := by rw [hn9]; exact List.mem_append_right _ (List.mem_append_right _ (.head _))
  have i2 : (x.dmj, mj5 w x.q1 x.q2 x.q3 x.q4 x.q5 x.z2 x.z3 x.lm (.int x.tm x.ti) x.v2) ∈ news9 := by rw [hn9]; exact List.mem_append_right _ (List.mem_append_right _ (.tail _ (.head _)))
  have i3 : (x.lr, listOf #[.ref e2] x.nR) ∈ news9 := by rw [hn9, ← hvR]; exact List.mem_append_right _ (List.mem_append_right _ (List.mem_append_right _ (.head _)))
  have i4 : (e2, tupR ⟨rc, 1, 0⟩ t1 t2 t3) ∈ news9 := by rw [hn9]; exact List.mem_append_right _ (List.mem_append_right _ (List.mem_append_right _ (List.mem_append_right _ he)))
  clear N
  refine S_cons (S_Expr (S_method ?_))
  walk_at "my steps"
  refine S_callWith (K := hd.heap_1 w.params) ?kp (wpS_of ?_)
  case kp => k_is
  walk_at "my steps"
  refine item_v (s := ⟨_, _, _, _, _⟩) (k := 0) (v := Value.ref e2) (its := #[.ref e2]) N9 i3 (by decide) (show 1 ≤ 100000 by decide) rfl ?_
  show wpAny _ _ _ _ _ _
  walk_at "my steps"
  rename Fr g _ _ _ => F11
  rename News g _ _ _ => N11
  rw [hn9] at N11
  refine ledAddM (n := n + 11) (R₀ := R) (rs := []) (r := ⟨rc, 1, 0⟩) S' F11 N11 nd (by rw [hvM]; trivial) (by decide) fun h13 tk13 a ok13 F13 N13 nd13 => ?_
  change wpS _ (A.deeper (lawEnv L fa cd)) (execs lawRec.body.tail.tail.tail.tail.tail.tail (lawEnv L fa cd)) _ _
  refine h _ _ { x with vM := x.vM.push (.ref a), nM := x.nM + 1 } ((a, tupR ⟨rc, 1, 0⟩ _ _ _) :: R) ⟨⟨okF.due, okF.cur, okF.rows.mono fun p hp => .tail _ hp⟩, ok13, ?_, ⟨okT.ot, okT.od, okT.st, okT.sd⟩, ?_, ?_, ?_, ?_, ?_⟩ (fun p hp => .tail _ hp) F13 N13 nd13
  · show RowsAt _ x.vR.toList _
    rw [hvR]
    exact ⟨⟨e2, t1, t2, t3, rfl, .tail _ he⟩, trivial⟩
  · exact .inl ⟨hy, htn, hv3⟩
  · show x.tm = x.tn
    rw [htm, htn]
  · show x.v2 = x.v3
    rw [hv2, hv3]
  · exact .inl hv3
  · intro q hq
    rw [List.mem_singleton.mp hq]
    exact hr
/- part C34 -/
theorem RowAt.cut {R R' : List (Addr × Obj)} {I : Addr} {o : Obj} {v : Value} {r : Rw} (ho : o.cls = .type "list_iterator") (k : ∀ p ∈ R, p = (I, o) ∨ p ∈ R') (h : RowAt R v r) : RowAt R' v r := by
  obtain ⟨a, ta, tb, td, rfl, hm⟩ := h
  refine ⟨a, ta, tb, td, rfl, ?_⟩
  rcases k _ hm with e | e
  · exfalso
    have e2 : tupR r ta tb td = o := congrArg Prod.snd e
    rw [← e2] at ho
    have e3 : Value.type "tuple" = Value.type "list_iterator" := ho
    exact absurd (Value.type.inj e3) (by decide)
  · exact e
theorem RowsAt.cut {R R' : List (Addr × Obj)} {I : Addr} {o : Obj} (ho : o.cls = .type "list_iterator") (k : ∀ p ∈ R, p = (I, o) ∨ p ∈ R') : ∀ {vs : List Value} {rs : List Rw}, RowsAt R vs rs → RowsAt R' vs rs
  | [], [], _ => trivial
  | _ :: _, _ :: _, h => ⟨RowAt.cut ho k h.1, RowsAt.cut ho k h.2⟩
theorem St.Ok.cut {w : World} {x : St} {rs : List Rw} {R R' : List (Addr × Obj)} {I : Addr} {o : Obj} (ho : o.cls = .type "list_iterator") (k : ∀ p ∈ R, p = (I, o) ∨ p ∈ R') (ok : x.Ok w rs R) : x.Ok w rs R' :=
  ⟨⟨ok.f.due, ok.f.cur, ok.f.rows.cut ho k⟩, ok.m.cut ho k, ok.r.cut ho k, ok.t, ok.y, ok.tm, ok.v, ok.s, ok.ok⟩
theorem St.Ok.mono {w : World} {x : St} {rs : List Rw} {R R' : List (Addr × Obj)} (k : ∀ p ∈ R, p ∈ R') (ok : x.Ok w rs R) : x.Ok w rs R' :=
  ⟨⟨ok.f.due, ok.f.cur, ok.f.rows.mono k⟩, ok.m.mono k, ok.r.mono k, ok.t, ok.y, ok.tm, ok.v, ok.s, ok.ok⟩
theorem intsAre_mem {vs : List Value} {ns : List Int} (h : IntsAre vs ns) {v : Value} (hv : v ∈ vs) : ∃ z t, v = Value.int z t ∧ z ∈ ns := by
  induction h with
  | nil => nomatch hv
  | cons n t _ ih =>
    rcases List.mem_cons.mp hv with e | e
    · exact ⟨n, t, e, .head _⟩
    · obtain ⟨z, t', e1, e2⟩ := ih e
      exact ⟨z, t', e1, .tail _ e2⟩
theorem St.cutP {w : World} {x : St} {a b : List (Addr × Obj)} {p : Addr × Obj} : (x.led w (a ++ p :: b)).Perm (p :: x.led w (a ++ b)) := by
  show (x.F6 w ++ (x.M4 w ++ (x.J3 w ++ (x.R2 ++ (a ++ p :: b))))).Perm (p :: (x.F6 w ++ (x.M4 w ++ (x.J3 w ++ (x.R2 ++ (a ++ b))))))
  have e1 : x.F6 w ++ (x.M4 w ++ (x.J3 w ++ (x.R2 ++ (a ++ p :: b)))) = (x.F6 w ++ (x.M4 w ++ (x.J3 w ++ (x.R2 ++ a)))) ++ p :: b := by simp only [List.append_assoc]
  have e2 : x.F6 w ++ (x.M4 w ++ (x.J3 w ++ (x.R2 ++ (a ++ b)))) = (x.F6 w ++ (x.M4 w ++ (x.J3 w ++ (x.R2 ++ a)))) ++ b := by simp only [List.append_assoc]
  rw [e1, e2]
  exact List.perm_middle
theorem St.headP {w : World} {x : St} {b : List (Addr × Obj)} {p : Addr × Obj} : (p :: x.led w b).Perm (x.led w (p :: b)) := (St.cutP (a := []) (b := b)).symm
theorem lawLoop {w : World} {A : Around} {s : Shared} {g : Heap} {L fa sa nu : Addr} {cd : Value} {n : Nat} {x : St} {R : List (Addr × Obj)} {rs : List Rw} {vs : List Value} {ms : List Int} {x8 : Option Value} {Q : Flow → Shared → Prop} (S' : Site w (A.deeper (lawEnv L fa cd)) g L (n + 12)) (F : Fr g L s.heap (x.loc sa nu none none none none none none none x8)) (N : News g L s.heap (x.led w R)) (nd : Nd (x.led w R)) (ok : x.Ok w rs R) (hrs : rs.length ≤ 1) (hnu : (nu, LCg.lst vs) ∈ R) (hi : IntsAre vs ms) (hlen : ms.length ≤ 7) (h0 : ∀ z ∈ ms, 0 ≤ z)
    (h : ∀ h' tk m', Fr g L h' m' → Q (.ret (.bool true)) { s with heap := h', toks := tk }) :
    wpS (model PySem.Challenge.rw_jr0034_01.row.prog w) (A.deeper (lawEnv L fa cd)) (execs lawRec.body.tail.tail.tail.tail.tail.tail (lawEnv L fa cd)) Q s := by
  have S0 := S'
  change Site w (A.deeper (envOf (PySem.Str.ofString "law") { kind := _, names := _, isGenerator := _, isCoroutine := _, more := _ } L _ _)) g L (n + 12) at S'
  (try dsimp only at S')
  change wpS _ (A.deeper (envOf (PySem.Str.ofString "law") { kind := _, names := _, isGenerator := _, isCoroutine := _, more := _ } L _ _)) (execs (_ :: _ :: _ :: []) (envOf (PySem.Str.ofString "law") { kind := _, names := _, isGenerator := _, isCoroutine := _, more := _ } L _ _)) _ _
  (try dsimp only)
  refine Site.use S' fun A₀ base outer env mean mg mb B hA hf hke X T room units calm => ?_
  refine S_cons (rightIf (n := n) S0 F N nd ok (by (first | lia | omega)) fun h1 tk1 F1 N1 => ?_)
  (try dsimp only)
  clear F N
  obtain ⟨news9, hn9⟩ : ∃ l, l = x.led w R := ⟨_, rfl⟩
  have N9 : News g L h1 news9 := by rw [hn9]; exact N1
  have i1 : (nu, listOf vs.toArray vs.length) ∈ news9 := by rw [hn9]; exact List.mem_append_right _ (List.mem_append_right _ (List.mem_append_right _ (List.mem_append_right _ hnu)))
  have hvl : vs.length ≤ 7 := by rw [hi.length]; exact hlen
  have hvz : vs.toArray.size ≤ 100000 := by rw [List.size_toArray]; (first | lia | omega)
  clear N1
  refine S_cons (S_For (wpS_of ?_))
  walk_at "my steps"
  rename_i D h6 F6 N6 l6
  obtain ⟨its, hits⟩ : ∃ l, l = (List.drop (Int.toNat 1) vs.toArray.toList).toArray := ⟨_, rfl⟩
  rw [← hits, hn9] at N6
  rw [hn9] at l6
  have hsz : its.size ≤ 6 := by
    rw [hits, List.size_toArray, List.length_drop, List.toList_toArray]
    show vs.length - 1 ≤ 6
    (first | lia | omega)
  have hget : ∀ (i : Nat) (v : Value), its[i]? = some v → ∃ z t, v = Value.int z t ∧ 0 ≤ z := by
    intro i v e
    rw [hits, List.getElem?_toArray, List.toList_toArray] at e
    obtain ⟨z, t, e1, e2⟩ := intsAre_mem hi (List.mem_of_mem_drop (List.mem_of_getElem? e))
    exact ⟨z, t, e1, h0 z e2⟩
  clear hits i1 hn9
  refine iterList F6 N6 (.head _) fun I o h7 ho F7 N7 l7 => ?_
  have nd6 : Nd ((D, listOf its 0) :: x.led w R) := Nd.join (Off.of_lt l6) nd
  have nd7 : Nd (x.led w ((D, listOf its 0) :: R)) := Nd.permL nd6 St.headP
  have oI2 : Off I (x.led w ((D, listOf its 0) :: R)) := (Off.of_lt l7).sub fun p hp => St.headP.mem_iff.mpr hp
  have N8 : News g L h7 ((I, o) :: x.led w ((D, listOf its 0) :: R)) := News.permL N7 (List.Perm.cons _ St.headP)
  clear F6 N6 N7 l7 l6 nd6
  refine S_forListI (l := D) (its := its) (nl := 0) (I := I) (fun i m₁ news₁ => ∃ (x' : St) (R' : List (Addr × Obj)) (rs' : List Rw) (o1 o2 o3 o4 o5 o6 o7 : Option Value), x'.Ok w rs' R' ∧ rs'.length ≤ rs.length + i ∧ (D, listOf its 0) ∈ R' ∧ m₁ = x'.loc sa nu o1 o2 o3 o4 o5 o6 o7 x8 ∧ news₁ = x'.led w R' ∧ Nd (x'.led w R') ∧ Off I (x'.led w R')) calm F7 N8 ho ⟨x, (D, listOf its 0) :: R, rs, none, none, none, none, none, none, none, ok.mono fun p hp => .tail _ hp, Nat.le_refl _, .head _, rfl, rfl, nd7, oI2⟩ ?_ ?_ ?_
  · rintro i m₁ news₁ ⟨x', R', rs', o1, o2, o3, o4, o5, o6, o7, _, _, hD, _, rfl, _, oI⟩
    exact ⟨oI, List.mem_append_right _ (List.mem_append_right _ (List.mem_append_right _ (List.mem_append_right _ hD)))⟩
  · rintro i v m₁ news₁ h8 tk8 o8 hv8 hli ⟨x', R', rs', o1, o2, o3, o4, o5, o6, o7, ok8, hl8, hD, rfl, rfl, nd8, oI8⟩ F8 N8
    obtain ⟨z, tz, rfl, hz⟩ := hget i v hv8
    have hi6 : i < its.size := (Array.getElem?_eq_some_iff.mp hv8).1
    clear hv8
    refine assign_name (s := ⟨h8, s.gens, s.drawn, tk8, s.os⟩) rfl F8 N8 rfl fun h9 F9 N9 => ?_
    clear F8 N8
    replace F9 : Fr g L h9 (x'.loc sa nu o1 o2 o3 o4 o5 o6 (some (.int z tz)) x8) := Fr_of (F := F9) (e := by walk_at "my loc")
    have nd9 : Nd (x'.led w ((I, o8) :: R')) := Nd.permL (Nd.join oI8 nd8) St.headP
    have N10 : News g L h9 (x'.led w ((I, o8) :: R')) := News.permL N9 St.headP
    clear N9
    change wpS _ (A.deeper (lawEnv L fa cd)) (execs lawTurn (lawEnv L fa cd)) _ _
    with_reducible refine turn (n := n) (x7 := none) (x := x') (R := (I, o8) :: R') (rs := rs') S0 F9 N10 nd9 (ok8.mono fun p hp => List.mem_cons_of_mem _ hp) (by (first | lia | omega)) hz fun h10 tk10 x2 R2 rs2 p1 p2 p3 p4 p5 p6 ok10 hl10 sub F10 N10 nd10 => ?_
    obtain ⟨a, b, hab⟩ := List.append_of_mem (sub (I, o8) (.head _))
    subst hab
    obtain ⟨oI11, nd12⟩ := (Nd.permL nd10 St.cutP).split
    have hD2 : (D, listOf its 0) ∈ a ++ b := by
      have := sub _ (.tail _ hD)
      rcases List.mem_append.mp this with e | e
      · exact List.mem_append_left _ e
      · rcases List.mem_cons.mp e with e | e
        · exact absurd (congrArg Prod.fst e) (oI8.off (D, listOf its 0) (List.mem_append_right _ (List.mem_append_right _ (List.mem_append_right _ (List.mem_append_right _ hD)))))
        · exact List.mem_append_right _ e
    refine ⟨rfl, h10, tk10, _, _, rfl, F10, News.permL N10 St.cutP, x2, a ++ b, rs2, p1, p2, p3, p4, p5, p6, some (.int z tz), ok10.cut (I := I) hli.1 (fun p hp => ?_), by (first | lia | omega), hD2, rfl, rfl, nd12, oI11⟩
    rcases List.mem_append.mp hp with e | e
    · exact .inr (List.mem_append_left _ e)
    · rcases List.mem_cons.mp e with e | e
      · exact .inl e
      · exact .inr (List.mem_append_right _ e)
  · rintro m₁ news₁ h9 tk9 _ F9 N9
    show wpS _ _ (execs (_ :: []) _) _ _
    refine S_clean ?_
    walk_at "my steps"
    rename Fr g _ _ _ => F10
    exact h _ _ _ F10
/- part C35 -/
theorem wholeLaw (w : World) (s : Shared) (g : Heap) (L fa : Addr) (cd : Value) (sa : Addr) (its : Array Value) (ns : List Int) (S' : Site w (callerA.deeper (lawEnv L fa cd)) g L 30) (F : Fr g L s.heap (fun x => [(PySem.Str.ofString "script", Value.ref sa)].lookup x)) (hl : g.IsList sa its) (hi : IntsAre its.toList ns) (hlen : ns.length ≤ 63) :
      wpS (model PySem.Challenge.rw_jr0034_01.row.prog w) (callerA.deeper (lawEnv L fa cd)) (execs lawRec.body (lawEnv L fa cd)) (fun f s' => f = .ret (.bool true) ∧ ∃ m' h' tk', s' = { s with heap := h', toks := tk' } ∧ Fr g L h' m') s := by
  have S1 : Site w (callerA.deeper (lawEnv L fa cd)) g L (18 + 12) := S'
  refine start0 (n := 18) S1 F hl hi hlen fun h1 tk1 nu vs ms hms hml h0 F1 N1 => ?_
  refine start1 (n := 18) S1 F1 N1 hms hml h0 fun h2 tk2 sz tz hz0 hz1 F2 N2 => ?_
  with_reducible refine start2 (n := 18) (ms := ms) S1 F2 N2 hz0 hz1 fun h3 tk3 lr e2 nw r t1 t2 t3 tj hr hri hrt F3 N3 nd3 => ?_
  refine start3 (n := 18) S1 F3 N3 nd3 hr fun h4 tk4 mm mt b ot hb hbz hot hsm F4 N4 nd4 => ?_
  refine start4 (n := 18) S1 F4 N4 nd4 hr hb hbz hot hsm fun h5 tk5 x T x1 x2 x3 x4 x5 x6 x7 x8 x9 okF okT F5 N5 nd5 => ?_
  refine start5 (n := 18) S1 F5 N5 nd5 (.head _) hr hri hrt x3 x4 x5 x6 x7 x8 x9 ⟨okF.due, okF.cur, okF.rows.mono fun p hp => .tail _ (.tail _ hp)⟩ okT fun h6 tk6 x' R' ok sub F6 N6 nd6 => ?_
  refine lawLoop (n := 18) S1 F6 N6 nd6 ok (Nat.le_refl _) (sub _ (.tail _ (.head _))) hms hml h0 fun h7 tk7 m' F7 => ?_
  exact ⟨rfl, m', h7, tk7, rfl, F7⟩
theorem walk : WalkOf hd := main_of wholeLaw
/- part HD -/
end Mine
namespace Mine
def hdT.tw1743594536910853081 : Unit := ()
def hdT.tw16162941853711036183 : Unit := ()
def hdT.tw4476036477331449620 : Unit := ()
def hdT.tw2099304469547774156 : Unit := ()
def hdT.tw5100337038175710370 : Unit := ()
def hdT.tw14135771155940000022 : Unit := ()
def hdT.tw18130717086531243166 : Unit := ()
def hdT.tw3282193913366300933 : Unit := ()
def hdT.tw3154932998989693115 : Unit := ()
def hdT.tw11417774720625015196 : Unit := ()
def hdT.tw14689110479457818338 : Unit := ()
def hdT.tw12301605705503117334 : Unit := ()
def hdT.tw7506629604006075977 : Unit := ()
def hdT.tw15670875253111351066 : Unit := ()
def hdT.tw5604596863259938530 : Unit := ()
def hdT.tw15902368515024810717 : Unit := ()
def hdT.tw16364119444717739325 : Unit := ()
def hdT.tw3523916434977887104 : Unit := ()
def hdT.tw11673848817800129705 : Unit := ()
def hdT.tw1066655907184155469 : Unit := ()
def hdT.tw279229455494635177 : Unit := ()
def hdT.tw5259499215298897955 : Unit := ()
def hdT.tw8317748790123228767 : Unit := ()
def hdT.tw11372798963237433469 : Unit := ()
def hdT.tw4919105219394446106 : Unit := ()
def hdT.tw16108318809565218085 : Unit := ()
def hdT.tw4895140127428138000 : Unit := ()
def hdT.tw13135032373196411520 : Unit := ()
def hdT.tw11156275287357966263 : Unit := ()
def hdT.tw542248526100295013 : Unit := ()
def hdT.tw7219402886695632584 : Unit := ()
def hdT.tw13054363712787031859 : Unit := ()
def hdT.tw7201601642792764949 : Unit := ()
def hdT.tw13195987100727223770 : Unit := ()
def hdT.tw2315787472201323137 : Unit := ()
def hdT.tw4680045992198469983 : Unit := ()
def hdT.tw18100569989897730878 : Unit := ()
def hdT.tw1001932927927829641 : Unit := ()
def hdT.tw7750204729614750717 : Unit := ()
def hdT.tw683934152577371975 : Unit := ()
def hdT.tw9881428037870011887 : Unit := ()
def hdT.tw6975353774855479699 : Unit := ()
def hdT.tw6454614446495489824 : Unit := ()
def hdT.tw13075672575759723129 : Unit := ()
def hdT.tw18097265767344203094 : Unit := ()
def hdT.tw15363033733867052640 : Unit := ()
def hdT.tw12217529378293269236 : Unit := ()
def hdT.tw5989770250344729309 : Unit := ()
def hdT.tw1469108666565013507 : Unit := ()
def hdT.tw2783956855398936025 : Unit := ()
def hdT.tw13496584572515991429 : Unit := ()
def hdT.tw16411160818834565329 : Unit := ()
def hdT.tw10278784268148742078 : Unit := ()
def hdT.tw6381563940363135200 : Unit := ()
def hdT.tw16562503149466995831 : Unit := ()
def hdT.tw7361712229594404225 : Unit := ()
def hdT.tw6958645189134850556 : Unit := ()
def hdT.tw8641585120534172112 : Unit := ()
def hdT.tw9257927824111913287 : Unit := ()
def hdT.tw17456490922900562567 : Unit := ()
def hdT.tw14928136798684704974 : Unit := ()
def hdT.tw17982695594306778445 : Unit := ()
def hdT.tw11131275715287355575 : Unit := ()
def hdT.tw7942171668155527442 : Unit := ()
def hdT.tw3937244442570227343 : Unit := ()
def hdT.tw4805750459014103763 : Unit := ()
def hdT.tw9699336115117729930 : Unit := ()
def hdT.tw9095357839185793764 : Unit := ()
def hdT.tw10775545438231040131 : Unit := ()
def hdT.tw15781415185009098019 : Unit := ()
def hdT.tw14043705154278696030 : Unit := ()
def hdT.tw18227977749983114446 : Unit := ()
def hdT.tw13965410898340613445 : Unit := ()
def hdT.tw5747501506443722968 : Unit := ()
def hdT.tw6712877469516756738 : Unit := ()
def hdT.tw11437854503393051836 : Unit := ()
def hdT.tw13298019607888386524 : Unit := ()
def hdT.tw6089881760442619883 : Unit := ()
def hdT.tw6126834691248478450 : Unit := ()
def hdT.tw6722888759846166110 : Unit := ()
def hdT.tw10512983876303221748 : Unit := ()
def hdT.tw2897632379665089931 : Unit := ()
def hdT.tw9914334180009780790 : Unit := ()
def hdT.tw8862904055507789325 : Unit := ()
def hdT.tw14738332839276273773 : Unit := ()
def hdT.tw17704734469149224921 : Unit := ()
def hdT.tw9084411662588796295 : Unit := ()
def hdT.tw2597303081884382771 : Unit := ()
def hdT.tw6735879728937818129 : Unit := ()
def hdT.tw17110205108780911252 : Unit := ()
def hdT.tw14374489479828959890 : Unit := ()
def hdT.tw16169267508442259383 : Unit := ()
def hdT.tw103841106966163747 : Unit := ()
def hdT.tw185286079852928538 : Unit := ()
def hdT.tw1710166738094517644 : Unit := ()
def hdT.tw6408363902074713917 : Unit := ()
def hdT.tw10475928700771966044 : Unit := ()
def hdT.tw9571535370773033377 : Unit := ()
def hdT.tw2948353722112939280 : Unit := ()
def hdT.tw13789881293592654387 : Unit := ()
def hdT.tw10865885875968670224 : Unit := ()
def hdT.tw17570792280595983627 : Unit := ()
def hdT.tw4901701916038814030 : Unit := ()
def hdT.tw16911082514686179566 : Unit := ()
def hdT.tw10281885422764332917 : Unit := ()
def hdT.tw1363381414463380569 : Unit := ()
def hdT.tw14560644946258142183 : Unit := ()
def hdT.tw1176079322420180659 : Unit := ()
def hdT.tw17460586045901743480 : Unit := ()
def hdT.tw14184987369404498229 : Unit := ()
def hdT.tw2141031780377652736 : Unit := ()
def hdT.tw11015649899063884283 : Unit := ()
def hdT.tw822856507448853781 : Unit := ()
def hdT.tw17274611573127296362 : Unit := ()
def hdT.tw10194237121763327897 : Unit := ()
def hdT.tw8343146700199848716 : Unit := ()
def hdT.tw7118430192128766453 : Unit := ()
def hdT.tw12079561201602305451 : Unit := ()
def hdT.tw13645143491626055617 : Unit := ()
def hdT.tw10988130239496037820 : Unit := ()
def hdT.tw9458655423726856729 : Unit := ()
def hdT.tw17666093417056562162 : Unit := ()
def hdT.tw15706192859081561822 : Unit := ()
def hdT.tw14823433085943519800 : Unit := ()
def hdT.tw15786061811284279205 : Unit := ()
def hdT.tw12965636546680305311 : Unit := ()
def hdT.tw9063316141770240257 : Unit := ()
def hdT.tw7357894038608555523 : Unit := ()
def hdT.tw5340122980169538509 : Unit := ()
def hdT.tw10067355104075643275 : Unit := ()
def hdT.tw13667648759157132173 : Unit := ()
def hdT.tw7370714080064044178 : Unit := ()
def hdT.tw6033919521562791155 : Unit := ()
def hdT.tw16358887474051182817 : Unit := ()
def hdT.tw12513107966257316912 : Unit := ()
def hdT.tw92803350260385714 : Unit := ()
def hdT.tw16626288849920792520 : Unit := ()
def hdT.tw5755368545809505600 : Unit := ()
def hdT.tw2047077231110316048 : Unit := ()
def hdT.tw18425225725321503756 : Unit := ()
def hdT.tw1543731155930569881 : Unit := ()
def hdT.tw16899397432000394928 : Unit := ()
def hdT.tw11805960059324406283 : Unit := ()
def hdT.tw1285798067458324753 : Unit := ()
def hdT.tw14889336212933601618 : Unit := ()
def hdT.tw16922730983264970715 : Unit := ()
def hdT.tw6841577446531214128 : Unit := ()
def hdT.tw6455760386348682736 : Unit := ()
def hdT.tw13184737160273421960 : Unit := ()
def hdT.tw9101528482270316001 : Unit := ()
def hdT.tw11550254677324453141 : Unit := ()
def hdT.tw6016340665346597148 : Unit := ()
def hdT.tw8501830736991318821 : Unit := ()
def hdT.tw17904838590246713782 : Unit := ()
def hdT.tw4579577086566881272 : Unit := ()
def hdT.tw12823683342366667648 : Unit := ()
def hdT.tw1046303050538599212 : Unit := ()
def hdT.tw10765721606339117948 : Unit := ()
def hdT.tw13293429889846063270 : Unit := ()
def hdT.tw1959391839168329765 : Unit := ()
def hdT.tw378083904730610894 : Unit := ()
def hdT.tw15937438585856900970 : Unit := ()
def hdT.tw14577063617963707951 : Unit := ()
def hdT.tw15139554571385455295 : Unit := ()
def hdT.tw5476256833781881076 : Unit := ()
def hdT.tw8404949597763912559 : Unit := ()
def hdT.tw7378758851455175208 : Unit := ()
def hdT.tw11427050489749338305 : Unit := ()
def hdT.tw7039955194728326051 : Unit := ()
def hdT.tw14529177570932698710 : Unit := ()
def hdT.tw14851777919923771231 : Unit := ()
def hdT.tw6517722867670072411 : Unit := ()
def hdT.tw7977824130624017432 : Unit := ()
def hdT.tw4012522088078816110 : Unit := ()
def hdT.tw6134002508673835281 : Unit := ()
def hdT.tw3750821004556546318 : Unit := ()
def hdT.tw16489284681867142615 : Unit := ()
def hdT.tw15609716034131776777 : Unit := ()
def hdT.tw10759425804810152557 : Unit := ()
def hdT.tw8259725323803305940 : Unit := ()
def hdT.tw10637491067871093976 : Unit := ()
def hdT.tw13367441443243330751 : Unit := ()
def hdT.tw776152709372847384 : Unit := ()
def hdT.tw13943718228407289568 : Unit := ()
def hdT.tw5789553496708623366 : Unit := ()
def hdT.tw14550229436542405152 : Unit := ()
def hdT.tw10468062072056533275 : Unit := ()
def hdT.tw11541319093331784333 : Unit := ()
def hdT.tw5825364656412045018 : Unit := ()
def hdT.tw15941966535906006232 : Unit := ()
def hdT.tw2026564882714474611 : Unit := ()
def hdT.tw17035528155845151454 : Unit := ()
def hdT.tw18310924211212023898 : Unit := ()
def hdT.tw6670617395169278514 : Unit := ()
def hdT.tw1005338743208741551 : Unit := ()
def hdT.tw2465201272906389876 : Unit := ()
def hdT.tw14596787741471266818 : Unit := ()
def hdT.tw8346696010151329043 : Unit := ()
def hdT.tw17943681747480410696 : Unit := ()
def hdT.tw2346434553980085496 : Unit := ()
def hdT.tw2543978539304783637 : Unit := ()
def hdT.tw8420545781065954363 : Unit := ()
def hdT.tw10544611178586225868 : Unit := ()
def hdT.tw17840979056596484806 : Unit := ()
def hdT.tw14832296044313233530 : Unit := ()
def hdT.tw8503660711936515776 : Unit := ()
def hdT.tw4719937437743394932 : Unit := ()
def hdT.tw9462271027950759041 : Unit := ()
def hdT.tw14243908728459721612 : Unit := ()
def hdT.tw12257142217187598610 : Unit := ()
def hdT.tw14936380700840972334 : Unit := ()
def hdT.tw2873733111616625417 : Unit := ()
def hdT.tw2013409472790794623 : Unit := ()
def hdT.tw6646879331855590304 : Unit := ()
def hdT.tw7266376299009869524 : Unit := ()
def hdT.tw15894074919283784595 : Unit := ()
def hdT.tw12563112198918280810 : Unit := ()
def hdT.tw17154144827933080058 : Unit := ()
def hdT.tw10249303264208934864 : Unit := ()
def hdT.tw2132456725083282815 : Unit := ()
def hdT.tw15997896964119252480 : Unit := ()
def hdT.tw13786714389439647722 : Unit := ()
def hdT.tw12320029094706313238 : Unit := ()
def hdT.tw13511928953172602288 : Unit := ()
def hdT.tw11199705531422776145 : Unit := ()
def hdT.tw15649314382953645090 : Unit := ()
def hdT.tw9983460089433338982 : Unit := ()
def hdT.tw4870820990998705960 : Unit := ()
def hdT.tw3500045380929495133 : Unit := ()
def hdT.tw13271241176467474704 : Unit := ()
def hdT.tw12033344195343221276 : Unit := ()
def hdT.tw10212826435615706971 : Unit := ()
def hdT.tw1923917731997800541 : Unit := ()
def hdT.tw8072592181832140243 : Unit := ()
def hdT.tw14156971944580773197 : Unit := ()
def hdT.tw14339686620797904987 : Unit := ()
def hdT.tw12779001571807900022 : Unit := ()
def hdT.tw2500981849052796069 : Unit := ()
def hdT.tw17323566721633243856 : Unit := ()
def hdT.tw4306714477624967827 : Unit := ()
def hdT.tw16659000165413568518 : Unit := ()
def hdT.tw4473644792770490912 : Unit := ()
def hdT.tw16679067981958320292 : Unit := ()
def hdT.tw18323763663938697113 : Unit := ()
def hdT.tw1553361418407970481 : Unit := ()
def hdT.tw13038914319371988265 : Unit := ()
def hdT.tw6062054041289883069 : Unit := ()
def hdT.tw12360972160261386290 : Unit := ()
def hdT.tw1327509301673333715 : Unit := ()
def hdT.tw7475871208913492162 : Unit := ()
def hdT.tw8739099295787217745 : Unit := ()
def hdT.tw4042970992223234270 : Unit := ()
def hdT.tw12986058576653620508 : Unit := ()
def hdT.tw12351822775331109856 : Unit := ()
def hdT.tw6131459261266714361 : Unit := ()
def hdT.tw16061927722193772204 : Unit := ()
def hdT.tw614904304593535612 : Unit := ()
def hdT.tw9747532853796621756 : Unit := ()
def hdT.tw9655245656693899580 : Unit := ()
def hdT.tw11759856159870746441 : Unit := ()
def hdT.tw10010845322139352627 : Unit := ()
def hdT.tw14544301321182030741 : Unit := ()
def hdT.tw5856148982977898499 : Unit := ()
def hdT.tw6500145776929650466 : Unit := ()
def hdT.tw14390980076652992266 : Unit := ()
def hdT.tw8173607700945315544 : Unit := ()
def hdT.tw12016396987279823510 : Unit := ()
def hdT.tw18238355898598786330 : Unit := ()
def hdT.tw5144897212246035213 : Unit := ()
def hdT.tw3015681194108742775 : Unit := ()
def hdT.tw13218149750968122468 : Unit := ()
def hdT.tw3148966950799367373 : Unit := ()
def hdT.tw8852530127386481689 : Unit := ()
def hdT.tw9068879478100896929 : Unit := ()
def hdT.tw1041002507800964818 : Unit := ()
def hdT.tw10428136857845229736 : Unit := ()
def hdT.tw8065493402013126719 : Unit := ()
def hdT.tw18248651582587074862 : Unit := ()
def hdT.tw11757530532557608132 : Unit := ()
def hdT.tw2375206398539671207 : Unit := ()
def hdT.tw8326316056751524354 : Unit := ()
def hdT.tw3808180270531141879 : Unit := ()
def hdT.tw16150095853827848020 : Unit := ()
def hdT.tw3964741812652841094 : Unit := ()
def hdT.tw7482193001858790077 : Unit := ()
def hdT.tw10619363654360093604 : Unit := ()
def hdT.tw16134883265113472841 : Unit := ()
def hdT.tw18402769245516950960 : Unit := ()
def hdT.tw14682451217626634541 : Unit := ()
def hdT.tw3837135630182166146 : Unit := ()
def hdT.tw7399340436763251304 : Unit := ()
def hdT.tw4160381695852730747 : Unit := ()
def hdT.tw9605049027884111519 : Unit := ()
def hdT.tw3354442301435478463 : Unit := ()
def hdT.tw12387774662352885974 : Unit := ()
def hdT.tw7873442354669621758 : Unit := ()
def hdT.tw5691128966781905093 : Unit := ()
def hdT.tw3146396220367132296 : Unit := ()
def hdT.tw3953179481644070144 : Unit := ()
def hdT.tw2405699965061682348 : Unit := ()
def hdT.tw2436422211977766078 : Unit := ()
def hdT.tw708045295726102117 : Unit := ()
def hdT.tw6102591234981962261 : Unit := ()
def hdT.tw4882206569832762009 : Unit := ()
def hdT.tw14972248735013912518 : Unit := ()
def hdT.tw6648054533095916842 : Unit := ()
def hdT.tw7686422701275456138 : Unit := ()
def hdT.tw9119509293607635002 : Unit := ()
def hdT.tw9990210928843065123 : Unit := ()
def hdT.tw15089131379500936453 : Unit := ()
def hdT.tw13889473519594807482 : Unit := ()
def hdT.tw7561044058177157300 : Unit := ()
def hdT.tw15541911741645186728 : Unit := ()
def hdT.tw13060595092114332330 : Unit := ()
def hdT.tw8001199741054128350 : Unit := ()
def hdT.tw2159627914686711884 : Unit := ()
def hdT.tw2951386002248001958 : Unit := ()
def hdT.tw5806034029871757836 : Unit := ()
def hdT.tw2806393524482611236 : Unit := ()
def hdT.tw998887548121306513 : Unit := ()
def hdT.tw4117183145614516387 : Unit := ()
def hdT.tw8092666306467823078 : Unit := ()
def hdT.tw15241406090431451857 : Unit := ()
def hdT.tw13153322381789100428 : Unit := ()
def hdT.tw10173080693487543003 : Unit := ()
def hdT.tw11786815773050827325 : Unit := ()
def hdT.tw17279418265372097916 : Unit := ()
def hdT.tw13901490053756404744 : Unit := ()
def hdT.tw17278014667150443254 : Unit := ()
def hdT.tw8639440022213153879 : Unit := ()
def hdT.tw5493415599788509693 : Unit := ()
def hdT.tw9626081196716337632 : Unit := ()
def hdT.tw10711610238166011483 : Unit := ()
def hdT.tw13434923799626022156 : Unit := ()
def hdT.tw3661936358686036136 : Unit := ()
def hdT.tw2097802629581862470 : Unit := ()
def hdT.tw6324740212330344277 : Unit := ()
def hdT.tw16623138619976506330 : Unit := ()
def hdT.tw17204517880365750426 : Unit := ()
def hdT.tw446475844140859903 : Unit := ()
def hdT.tw6412721170132791065 : Unit := ()
def hdT.tw13190432942527766312 : Unit := ()
def hdT.tw14697747961488160826 : Unit := ()
def hdT.tw98075271140989712 : Unit := ()
def hdT.tw3680329325441293862 : Unit := ()
def hdT.tw6955748858972044763 : Unit := ()
def hdT.tw7084950837047997198 : Unit := ()
def hdT.tw2652420494882195381 : Unit := ()
def hdT.tw12524685317535892155 : Unit := ()
def hdT.tw1743478796703445569 : Unit := ()
def hdT.tw7410480008539292383 : Unit := ()
def hdT.tw9884355026049912583 : Unit := ()
def hdT.tw10883834579048636670 : Unit := ()
def hdT.tw13281160262870861691 : Unit := ()
def hdT.tw476896764602719412 : Unit := ()
def hdT.tw7963365950823558655 : Unit := ()
def hdT.tw6269800576724384367 : Unit := ()
def hdT.tw18243017937811348529 : Unit := ()
def hdT.tw6136093587156985215 : Unit := ()
def hdT.tw9383755259358098369 : Unit := ()
def hdT.tw11435658123040128006 : Unit := ()
def hdT.tw12669503823874496449 : Unit := ()
def hdT.tw17370461868930270551 : Unit := ()
def hdT.tw13102605487479191858 : Unit := ()
def hdT.tw14978029401855857091 : Unit := ()
def hdT.tw15604690081134836391 : Unit := ()
def hdT.tw13204161976637456802 : Unit := ()
def hdT.tw17346873251334927098 : Unit := ()
def hdT.tw9160942786681829764 : Unit := ()
def hdT.tw6418923982407956075 : Unit := ()
def hdT.tw1776274062459803214 : Unit := ()
def hdT.tw13572087799763237570 : Unit := ()
def hdT.tw1948666990017201687 : Unit := ()
def hdT.tw7404225678548197383 : Unit := ()
def hdT.tw6150976936601723337 : Unit := ()
def hdT.tw6620875393786368385 : Unit := ()
def hdT.tw8873467754133050205 : Unit := ()
def hdT.tw457585342618246847 : Unit := ()
def hdT.tw3305749480084898945 : Unit := ()
def hdT.tw14116893189291779112 : Unit := ()
def hdT.tw15338273020528510402 : Unit := ()
def hdT.tw17990951745574838045 : Unit := ()
def hdT.tw8797873527435561917 : Unit := ()
def hdT.tw14938264089971694646 : Unit := ()
def hdT.tw12313064947553493437 : Unit := ()
def hdT.tw1572057145254206533 : Unit := ()
def hdT.tw5074628755499229793 : Unit := ()
def hdT.tw12541584954729255465 : Unit := ()
def hdT.tw1566920424647158498 : Unit := ()
def hdT.tw5163333308569226706 : Unit := ()
def hdT.tw3519013304060778432 : Unit := ()
def hdT.tw16948914098618018369 : Unit := ()
def hdT.tw10322692437255734812 : Unit := ()
def hdT.tw11976874915213706559 : Unit := ()
def hdT.tw1892497086594246384 : Unit := ()
def hdT.tw6628020113012296143 : Unit := ()
def hdT.tw2027763147986355455 : Unit := ()
def hdT.tw16619460248487745004 : Unit := ()
def hdT.tw11624307389960985358 : Unit := ()
def hdT.tw17419156074687965551 : Unit := ()
def hdT.tw3691545737793461076 : Unit := ()
def hdT.tw12194875641299781416 : Unit := ()
def hdT.tw5929152466802282115 : Unit := ()
def hdT.tw1604004307016998346 : Unit := ()
def hdT.tw10439521527477894234 : Unit := ()
def hdT.tw3075648315715463794 : Unit := ()
def hdT.tw2520595883203713878 : Unit := ()
def hdT.tw16651234390879853358 : Unit := ()
def hdT.tw17684493538786419990 : Unit := ()
def hdT.tw2573676684247115121 : Unit := ()
def hdT.tw12214340855711000089 : Unit := ()
def hdT.tw12078823273170598061 : Unit := ()
def hdT.tw4326596812911890447 : Unit := ()
def hdT.tw18138672634151941913 : Unit := ()
def hdT.tw6011456627351739823 : Unit := ()
def hdT.tw617269760308790182 : Unit := ()
def hdT.tw4284608214837042114 : Unit := ()
def hdT.tw12942645491533211748 : Unit := ()
def hdT.tw9054821845631497969 : Unit := ()
def hdT.tw1759045066290804585 : Unit := ()
def hdT.tw9470199025548531795 : Unit := ()
def hdT.tw11687710423419705005 : Unit := ()
def hdT.tw15983779588726612320 : Unit := ()
def hdT.tw776734900397645373 : Unit := ()
def hdT.tw11756544793221312900 : Unit := ()
def hdT.tw2434466258176567166 : Unit := ()
def hdT.tw8586098045395995821 : Unit := ()
def hdT.tw16514091972170015177 : Unit := ()
def hdT.tw660219271244974385 : Unit := ()
def hdT.tw10080614041577044238 : Unit := ()
def hdT.tw5619491481767085419 : Unit := ()
def hdT.tw1559350885289867682 : Unit := ()
def hdT.tw7760847729004739588 : Unit := ()
def hdT.tw15595976923621643440 : Unit := ()
def hdT.tw15419372733056382389 : Unit := ()
def hdT.tw10036917896950967397 : Unit := ()
def hdT.tw855168499411000503 : Unit := ()
def hdT.tw7855729953441644567 : Unit := ()
def hdT.tw13508362850219849301 : Unit := ()
def hdT.tw4276992846007295418 : Unit := ()
def hdT.tw15513460198188007025 : Unit := ()
def hdT.tw5153904615180192362 : Unit := ()
def hdT.tw16660877896988103928 : Unit := ()
def hdT.tw2735428037448430824 : Unit := ()
def hdT.tw1843932490979021277 : Unit := ()
def hdT.tw17873790006769355236 : Unit := ()
def hdT.tw12634102005968315378 : Unit := ()
def hdT.tw15543842933211244073 : Unit := ()
def hdT.tw15503024994843384373 : Unit := ()
def hdT.tw6909686524076739110 : Unit := ()
def hdT.tw12953295867854242429 : Unit := ()
def hdT.tw12839877120325842763 : Unit := ()
def hdT.tw15699897154998860017 : Unit := ()
def hdT.tw6293537249065075018 : Unit := ()
def hdT.tw1145438229332021567 : Unit := ()
def hdT.tw7546123832575513691 : Unit := ()
def hdT.tw308856326611634325 : Unit := ()
def hdT.tw13845363747457403913 : Unit := ()
def hdT.tw11747024902356852549 : Unit := ()
def hdT.tw14477410685026519406 : Unit := ()
def hdT.tw3847893416258255458 : Unit := ()
def hdT.tw5853876167621158507 : Unit := ()
def hdT.tw9311056039789755042 : Unit := ()
def hdT.tw8766941176648348281 : Unit := ()
def hdT.tw12807591335219599141 : Unit := ()
def hdT.tw7460648067218526814 : Unit := ()
def hdT.tw8046985584504496282 : Unit := ()
def hdT.tw518114109976262218 : Unit := ()
def hdT.tw102660449159839505 : Unit := ()
def hdT.tw11001209747788500658 : Unit := ()
def hdT.tw3048625272048801309 : Unit := ()
def hdT.tw8567503031727373547 : Unit := ()
def hdT.tw8933809840192862964 : Unit := ()
def hdT.tw2625485059379306636 : Unit := ()
def hdT.tw4420862922631421675 : Unit := ()
def hdT.tw2264310253170993280 : Unit := ()
def hdT.tw1580787227658663736 : Unit := ()
def hdT.tw12693335245358512814 : Unit := ()
def hdT.tw6739956485725728979 : Unit := ()
def hdT.tw5260378216028650820 : Unit := ()
def hdT.tw6690937501477351658 : Unit := ()
def hdT.tw10937101298365751459 : Unit := ()
def hdT.tw10413290030777078302 : Unit := ()
def hdT.tw16661676742480009506 : Unit := ()
def hdT.tw13065430645502238488 : Unit := ()
def hdT.tw9476022492007706598 : Unit := ()
def hdT.tw12097682857056489229 : Unit := ()
def hdT.tw3470672704688877459 : Unit := ()
def hdT.tw1075420501288489189 : Unit := ()
def hdT.tw13877802309104239163 : Unit := ()
def hdT.tw1053057342741277391 : Unit := ()
def hdT.tw8049430661905582836 : Unit := ()
def hdT.tw1308745403456363181 : Unit := ()
def hdT.tw11018788065075084025 : Unit := ()
def hdT.tw13941434405423248975 : Unit := ()
def hdT.tw2332166447756793472 : Unit := ()
def hdT.tw18190383041204214644 : Unit := ()
def hdT.tw10734110473604000413 : Unit := ()
def hdT.tw7346947853037217097 : Unit := ()
def hdT.tw8597674654162788304 : Unit := ()
def hdT.tw13102114777984284480 : Unit := ()
def hdT.tw16177888989005199918 : Unit := ()
def hdT.tw3269817189063077766 : Unit := ()
def hdT.tw3055067098921867479 : Unit := ()
def hdT.tw7136564018072386347 : Unit := ()
def hdT.tw15585351579074516767 : Unit := ()
def hdT.tw1747257847226575806 : Unit := ()
def hdT.tw12475268420717446649 : Unit := ()
def hdT.tw8050950827777398048 : Unit := ()
def hdT.tw1368098252954153590 : Unit := ()
def hdT.tw13279870413759428154 : Unit := ()
def hdT.tw487194709873768154 : Unit := ()
def hdT.tw1268191746442894382 : Unit := ()
def hdT.tw2317740693662035978 : Unit := ()
def hdT.tw13764317736034591790 : Unit := ()
def hdT.tw14749652554219716343 : Unit := ()
def hdT.tw3114665982151778685 : Unit := ()
def hdT.tw9100184902824156547 : Unit := ()
def hdT.tw12981684361872513027 : Unit := ()
def hdT.tw9451025747531858059 : Unit := ()
def hdT.tw11048436554777996028 : Unit := ()
def hdT.tw2110733675783530212 : Unit := ()
def hdT.tw8125986697966438625 : Unit := ()
def hdT.tw11286671869160983514 : Unit := ()
def hdT.tw3120113681926121877 : Unit := ()
def hdT.tw4487434557544995915 : Unit := ()
def hdT.tw15260663562296954404 : Unit := ()
def hdT.tw7663180509135097439 : Unit := ()
def hdT.tw4478279841756930620 : Unit := ()
def hdT.tw5607320358360422370 : Unit := ()
def hdT.tw10618657522404741396 : Unit := ()
def hdT.tw3794940417139765988 : Unit := ()
def hdT.tw2578351281817413193 : Unit := ()
def hdT.tw14113409516418308985 : Unit := ()
def hdT.tw3163186264296576149 : Unit := ()
def hdT.tw8937378945868886277 : Unit := ()
def hdT.tw11438849694878761156 : Unit := ()
def hdT.tw13139216254927382609 : Unit := ()
def hdT.tw2178699043757754280 : Unit := ()
def hdT.tw8059042711464421741 : Unit := ()
def hdT.tw960050848766937271 : Unit := ()
def hdT.tw12896701216255168246 : Unit := ()
def hdT.tw10158975050279796663 : Unit := ()
def hdT.tw18146764690948789024 : Unit := ()
def hdT.tw3232902566179762624 : Unit := ()
def hdT.tw9988109110853653462 : Unit := ()
def hdT.tw11921933945238363750 : Unit := ()
def hdT.tw18241957777257879750 : Unit := ()
def hdT.tw15874489536405178614 : Unit := ()
def hdT.tw1015662721845049221 : Unit := ()
def hdT.tw14358304341664772782 : Unit := ()
def hdT.tw9007937751257014164 : Unit := ()
def hdT.tw123686674118195260 : Unit := ()
def hdT.tw1844310514217738646 : Unit := ()
def hdT.tw11317579533362982705 : Unit := ()
def hdT.tw16725842125655001164 : Unit := ()
def hdT.tw8958366324690311949 : Unit := ()
def hdT.tw6889086249523499052 : Unit := ()
def hdT.tw9429051258219011899 : Unit := ()
def hdT.tw13952589186035531799 : Unit := ()
def hdT.tw14646731528478996707 : Unit := ()
def hdT.tw2888049423600391730 : Unit := ()
def hdT.tw14793636826967330735 : Unit := ()
def hdT.tw9347353921567168070 : Unit := ()
def hdT.tw2420845466144198696 : Unit := ()
def hdT.tw3241106111546785190 : Unit := ()
def hdT.tw3569573548083652402 : Unit := ()
def hdT.tw15375215645309265019 : Unit := ()
def hdT.tw8448208942434106986 : Unit := ()
def hdT.tw13538150416244100956 : Unit := ()
def hdT.tw3130026600693219103 : Unit := ()
def hdT.tw11679227984046665637 : Unit := ()
def hdT.tw18157086518045136637 : Unit := ()
def hdT.tw4584557407448336657 : Unit := ()
def hdT.tw10166195152394021702 : Unit := ()
def hdT.tw17484115831290457604 : Unit := ()
def hdT.tw9044453912763272853 : Unit := ()
def hdT.tw1282731619024302628 : Unit := ()
def hdT.tw15578045932945952825 : Unit := ()
def hdT.tw12604221089893923323 : Unit := ()
def hdT.tw18142978766235501769 : Unit := ()
def hdT.tw3623382836928382511 : Unit := ()
def hdT.tw15245239720828614882 : Unit := ()
def hdT.tw167985071357648463 : Unit := ()
def hdT.tw4637192288282360748 : Unit := ()
def hdT.tw17644019301889704414 : Unit := ()
def hdT.tw9380053455917048403 : Unit := ()
def hdT.tw11458501801640361781 : Unit := ()
def hdT.tw8472439999578884724 : Unit := ()
def hdT.tw11714566110517299753 : Unit := ()
def hdT.tw1432046594818976388 : Unit := ()
def hdT.tw3786290960044989686 : Unit := ()
def hdT.tw12848851418496564332 : Unit := ()
def hdT.tw7825484699456415615 : Unit := ()
def hdT.tw13338845783058869467 : Unit := ()
def hdT.tw17155855487621836709 : Unit := ()
def hdT.tw16214489315169158900 : Unit := ()
def hdT.tw4383407420157449125 : Unit := ()
def hdT.tw9552418135779484783 : Unit := ()
def hdT.tw2657588340156428226 : Unit := ()
def hdT.tw9015241098177759933 : Unit := ()
def hdT.tw10323790414895024552 : Unit := ()
def hdT.tw17804484615444265320 : Unit := ()
def hdT.tw8698424893286483627 : Unit := ()
def hdT.tw222358611838573069 : Unit := ()
def hdT.tw1830728938623689242 : Unit := ()
def hdT.tw10202071882699297223 : Unit := ()
def hdT.tw14145074365520202611 : Unit := ()
def hdT.tw12332239120535128740 : Unit := ()
def hdT.tw2152687164418267720 : Unit := ()
def hdT.tw16003616904477165510 : Unit := ()
def hdT.tw15028613228254450480 : Unit := ()
def hdT.tw10515750818216680289 : Unit := ()
def hdT.tw9736829806540214903 : Unit := ()
def hdT.tw17156949415198633774 : Unit := ()
def hdT.tw13185223269041771558 : Unit := ()
def hdT.tw6096052327025629822 : Unit := ()
def hdT.tw12367187599949045917 : Unit := ()
def hdT.tw6987257369885776379 : Unit := ()
def hdT.tw816760262920538255 : Unit := ()
def hdT.tw11735543557094715807 : Unit := ()
def hdT.tw5409318470822155906 : Unit := ()
def hdT.tw1520117329010893095 : Unit := ()
def hdT.tw18339263457832828270 : Unit := ()
def hdT.tw17212982446460151239 : Unit := ()
def hdT.tw8224041156636738495 : Unit := ()
def hdT.tw14384018857657548324 : Unit := ()
def hdT.tw1994805565058289416 : Unit := ()
def hdT.tw8027916372720486466 : Unit := ()
def hdT.tw15986589184504527592 : Unit := ()
def hdT.tw13711046040431484001 : Unit := ()
def hdT.tw7407133789760533946 : Unit := ()
def hdT.tw2539720526774857002 : Unit := ()
def hdT.tw8943506571587402987 : Unit := ()
def hdT.tw1873386468875058060 : Unit := ()
def hdT.tw8250881577931313657 : Unit := ()
def hdT.tw9294019548499875384 : Unit := ()
def hdT.tw15460788182947458201 : Unit := ()
def hdT.tw12643286276921385653 : Unit := ()
def hdT.tw4478334040652372635 : Unit := ()
def hdT.tw17603631647825564964 : Unit := ()
def hdT.tw8750652063840231740 : Unit := ()
def hdT.tw14081329003077593056 : Unit := ()
def hdT.tw16531870463292877737 : Unit := ()
def hdT.tw1422925138140981434 : Unit := ()
def hdT.tw11636107060374798686 : Unit := ()
def hdT.tw10107192914230221782 : Unit := ()
def hdT.tw13745481164612088859 : Unit := ()
def hdT.tw8088496495341888229 : Unit := ()
def hdT.tw14441849217696572001 : Unit := ()
def hdT.tw11487036344001518079 : Unit := ()
def hdT.tw14239289350908617314 : Unit := ()
def hdT.tw4304556565346808723 : Unit := ()
def hdT.tw11459261865374864192 : Unit := ()
def hdT.tw15373800813920376587 : Unit := ()
def hdT.tw2247844110553814248 : Unit := ()
def hdT.tw2590165118902636919 : Unit := ()
def hdT.tw8116751731055428168 : Unit := ()
def hdT.tw2042762938286467980 : Unit := ()
def hdT.tw12038241232971039084 : Unit := ()
def hdT.tw6069086958997180844 : Unit := ()
def hdT.tw7378976414268029503 : Unit := ()
def hdT.tw14535055646236278548 : Unit := ()
def hdT.tw5165581774834855932 : Unit := ()
def hdT.tw7949111435810904832 : Unit := ()
def hdT.tw905587528695013960 : Unit := ()
def hdT.tw12530120557820931060 : Unit := ()
def hdT.tw7383831400874300713 : Unit := ()
def hdT.tw15994309253796730768 : Unit := ()
def hdT.tw16395373911868539363 : Unit := ()
def hdT.tw5798720885741911428 : Unit := ()
def hdT.tw14680936511344029933 : Unit := ()
def hdT.tw8697609910814775846 : Unit := ()
def hdT.tw1760258660891434357 : Unit := ()
def hdT.tw12153659471345884365 : Unit := ()
def hdT.tw6683267451252391723 : Unit := ()
def hdT.tw8845853409719386050 : Unit := ()
def hdT.tw4180767909326071356 : Unit := ()
def hdT.tw6340907260889010371 : Unit := ()
def hdT.tw16730996887124671439 : Unit := ()
def hdT.tw17281509130118850763 : Unit := ()
def hdT.tw15617995345080321057 : Unit := ()
def hdT.tw3437907633828208000 : Unit := ()
def hdT.tw5657525579230229757 : Unit := ()
def hdT.tw9531525317723489367 : Unit := ()
def hdT.tw16987890369639669891 : Unit := ()
def hdT.tw15478290568897951882 : Unit := ()
def hdT.tw5205668749297161461 : Unit := ()
def hdT.tw1307998178567594954 : Unit := ()
def hdT.tw9227535465733522349 : Unit := ()
def hdT.tw18329903030470619778 : Unit := ()
def hdT.tw9534325647766667915 : Unit := ()
def hdT.tw2921489290202636354 : Unit := ()
def hdT.tw10572733635573505725 : Unit := ()
def hdT.tw8296667696301474193 : Unit := ()
def hdT.tw11217382035824116924 : Unit := ()
def hdT.tw16614067421052205742 : Unit := ()
def hdT.tw5429872173572285534 : Unit := ()
def hdT.tw1066543892732998623 : Unit := ()
def hdT.tw13907023301156516989 : Unit := ()
def hdT.tw15649738087625292210 : Unit := ()
def hdT.tw11755220345028815485 : Unit := ()
def hdT.tw5502382909086503705 : Unit := ()
def hdT.tw12293168118825579695 : Unit := ()
def hdT.tw15966169735260121141 : Unit := ()
def hdT.tw11680981566860643967 : Unit := ()
def hdT.tw3652933058558730751 : Unit := ()
def hdT.tw2783002473615349720 : Unit := ()
def hdT.tw1016409337160901120 : Unit := ()
def hdT.tw5055731070195491554 : Unit := ()
def hdT.tw2658370714684252078 : Unit := ()
def hdT.tw2630498254398583971 : Unit := ()
def hdT.tw8058740734964580546 : Unit := ()
def hdT.tw7790660797244695241 : Unit := ()
def hdT.tw7853958019229731579 : Unit := ()
def hdT.tw824807754771498271 : Unit := ()
def hdT.tw4306564808082017633 : Unit := ()
def hdT.tw17615970304678335875 : Unit := ()
def hdT.tw7217518033528309941 : Unit := ()
def hdT.tw18135067806621036532 : Unit := ()
def hdT.tw4799336707676368658 : Unit := ()
def hdT.tw17008556930567598020 : Unit := ()
def hdT.tw4699266021141634843 : Unit := ()
def hdT.tw16808101064571166239 : Unit := ()
def hdT.tw12817492696408795699 : Unit := ()
def hdT.tw3424229145647276613 : Unit := ()
def hdT.tw2959161835317433322 : Unit := ()
def hdT.tw16707821526901707475 : Unit := ()
def hdT.tw2857486579997302598 : Unit := ()
def hdT.tw355996382856560000 : Unit := ()
def hdT.tw2139353334662462342 : Unit := ()
def hdT.tw1965936428634566924 : Unit := ()
def hdT.tw4527832340654653562 : Unit := ()
def hdT.tw16689321103079575415 : Unit := ()
def hdT.tw11725341453786465626 : Unit := ()
def hdT.tw17732004547103332221 : Unit := ()
def hdT.tw12097059370169897664 : Unit := ()
def hdT.tw1102789012699053714 : Unit := ()
def hdT.tw11542872704083187369 : Unit := ()
def hdT.tw15975467772437593770 : Unit := ()
def hdT.tw13329559452079177445 : Unit := ()
def hdT.tw13988915499686876603 : Unit := ()
def hdT.tw9761581780216786772 : Unit := ()
def hdT.tw8287701665231782586 : Unit := ()
def hdT.tw2421974210947943896 : Unit := ()
def hdT.tw15503895281595511207 : Unit := ()
def hdT.tw12528596615628285788 : Unit := ()
def hdT.tw17850443551450840944 : Unit := ()
def hdT.tw12476784377090588212 : Unit := ()
def hdT.tw512989020808680059 : Unit := ()
def hdT.tw8425876010081677758 : Unit := ()
def hdT.tw10176395992278642552 : Unit := ()
def hdT.tw551490835370666823 : Unit := ()
def hdT.tw4826709780904878789 : Unit := ()
def hdT.tw2231793398430435732 : Unit := ()
def hdT.tw1378004814817118474 : Unit := ()
def hdT.tw2452211869294023338 : Unit := ()
def hdT.tw12163744985405934773 : Unit := ()
def hdT.tw12431542053280375191 : Unit := ()
def hdT.tw14855939166130383842 : Unit := ()
def hdT.tw12616172019080302470 : Unit := ()
def hdT.tw7324589716685445584 : Unit := ()
def hdT.tw16559897199988454135 : Unit := ()
def hdT.tw2195608335200427237 : Unit := ()
def hdT.tw2847899997164225806 : Unit := ()
def hdT.tw15010457189144340986 : Unit := ()
def hdT.tw11613489809167172214 : Unit := ()
def hdT.tw8344245260858803287 : Unit := ()
def hdT.tw11400800689391800470 : Unit := ()
def hdT.tw16549196318746827350 : Unit := ()
def hdT.tw8054727372441204377 : Unit := ()
def hdT.tw9083635313989964351 : Unit := ()
set_option Elab.async true in
theorem hdT : PySem.Challenge.rw_jr0034_01.Holds := by
  w_on
  o_law
  k_head
  case hw => w_witness2
  exact walk
end Mine
theorem PySem.Challenge.cw_jr0034_01_holds : PySem.Challenge.rw_jr0034_01.Holds :=
  Mine.hdT

