import PyProof.Rows.All
import Wide.All
import OpenK.AllK
import Wide.FinOn
import Lean
import PySem.Challenge.RW_wn0113_01
set_option Elab.async false
set_option maxRecDepth 100000
set_option maxHeartbeats 4000000
open PySem PySem.W PyProof.Rows PySem.Calls PySem.Spec
-- MOm
local macro_rules | `(tactic| omega) => `(tactic| first | lia | omega +splitDisjunctions)

-- H1
namespace Mine

def hasCaller (acts : List (Code × Pos)) : Bool := acts.any fun c => match c.1 with | .builtin "claim.caller" _ => true | _ => false
def HC (Γ : PySem.Ctx) : Prop := ∀ p, hasCaller ((Γ.code, p) :: Γ.below) = true
def guarded {α : Type} (t alt : Sem α) : Sem α := .stack fun acts => if hasCaller acts = true then t else alt

def wpC {α : Type} (M : Model) (A : Around) (t : Sem α) (Q : α → Shared → Prop) (E : Value → Shared → Prop) (s : Shared) : Prop :=
  ∀ Γ p, Γ.In A → HC Γ → Sem.wp M Γ t (fun a _ s' => Q a s') (fun e _ s' => E e s') p s

theorem wpC_mono {α : Type} {M : Model} {A : Around} {t : Sem α} {Q Q' : α → Shared → Prop} {E E' : Value → Shared → Prop} {s : Shared} (h : wpC M A t Q E s)
    (hQ : ∀ a s, Q a s → Q' a s) (hE : ∀ e s, E e s → E' e s) : wpC M A t Q' E' s :=
  fun Γ p hΓ hc => Sem.wp_mono M Γ t (fun a _ s => hQ a s) (fun e _ s => hE e s) p s (h Γ p hΓ hc)

theorem hc_pos {Γ : PySem.Ctx} {p : Pos} (h : hasCaller ((Γ.code, p) :: Γ.below) = true) : HC Γ := fun q => by
  simp only [hasCaller, List.any_cons] at h ⊢
  exact h

theorem wpAny_guarded {α : Type} {M : Model} {A : Around} {t alt : Sem α} {Q : α → Shared → Prop} {E : Value → Shared → Prop} {s : Shared} (h : wpC M A t Q E s) (ha : wpAny M A alt Q E s) : wpAny M A (guarded t alt) Q E s := fun Γ p hΓ => by
  unfold guarded
  rw [Sem.wp_stack]
  split
  · exact h Γ p hΓ (hc_pos (by assumption))
  · exact ha Γ p hΓ

theorem guarded_step {w : World} {prog : Program} {t alt : Sem Fin} {s : Shared} (hs : s.asleep) (n : Nat) (o : Outcome) (s' : Shared)
    (h : schedN (denote table) prog w n (.single s ⟨guarded t alt, .builtin "claim.caller" {}, default, []⟩) = .halted o s') :
    ∃ m, schedN (denote table) prog w m (.single s ⟨t, .builtin "claim.caller" {}, default, []⟩) = .halted o s' := by
  cases n with
  | zero => cases h
  | succ n =>
    have e : step (denote table) prog w s ⟨guarded t alt, .builtin "claim.caller" {}, default, []⟩ = .go s ⟨t, .builtin "claim.caller" {}, default, []⟩ := by
      obtain ⟨a, b, c, d, e⟩ := s
      rfl
    rcases sstep_single (denote table) prog w s ⟨guarded t alt, .builtin "claim.caller" {}, default, []⟩ (by rfl) hs with q | q
    · rw [e] at q
      simp only [schedN, q, Step.lift] at h
      exact ⟨n, h⟩
    · rw [e] at q; cases q

theorem unguard {c : ClaimW} {tree : List Value → Sem Fin} {alt : Sem Fin} {defs kps : List Str} {writes : Bool}
    (H : c.HoldsOpenBy (fun vs => ⟨guarded (tree vs) alt, .builtin "claim.caller" {}, default, []⟩) defs kps writes) :
    c.HoldsOpenBy (fun vs => ⟨tree vs, .builtin "claim.caller" {}, default, []⟩) defs kps writes := by
  refine ⟨H.1, H.2.1, fun w => ⟨(H.2.2 w).1, fun s hs => ?_⟩⟩
  obtain ⟨s₀, h1, h2, s₁, h3, h4, h5, h6, h7⟩ := (H.2.2 w).2 s hs
  refine ⟨s₀, h1, h2, s₁, h3, h4, h5, h6, fun args hp hl ord ho => ?_⟩
  obtain ⟨vs, s₂, hlaid, n, o, s', hn, rest⟩ := h7 args hp hl ord ho
  have z : s₂.asleep := Shared.asleep_of_life (layAllW_rest _ _ _ hlaid).2.2.2 (Shared.asleep_of_life h3.2.1 (Shared.asleep_of_life (fence_lifeW h1) (AfterImport.life hs)))
  obtain ⟨m, hm⟩ := guarded_step z n o s' hn
  exact ⟨vs, s₂, hlaid, m, o, s', hm, rest⟩

abbrev WalkC (q : Program) (loose : List Str) (XP : (Str → Option Value) → Heap → Prop) (YP : World → Heap → Prop) (r : RowW) (d : DefRec) (kwd : List (Str × Expr)) (run : Value → List Value → Sem Value) : Prop :=
  ∀ (w : World) (s₀ s₁ : Shared) (mg mb : Str → Option Value), Ground q loose r.records XP w s₀ mg mb s₁.heap → YP w s₁.heap → ∀ (a : Addr) (o : Obj) (pm cd doc dV kV : Value), s₁.heap.get? a = some o →
    o.data = .func { docDef d.name d.params d.body d.scope pm cd doc with defaults := dV, kwdefaults := kV } → s₁.heap.CodeRec cd d.name → Dflts mg s₁.heap d.params kwd dV kV → mg d.name = some (.ref a) → s₁.gens = #[] →
    ∀ (args : List WData) (vals : List Value) (as : List Addr), r.claim.pre args = true → WData.layableAll args = true → ReadsAllW r.records (classAt s₀.heap) s₁.heap vals args as → WellAll w.params s₁.heap vals args → (∀ a ∈ as, (a == sysModules) = false) →
      GoodWG r.claim (classAt s₀.heap) (ExcName.means s₀.heap) args s₁ (.ok (.ret (.bool true))) s₁ ∧
      wpC (model r.prog w) callerA (run (.ref a) vals) (fun v s' => GoodWG r.claim (classAt s₀.heap) (ExcName.means s₀.heap) args s₁ (.ok (.ret v)) s')
        (fun e s' => GoodWG r.claim (classAt s₀.heap) (ExcName.means s₀.heap) args s₁ (.error e) s') s₁

theorem wp_bindS {α β : Type} {M : Model} {Γ : PySem.Ctx} {m : Sem α} {f : α → Sem β} {Q : β → Pos → Shared → Prop} {E : Value → Pos → Shared → Prop} {p : Pos} {s : Shared}
    (h : Sem.wp M Γ m (fun a p' s' => Sem.wp M Γ (f a) Q E p' s') E p s) : Sem.wp M Γ (m >>= f) Q E p s := by
  rw [Sem.wp_bind']; exact h

theorem PySem.W.holds_open {r : OpenRow} {q : Program} {loose : List Str} {Xt : Shared → Bool} {XP : (Str → Option Value) → Heap → Prop} {α : Type} {Yf : Shared → α} {Ya : World → α} {YP : World → Heap → Prop} {d : DefRec} {kwd : List (Str × Expr)} {N : Nat}
    (left : LeftO r.prog q loose Xt Yf Ya N) (hY : ∀ w s, Yf s = Ya w → YP w s.heap) (hYk : ∀ w h h', YP w h → (∀ b o, h.get? b = some o → h'.get? b = some o) → YP w h')
    (hX : ∀ s, Xt s = true → XP (s.heap.nsMap mainGlobals) s.heap) (hXk : ∀ mg h h', XP mg h → (∀ b o, h.get? b = some o → h'.get? b = some o) → XP mg h')
    (hdef : defOf q r.name = some (d, kwd)) (hp : r.prog.theDef r.name = some (d.params, d.body, d.scope)) (hk : kwWritten? d.params.kwonlyargs d.params.kw_defaults = some kwd) (hRf : ∀ s, Xt s = true → RecFacts r.records s.heap) (hwr : (!r.writes || r.records.isEmpty) = true)
    (k1 : r.wellSaid = true) (ok : (chainsOk q && opensWell r.prog && (frees r.toRowW && r.within.isEmpty)) = true) (hb : r.prog.bare) (hw : r.toRowW.promised)
    (call : WalkC q loose XP YP r.toRowW d kwd fun f vs => PySem.call f vs) : r.Holds := by
  refine ⟨k1, hw, unguard (alt := pure (.done (.ret (.bool true)))) (open_anyG (r := r.toRowW) (run := fun f vs => guarded (PySem.call f vs) (pure (.bool true))) left hY hYk hX hXk hRf hwr ok hb hw
    (fun vs w s mg f Q E hg hf h => ?_) (fun w s hg G n hn => ?_) fun w s₀ s₁ mg mb G Y args vs as hpre hlay L low => ?_)⟩
  · intro Γ p hΓ
    have hh := h Γ p hΓ
    unfold guarded at hh ⊢
    rw [Sem.wp_stack] at hh ⊢
    split at hh
    · rename_i hc
      rw [if_pos hc]
      have h1 : wpAny (model r.prog w) callerA (nsGet mainNs r.name) (fun v s' => v = some f ∧ s' = s) E s := wpAny_nsGet hg ⟨hf, rfl⟩
      refine wp_bindS ?_
      refine Sem.wp_mono _ _ _ (fun a p' s' hx => ?_) (fun _ _ _ x => x) _ _ (h1 Γ p hΓ)
      obtain ⟨rfl, rfl⟩ := hx
      refine wp_bindS ?_
      have h2 := h Γ p' hΓ
      unfold guarded at h2
      rw [Sem.wp_stack, if_pos (hc_pos hc p')] at h2
      exact Sem.wp_mono _ _ _ (fun _ _ _ x => x) (fun _ _ _ x => x) _ _ h2
    · rename_i hc
      rw [if_neg hc]
      exact hh
  · obtain rfl : n = r.name := by split at hn <;> simp_all
    exact pinned_of_view hg G hdef hp hk
  · obtain ⟨a, o, pm, cd, doc, dV, kV, h1, h2, h3, h4, h5⟩ := G.fn hdef
    obtain ⟨g0, g⟩ := call w s₀ s₁ mg mb G Y a o pm cd doc dV kV h2 h3 h4 h5 (defOf_name hdef ▸ h1) L.gens args vs as hpre hlay L.reads L.well (L.low low)
    exact ⟨.ref a, h1, wpAny_guarded g (wpAny_pure g0)⟩
end Mine

-- Hd3
namespace Mine
abbrev pX : Program := Challenge.rw_wn0113_01.row.toRowW.prog
theorem LeftO.of_whole {p q : Program} {loose : List Str} {Xt : Shared → Bool} {α : Type} {Yf : Shared → α} {Ya : World → α} {N : Nat} {g0 : Bool} {H₀ : Params → Heap} {gs₀ : Array GenState} {d₀ : Drawn} {k₀ : Nat} {m₀ : Nat} {ann : Option Value}
    (open_ : ∀ w : World, (fencedOpening treeTable p w N).map (fun s => (s.heap, s.gens, s.drawn, s.toks)) = some (H₀ w.params, gs₀, d₀, k₀))
    (size : ∀ w : World, ((H₀ w.params).isNs mainGlobals && gs₀.size == 0, (H₀ w.params).objs.size, (H₀ w.params).nsMap mainGlobals "__annotations__") = (true, m₀, ann))
    (run : ∀ w : World, (fun os => (topRun treeTable p w m₀ ann N ⟨H₀ w.params, gs₀, d₀, k₀, os⟩ (topStub p)).map fun s => (staticsOk (importedModules p.main.body) (H₀ w.params) s.heap && namesBound p s.heap && gensDone s && laidKept (H₀ w.params) s.heap, openSeen q loose (importedModules p.main.body) Xt g0 s, Yf s)) = fun _ => some (true, openGood q loose, Ya w)) : LeftO p q loose Xt Yf Ya N g0 := fun w => by
  obtain ⟨⟨h, gs, d, k, os⟩, e, e'⟩ := Option.map_eq_some_iff.mp (open_ w)
  obtain ⟨rfl, rfl, rfl, rfl⟩ : h = H₀ w.params ∧ gs = gs₀ ∧ d = d₀ ∧ k = k₀ := by simpa using e'
  obtain ⟨z1, z2, z3⟩ : _ ∧ _ ∧ _ := by simpa only [Prod.mk.injEq] using size w
  obtain ⟨s₁, r, l⟩ := Option.map_eq_some_iff.mp (congrFun (run w) os)
  obtain ⟨l1, l2, l3⟩ : _ ∧ _ ∧ _ := by simpa only [Prod.mk.injEq] using l
  have t : topFrom treeTable p w N ⟨H₀ w.params, gs, d, k, os⟩ = some s₁ := by
    unfold topFrom
    dsimp only
    rw [z1, z2, z3, r]
    show (match staticsOk (importedModules p.main.body) (H₀ w.params) s₁.heap && namesBound p s₁.heap && gensDone s₁ && laidKept (H₀ w.params) s₁.heap with | true => _ | false => _) = _
    rw [l1]
  unfold openEnds
  rw [e]
  show (topFrom treeTable p w N _).map _ = _
  rw [t]
  exact congrArg some (Prod.ext l2 l3)
def vX : Program := { pX with main := { pX.main with body := (pX.main.body.drop 4).take 1 ++ (pX.main.body.drop 28).take 1 } }
def lX : List Str := ["Whitespace", "_wall", "NannyNag", "Error", "error_reply", "error_proto", "parse229", "parse257", "_raise_serialization_error", "_escape_cdata", "_escape_attrib", "_escape_attrib_html", "_escape_cdata_c14n", "_escape_attrib_c14n",
  "_law_cells", "_law_table", "_law_written", "_law_reply", "_law_lead", "_law_words", "_law_drawn", "_law_answer", "_law_checked"]
theorem openX : ∀ w : World, (fencedOpening treeTable pX w 5000).map (fun s => (s.heap, s.gens, s.drawn, s.toks)) = some (boot_heap w.params, Array.mk [], boot_drawn, boot_toks) :=
  boot_open (by kernel_rfl) (by decide +kernel) (fun s => by kernel_rfl)

theorem sizeX : ∀ w : World, ((boot_heap w.params).isNs mainGlobals && (Array.mk [] : Array GenState).size == 0, (boot_heap w.params).objs.size, (boot_heap w.params).nsMap mainGlobals "__annotations__") = (true, 11, some (.ref 6)) := fun w => by kernel_rfl

noncomputable def topRunT (tb : String → Option Builtin) (p : Program) (w : World) (n₀ : Nat) (ann : Option Value) : Nat → SharedT → Thread → Option SharedT
  | 0, _, _ => none
  | n + 1, s, t => match through t with
    | true => some s
    | false => match stepOk n₀ ann t with
      | false => none
      | true => match stepT (denote tb) p w s t with
        | some (s', t') => topRunT tb p w n₀ ann n s' t'
        | none => none
theorem topRun_of {tb : String → Option Builtin} {p : Program} {w : World} {n₀ : Nat} {ann : Option Value} : ∀ {n : Nat} {s s' : SharedT} {t : Thread}, topRunT tb p w n₀ ann n s t = some s' → topRun tb p w n₀ ann n s.abs t = some s'.abs
  | 0, _, _, _, h => by cases h
  | n + 1, s, s', t, h => by
    unfold topRunT at h
    unfold topRun
    cases he : through t with
    | true => rw [he] at h; cases h; rfl
    | false =>
      rw [he] at h
      cases hk : stepOk n₀ ann t with
      | false => rw [hk] at h; cases h
      | true =>
        rw [hk] at h
        cases hs : stepT (denote tb) p w s t with
        | none => rw [hs] at h; cases h
        | some r => obtain ⟨s₂, t₂⟩ := r; rw [hs] at h; rw [stepT_spec hs]; exact topRun_of h
noncomputable def bootT (P : Params) : BT :=
  .node (boot_o_0 P) (.node (boot_o_1 P) (.node (boot_o_3 P) (.node (boot_o_7 P) .nil .nil) .nil) (.node (boot_o_5 P) (.node (boot_o_9 P) .nil .nil) .nil)) (.node (boot_o_2 P) (.node (boot_o_4 P) (.node (boot_o_8 P) .nil .nil) .nil) (.node (boot_o_6 P) (.node (boot_o_10 P) .nil .nil) .nil))
theorem boot_abs (P : Params) : absHeap (bootT P) 11 {} = boot_heap P := by kernel_rfl
noncomputable def topRunF (p : Program) (w : World) (n₀ : Nat) (ann : Option Value) : Nat → SharedT → Thread → Option SharedT
  | 0, _, _ => none
  | n + 1, s, t => match through t with
    | true => some s
    | false => match Fast.tw6613529449190102663 n₀ ann t with
      | false => none
      | true => match Fast.tw10156331382660048174 (Fast.tw11892475500146522536 Fast.tw14364793385576792824) p w s t with
        | some (s', t') => topRunF p w n₀ ann n s' t'
        | none => none
theorem topRunF_eq {p : Program} {w : World} {n₀ : Nat} {ann : Option Value} : ∀ {n : Nat} {s : SharedT} {t : Thread}, topRunF p w n₀ ann n s t = topRunT treeTable p w n₀ ann n s t
  | 0, _, _ => rfl
  | n + 1, s, t => by
    unfold topRunF topRunT
    simp only [topRunF_eq]
    rw [← Fast.te6613529449190102663, ← Fast.te10156331382660048174, ← Fast.te11892475500146522536, ← Fast.te14364793385576792824]
noncomputable def runT (w : World) (os : OsState) : Option SharedT := topRunF pX w 11 (some (.ref 6)) 5000 ⟨bootT w.params, 11, {}, Array.mk [], boot_drawn, boot_toks, os⟩ (topStub pX)
noncomputable def sX {α : Type} (Xt : Shared → Bool) (Yf : Shared → α) (w : World) := fun (os : OsState) => (runT w os).map fun s => (staticsOk (importedModules pX.main.body) (boot_heap w.params) s.abs.heap && namesBound pX s.abs.heap && gensDone s.abs && laidKept (boot_heap w.params) s.abs.heap,
  Fast.tw4187177175401517315 vX lX (importedModules pX.main.body) Xt true s.abs, Yf s.abs)
theorem leftX {α : Type} {Xt : Shared → Bool} {Yf : Shared → α} {Ya : World → α} (h : ∀ (b : Bool) (w : World), sX Xt Yf (w.withFollow "special-get-raises" b) = fun _ => some (true, openGood vX lX, Ya (w.withFollow "special-get-raises" b))) : LeftO pX vX lX Xt Yf Ya 5000 :=
  LeftO.of_whole openX sizeX (fun w => by
    have q : sX Xt Yf w = fun _ => some (true, openGood vX lX, Ya w) := byRow2 "special-get-raises" (P := fun w => sX Xt Yf w = fun _ => some (true, openGood vX lX, Ya w)) (h false) (h true) w
    funext os
    obtain ⟨s', e1, e2⟩ := Option.map_eq_some_iff.mp (congrFun q os)
    rw [← Fast.te4187177175401517315] at e2
    have e3 := topRun_of (topRunF_eq.symm.trans e1)
    have e4 : (SharedT.abs ⟨bootT w.params, 11, {}, Array.mk [], boot_drawn, boot_toks, os⟩) = ⟨boot_heap w.params, Array.mk [], boot_drawn, boot_toks, os⟩ := by unfold SharedT.abs; rw [boot_abs]
    rw [e4] at e3
    rw [e3]
    exact congrArg some e2)
end Mine
theorem Mine.setO1 : True := by
  k_with "o law" => (refine holds_law ?said0 fun _ => ?_; (case said0 => decide +kernel))
  trivial
local macro_rules | `(tactic| o_law) => `(tactic| k_extra "o law")
theorem Mine.setO2 : True := by
  k_with "o head" => (refine' Mine.PySem.W.holds_open (q := Mine.vX) (loose := Mine.lX) (Xt := fun s => xlAt Mine.vX [] s && recOk (RowW.records (OpenRow.toRowW Challenge.rw_wn0113_01.row)) s) (XP := XL Mine.vX []) (Yf := Hook.obs ?hookH) (Ya := Hook.val ?hookH) (YP := Hook.says ?hookH) (N := 5000) ?hl (Hook.of ?hookH) (Hook.keeps ?hookH) (fun s e => xl_of s (Bool.and_eq_true_iff.mp e).1) XL.keeps ?rA ?rB ?rC (fun s e => recFacts_of (Bool.and_eq_true_iff.mp e).2) ?rD ?rE ?rF ?rG ?hw ?hc; (case hookH => k_extra "o hook"); (case rA => rfl); (case rB => rfl); (case rC => rfl); (case rD => rfl); (case rE => assumption); (case rF => decide +kernel); (case rG => exact ⟨rfl, rfl, rfl, rfl, rfl, by decide +kernel⟩); (case hl => (refine Mine.leftX fun b w => ?_; (cases b <;> kernel_rfl))))
  trivial
local macro_rules | `(tactic| o_head $H) => `(tactic| ((k_with "o hook" => exact $H); k_extra "o head"))
namespace Mine
open_top hd for PySem.Challenge.rw_wn0113_01
theorem setTop : True := by
  w_top off
  k_with_none
  trivial
end Mine

-- WC
namespace Mine
noncomputable def HB (Γ : PySem.Ctx) : Prop := hasCaller Γ.below = true
theorem HC.of_HB {Γ : PySem.Ctx} (h : HB Γ) : HC Γ := fun p => by
  unfold hasCaller
  rw [List.any_cons, Bool.or_eq_true]
  exact .inr h
theorem HC.enter {Γ : PySem.Ctx} (h : HC Γ) (c : Code) (hd : Option Value) (p : Pos) : HB (Γ.enter c hd p) := h p

noncomputable def codeC (M : Model) (A : Around) (c : Code) (R : Result → Shared → Prop) (s : Shared) : Prop :=
  ∀ Γ p, Γ.code = c → Γ.Below A → HB Γ → wpCode M Γ R p s

section
variable {α β : Type} {M : Model} {A : Around} {E : Value → Shared → Prop} {s : Shared}
theorem wpC_any {t : Sem α} {Q : α → Shared → Prop} (h : wpAny M A t Q E s) : wpC M A t Q E s := fun Γ p hΓ _ => h Γ p hΓ
theorem codeC_any {c : Code} {R : Result → Shared → Prop} (h : codeAny M A c R s) : codeC M A c R s := fun Γ p hc hΓ _ => h Γ p hc hΓ
theorem codeC_mono {c : Code} {R R' : Result → Shared → Prop} (h : codeC M A c R s) (hR : ∀ r s, R r s → R' r s) : codeC M A c R' s :=
  fun Γ p hc hΓ hb => wpCode_mono hR (h Γ p hc hΓ hb)
theorem wpC_bind {m : Sem α} {f : α → Sem β} {Q : β → Shared → Prop} (h : wpC M A m (fun a s' => wpC M A (f a) Q E s') E s) : wpC M A (m >>= f) Q E s := fun Γ p hΓ hc => by
  rw [Sem.wp_bind']
  exact Sem.wp_mono M Γ m (fun a p' s' h' => h' Γ p' hΓ hc) (fun _ _ _ h' => h') p s (h Γ p hΓ hc)
theorem wpC_step {m : Sem α} {f : α → Sem β} {Q : β → Shared → Prop} (h : wpAny M A m (fun a s' => wpC M A (f a) Q E s') E s) : wpC M A (m >>= f) Q E s := wpC_bind (wpC_any h)
theorem wpC_pure {a : α} {Q : α → Shared → Prop} (h : Q a s) : wpC M A (pure a) Q E s := fun _ _ _ _ => h
theorem wpC_onRaise {m : Sem α} {k : Value → Sem Unit} {Q : α → Shared → Prop}
    (h : wpC M A m Q (fun e s' => wpC M A (k e) (fun _ s'' => E e s'') E s') s) : wpC M A (m.onRaise k) Q E s := fun Γ p hΓ hc => by
  rw [Sem.wp_onRaise]
  exact Sem.wp_mono M Γ m (fun _ _ _ h' => h') (fun e p' s' h' => h' Γ p' hΓ hc) p s (h Γ p hΓ hc)
theorem wpC_attempt {m : Sem α} {Q : Except Value α → Shared → Prop} (h : wpC M A m (fun a => Q (.ok a)) (fun e => Q (.error e)) s) : wpC M A m.attempt Q E s :=
  fun Γ p hΓ hc => by rw [Sem.wp_attempt]; exact h Γ p hΓ hc
theorem wpC_holding {vs : List Value} {m : Sem α} {Q : α → Shared → Prop} (h : wpC M A m Q E s) : wpC M A (holding vs m) Q E s :=
  fun Γ p hΓ hc => by rw [Sem.wp_holding]; exact h Γ p hΓ hc
theorem wpC_keep {vs : List Value} {m : Sem α} {Q : α → Shared → Prop} (h : wpC M A m Q E s) : wpC M A (m.keep vs) Q E s :=
  fun Γ p hΓ hc => by rw [Sem.wp_keep]; exact h Γ p hΓ hc
theorem wpC_operate {vs : List Value} {m : Sem Value} {Q : Value → Shared → Prop} (h : wpC M A m Q E s) : wpC M A (operate vs m) Q E s :=
  fun Γ p hΓ hc => by rw [Sem.wp_operate]; exact h Γ p hΓ hc
theorem wpC_run {c : Code} {h : Option Value} {Q : Flow → Shared → Prop}
    (hc : codeC M (A.mark h) c (fun r s' => match r with | .ok f => Q f s' | .error e => E e s') s) (hnb : h ≠ some byPass := by intro x; cases x) : wpC M A (run c h) Q E s :=
  fun Γ p hΓ hb => by rw [Sem.wp_run]; exact hc _ p rfl (hΓ.enter c h p hnb) (hb.enter c h p)
theorem wpC_runValue {c : Code} {Q : Value → Shared → Prop}
    (hc : codeC M A c (fun r s' => match r with | .ok (.ret v) => Q v s' | .ok _ => False | .error e => E e s') s) : wpC M A (runValue c) Q E s :=
  fun Γ p hΓ hb => by rw [Sem.wp_runValue]; exact hc _ p rfl (hΓ.enter c none p (by intro x; cases x)) (hb.enter c none p)
theorem wpC_call {f : Value} {pos : List Value} {kw : List (Str × Value)} {Q : Value → Shared → Prop}
    (hc : codeC M A (.call f ⟨pos, kw⟩) (fun r s' => match r with | .ok (.ret v) => Q v s' | .ok _ => False | .error e => E e s') s) : wpC M A (call f pos kw) Q E s := wpC_runValue hc
theorem codeC_of_tree {c : Code} {R : Result → Shared → Prop}
    (h : wpC M (A.under c) (M.den c) (fun fin s' => match fin with | .done f => R (.ok f) s' | .again c' => c'.quiet = true ∧ codeC M A c' R s') (fun e s' => R (.error e) s') s) : codeC M A c R s := fun Γ p hc hΓ hb => by
  rw [wpCode_iff_wp, hc]
  refine Sem.wp_mono M Γ _ (fun fin p' s' h' => ?_) (fun _ _ _ h' => h') p s (h Γ p (hc ▸ hΓ.in) (HC.of_HB hb))
  cases fin with
  | done f => exact h'
  | again c' => exact ⟨h'.1, h'.2 (Γ.goto c') p' rfl (hΓ.goto c') hb⟩
theorem codeC_loop {c : Code} {R : Result → Shared → Prop} (hq : c.quiet = true) (I : Nat → Shared → Prop)
    (turn : ∀ n s, I n s → wpC M (A.under c) (M.den c)
      (fun fin s' => match fin with
        | .done f => R (.ok f) s'
        | .again c' => (c' = c ∧ ∃ m, m < n ∧ I m s') ∨ (c'.quiet = true ∧ codeC M A c' R s')) (fun e s' => R (.error e) s') s)
    (n : Nat) (h : I n s) : codeC M A c R s := by
  induction n using Nat.strongRecOn generalizing s with
  | ind n ih =>
    refine codeC_of_tree (wpC_mono (turn n s h) (fun fin s' hf => ?_) fun _ _ h' => h')
    cases fin with
    | done f => exact hf
    | again c' =>
      rcases hf with ⟨rfl, m, hm, hI⟩ | hf
      · exact ⟨hq, ih m hm hI⟩
      · exact hf
end

section
variable {prog : Program} {w : World} {A : Around} {E : Value → Shared → Prop} {s : Shared} {R : Result → Shared → Prop} {env : Env}
theorem codeC_func {body : List Stmt}
    (h : wpC (model prog w) (A.deeper env) (execs body env) (fun f s' => R (.ok (.ret (match f with | .ret v => v | _ => .none))) s')
      (fun e s' => wpAny (model prog w) (A.deeper env) (leaving env e) (fun _ s'' => R (.error e) s'') (fun e' s'' => R (.error e') s'') s') s) :
    codeC (model prog w) A (.func body env) R s := by
  refine codeC_of_tree ?_
  show wpC _ (A.deeper env) (do point; match ← (execs body env).onRaise (leaving env) with | .ret v => ret v | _ => ret .none) _ _ s
  refine wpC_step (wpAny_point (wpC_bind (wpC_onRaise (wpC_mono h (fun f s' h' => ?_) fun _ _ h' => wpC_any h'))))
  cases f <;> exact wpC_pure h'

theorem codeC_call_def {a : Addr} {o : Obj} {fd : FuncData} {body : List Stmt} {args : Args} {binds : List (Str × Value)}
    (hroom : A.depth < recursionLimit) (ho : s.heap.get? a = some o) (hdata : o.data = .func fd) (hlim : s.heap.NoLimit) (hcd : s.heap.CodeRec fd.code fd.qualname)
    (hbody : fd.body = .stmts body) (hbind : BindsTo s fd args binds)
    (hcell : ∀ x ∈ fd.scope.names, x.2 ≠ .cell) (hloc : ∀ x ∈ binds, fd.scope.names.lookup x.1 = some .local)
    (h : ∀ h₀, h₀.Ns s.heap.objs.size (fun x => binds.reverse.lookup x) → (∀ b o, s.heap.get? b = some o → h₀.get? b = some o) →
      wpC (model prog w) (A.deeper (callEnv fd s.heap.objs.size a)) (execs body (callEnv fd s.heap.objs.size a)) (fun f s' => R (.ok (.ret (match f with | .ret v => v | _ => .none))) s')
        (fun e s' => wpAny (model prog w) (A.deeper (callEnv fd s.heap.objs.size a)) (leaving (callEnv fd s.heap.objs.size a) e) (fun _ s'' => R (.error e) s'') (fun e' s'' => R (.error e') s'') s')
        { s with heap := h₀, toks := s.toks + binds.length })
    (hco : fd.scope.isCoroutine = false := by rfl) (hgen : fd.scope.isGenerator = false := by rfl) (hk : fd.scope.kind = .function := by rfl) :
    codeC (model prog w) A (.call (.ref a) args) R s := by
  refine codeC_of_tree ?_
  show wpC _ A.in1 (callAny (.ref a) args) _ _ s
  simp only [callAny]
  refine wpC_step (wpAny_load ho ?_)
  obtain ⟨c, oc, vs, tq, hc, hoc, hdc, hq⟩ := hcd
  simp only [hdata, callFunction, hco, hgen, hbody, hc]
  refine wpC_step (m := field (.ref c) 1) (wpAny_field hoc hdc hq ?_)
  refine wpC_step (wpAny_pure ?_)
  have hcd' : s.heap.CodeRec (.ref c) fd.qualname := ⟨c, oc, vs, tq, rfl, hoc, hdc, hq⟩
  rw [← hc]
  refine wpC_step (hbind _ _ _ _ ?_)
  refine wpC_step (wpAny_newFunctionEnv hcell hloc (fun h₀ hns₀ hsb₀ => ?_) hk)
  refine wpC_step (wpAny_enterFrame (hlim.fresh _ hsb₀) hroom ?_)
  refine wpC_pure ⟨rfl, codeC_func ?_⟩
  have q := h h₀ hns₀ fun b o e => hsb₀.extBut b o (Nat.ne_of_lt (Heap.lt_size e)) (Heap.get?_push_of_some _ e)
  exact q
end
end Mine

-- WI
namespace Mine
theorem caller_calls {own : List String} {acts : List (Code × Pos)} (h : hasCaller acts = true) : pythonCodeMadeTheCall own (acts.map (·.1)) = false := by
  have e : ∀ (a b c : Bool), a = true → ((!a && b) && c) = false := by decide
  refine e _ _ _ ?_
  rw [List.any_map]
  exact h
theorem wpC_mark {M : Model} {A : Around} {own : List String} {e : Value} {Q : Unit → Shared → Prop} {E : Value → Shared → Prop} {s : Shared} (h : Q () s) : wpC M A (markTheRefusal own e) Q E s := fun Γ p hΓ hc => by
  unfold markTheRefusal
  rw [Sem.wp_bind']
  show Sem.wp M Γ (.stack .pure) _ _ p s
  rw [Sem.wp_stack]
  show Sem.wp M Γ (if pythonCodeMadeTheCall own (((Γ.code, p) :: Γ.below).map (·.1)) = true then _ else _) _ _ p s
  rw [if_neg (by rw [caller_calls (hc p)]; exact Bool.false_ne_true)]
  exact h
theorem int_tree (x : Str) (u : Tok) : ∃ K, Builtin.«int.__new__» ⟨[.type "int", .str x u], []⟩ = (int_private% "intFromText") (.str x u) (numTextOf x) 10 >>= K := by
  have f1 := F.conv_sub_int
  have f2 := F.madeHere_int
  have f3 := KIN.str_int
  have f4 := KIN.str_idx
  have f5 := KIN.str_trunc
  have f6 : typeOf (.str x u) = pure (.type "str") := rfl
  have g1 : isType (.type "int") = pure true := rfl
  have g2 : (Value.type "int" == Value.type "int" && ([] : List (Str × Value)).isEmpty && decide ([Value.str x u].length > 2)) = false := rfl
  have g3 : ¬ ([Value.str x u].length + ([] : List (Str × Value)).length > 2) := by show ¬ (1 > 2); decide
  have g4 : (Value.type "int" == Value.type "int") = true := by decide
  unfold Builtin.«int.__new__»
  simp only [pure_bind, f1, f2, g1, g2, Bool.not_true, Bool.false_eq_true, if_false]
  simp only [g3, if_false, List.forIn_nil, pure_bind, g4, if_true]
  show ∃ K, ((int_private% "intFromObject") (.str x u) >>= fun v => ret v) = _
  have h1 : callSpecial? (.str x u) "__int__" = pure none := by
    unfold callSpecial? specialOf
    simp only [f6, pure_bind, f3]
  have h2 : specialOf (.str x u) "__index__" = pure none := by
    unfold specialOf
    simp only [f6, pure_bind, f4]
  have h3 : specialOf (.str x u) "__trunc__" = pure none := by
    unfold specialOf
    simp only [f6, pure_bind, f5]
  have h4 : (int_private% "numeralText?") (.str x u) = pure (some (numTextOf x)) := rfl
  obtain ⟨F, G, H, e1, e2, e3, e4⟩ : ∃ (F : Option Value → Sem Value) (G H : Option Value → Sem Value), (int_private% "intFromObject") (.str x u) = callSpecial? (.str x u) "__int__" >>= F ∧ F none = specialOf (.str x u) "__index__" >>= G ∧ G none = specialOf (.str x u) "__trunc__" >>= H ∧ H none = (int_private% "numeralText?") (.str x u) >>= fun t => match t with
      | some text => (int_private% "intFromText") (.str x u) text 10
      | none => H none := ⟨_, _, _, rfl, rfl, rfl, rfl⟩
  rw [e1, h1, pure_bind, e2, h2, pure_bind, e3, h3, pure_bind, e4, h4, pure_bind]
  exact ⟨_, rfl⟩
theorem call_tree (x : Str) (u : Tok) : ∃ K, Builtin.«type.__call__» ⟨[.type "int", .str x u], []⟩ = (holding [.builtin "int.__new__"] (call (.builtin "int.__new__") [.type "int", .str x u] [])) >>= K := by
  have f1 := F.called_int.made
  have f2 := F.mro_int
  have f3 : checkTypeCall "int" ⟨[.str x u], []⟩ = pure () := F.typeCall_int_1 (.str x u)
  have f4 := F.called_int.canCreate
  have f5 := F.called_int.notType
  unfold Builtin.«type.__call__»
  simp only [f1, f2, f3, f4, f5, pure_bind, Bool.false_eq_true, if_false, List.isEmpty_cons]
  exact ⟨_, rfl⟩

theorem text_bad {prog : Program} {w : World} {A : Around} {E : Value → Shared → Prop} {s : Shared} {Q : Value → Shared → Prop} {x : Str} {u : Tok} (hh : A.handled = none) (hl : x.length ≤ 640) (hn : PySem.intText? x = none) (hsz : (reprText x).length ≤ sizeLine)
    (h : ∀ h' e m tk, Heap.MadeExc s.heap h' e "ValueError" [m] → E (.ref e) { s with heap := h', toks := tk }) :
    wpC (model prog w) A ((int_private% "intFromText") (.str x u) (numTextOf x) 10) Q E s := by
  have hlen : ∀ y : Str, (Str.ofString (toString "invalid literal for int() with base " ++ toString 10 ++ toString ": ") ++ (⟨y.cps.extract 0 200⟩ : Str)).length ≤ sizeLine := by
    intro y
    show (Str.ofString _ ++ (⟨y.cps.extract 0 200⟩ : Str)).cps.size ≤ sizeLine
    show (_ ++ y.cps.extract 0 200).size ≤ sizeLine
    rw [Array.size_append, Array.size_extract]
    have e1 : (Str.ofString (toString "invalid literal for int() with base " ++ toString 10 ++ toString ": ")).cps.size = 40 := by decide +kernel
    have e2 : min 200 y.cps.size - 0 ≤ 200 := by omega
    have e3 : 240 ≤ sizeLine := by rw [sizeLine_eq]; decide
    omega
  have hs : (numSeenOf x).length ≤ 640 := Nat.le_trans (seen_length x) hl
  have hr : ((int_private% "readNumeral") 0 10 (numSeenOf x) = int_private% "Numeral.invalid" ∨ ∃ i, (int_private% "readNumeral") 0 10 (numSeenOf x) = (int_private% "Numeral.value") i ∧ ¬ ((numSeenOf x).length == (numTextOf x).length) = true) := by
    rcases read0 x hs with ⟨m, h1, h2, h3⟩ | ⟨_, h1⟩
    · rw [hn] at h1; cases h1
    · exact h1
  show wpC _ _ (ite _ (Bind.bind (pure 0) _) _) _ _ _
  rw [if_pos hs, pure_bind]
  unfold numSeenOf at hr
  dsimp only
  rcases hr with h1 | ⟨i, h1, h2⟩
  · rw [h1]
    dsimp only
    refine wpC_step (wpAny_of_eq (a := none) rfl ?_)
    simp only [Option.isSome_none, Bool.false_and, Bool.false_eq_true, if_false]
    refine wpC_step (wpAny_rule ?_)
    refine wpC_step (wpAny_of_eq (a := none) rfl ?_)
    dsimp only
    refine wpC_step (wpAny_pyRepr_str ?_ hsz)
    refine wpC_step (wpAny_mkStr ?_ (hlen _))
    refine wpC_step (wpAny_newExc_plain plainExc_ValueError fun h' e hm => ?_)
    refine wpC_bind (wpC_mark ?_)
    exact wpC_any (wpAny_raiseNew_none hh (h h' e _ _ hm))
  · rw [h1]
    dsimp only
    rw [if_neg h2]
    refine wpC_step (wpAny_rule ?_)
    refine wpC_step (wpAny_of_eq (a := none) rfl ?_)
    dsimp only
    refine wpC_step (wpAny_pyRepr_str ?_ hsz)
    refine wpC_step (wpAny_mkStr ?_ (hlen _))
    refine wpC_step (wpAny_newExc_plain plainExc_ValueError fun h' e hm => ?_)
    refine wpC_bind (wpC_mark ?_)
    exact wpC_any (wpAny_raiseNew_none hh (h h' e _ _ hm))

section
variable {prog : Program} {w : World} {A : Around} {E : Value → Shared → Prop} {s : Shared} {R : Result → Shared → Prop}
theorem codeC_builtin {id : String} {args : Args} {b : Builtin} (hb : entryFor table id = some b)
    (h : wpC (model prog w) (A.under (.builtin id args)) (b args)
      (fun fin s' => match fin with | .done f => R (.ok f) s' | .again c' => c'.quiet = true ∧ codeC (model prog w) A c' R s') (fun e s' => R (.error e) s') s) :
    codeC (model prog w) A (.builtin id args) R s := by
  refine codeC_of_tree ?_
  show wpC _ _ (match entryFor table id with | some b => b args | none => unsupported ((withoutEnding? id "#data").getD id)) _ _ s
  rw [hb]; exact h
theorem int_bad {Q : Value → Shared → Prop} {x : Str} {u : Tok} (hh : A.handled = none) (hl : x.length ≤ 640) (hn : PySem.intText? x = none) (hsz : (reprText x).length ≤ sizeLine)
    (h : ∀ h' e m tk, Heap.MadeExc s.heap h' e "ValueError" [m] → E (.ref e) { s with heap := h', toks := tk }) :
    wpC (model prog w) A (call (.type "int") [.str x u]) Q E s := by
  refine wpC_call (codeC_of_tree ?_)
  show wpC _ _ (callAny (.type "int") _) _ _ _
  refine wpC_pure ⟨Code.quiet_builtin _ (by decide +kernel), codeC_builtin F.entry_type_call ?_⟩
  rw [Around.under_plain (weight_type_call_type "int" _ []) (units_type_call_type "int" _ [])]
  obtain ⟨K, eK⟩ := call_tree x u
  rw [eK]
  refine wpC_bind (wpC_holding (wpC_call (codeC_of_tree ?_)))
  show wpC _ A.in1.in1 (do checkBuiltinCall "int.__new__" ⟨[.type "int", .str x u], []⟩; again (.builtin "int.__new__" ⟨[.type "int", .str x u], []⟩)) _ _ s
  refine wpC_step (wpAny_of_eq (F.newCall_int_1 _) ?_)
  refine wpC_pure ⟨plainId_quiet F.called_int.plain _, codeC_builtin F.entry_int_new ?_⟩
  rw [Around.under_plainId F.called_int.plain]
  obtain ⟨K', eK'⟩ := int_tree x u
  rw [eK']
  exact wpC_bind (text_bad hh hl hn hsz h)
end
end Mine

-- WP
namespace Mine
section
variable {prog : Program} {w : World} {M : Model} {A : Around} {E : Value → Shared → Prop} {s : Shared} {env : Env}
theorem wpC_execs_cons {st : Stmt} {rest : List Stmt} {Q : Flow → Shared → Prop} (h : wpC M A (exec st env) (fun f s' => match f with | .next => wpC M A (execs rest env) Q E s' | f => Q f s') E s) :
    wpC M A (execs (st :: rest) env) Q E s := by
  rw [execs_cons]
  refine wpC_bind (wpC_mono h (fun f s' h' => ?_) fun _ _ x => x)
  cases f <;> first | exact h' | exact wpC_pure h'
theorem execs_app (env : Env) (b : List Stmt) : ∀ a : List Stmt, execs (a ++ b) env = (execs a env >>= fun f => match f with | .next => execs b env | f => pure f)
  | [] => by rw [execs_nil, pure_bind]; rfl
  | st :: a => by
    show execs (st :: (a ++ b)) env = _
    rw [execs_cons, execs_cons, bind_assoc]
    congr 1
    funext f
    cases f <;> first | exact execs_app env b a | rw [pure_bind]
theorem wpC_cut {a b : List Stmt} {Q : Flow → Shared → Prop} (h : wpAny M A (execs a env) (fun f s' => match f with | .next => wpC M A (execs b env) Q E s' | f => Q f s') E s) : wpC M A (execs (a ++ b) env) Q E s := by
  rw [execs_app]
  refine wpC_step (wpAny_mono h (fun f s' x => ?_) fun _ _ x => x)
  cases f <;> first | exact x | exact wpC_pure x
theorem wpC_Assign_Name {x : Str} {pos' pos : Pos} {value : Expr} {Q : Flow → Shared → Prop}
    (h : wpC M A (eval value env) (fun v s₁ => wpAny M A (storeName env x v) (fun _ => Q .next) E s₁) E s)
    (hs : swapsWith value (some (.Name x pos')) pos.line env = pure false := by rfl) :
    wpC M A (exec (.Assign [.Name x pos'] value pos) env) Q E s := by
  rw [exec_Assign_Name env x pos' value pos hs]
  refine wpC_step (wpAny_standAt (wpC_bind (wpC_mono h (fun v s₁ h₁ => ?_) fun _ _ x => x)))
  exact wpC_step (wpAny_standAt (wpC_step (wpAny_bindName (wpAny_mono h₁ (fun _ _ x => wpC_pure x) fun _ _ x => x))))
theorem wpC_Return {e : Expr} {pos : Pos} {Q : Flow → Shared → Prop} (h : wpC M A (eval e env) (fun v => Q (.ret v)) E s) : wpC M A (exec (.Return (some e) pos) env) Q E s := by
  rw [exec_Return_some]
  exact wpC_step (wpAny_standAt (wpC_bind (wpC_mono h (fun v s₁ h₁ => wpC_pure h₁) fun _ _ x => x)))
theorem wpC_Expr {e : Expr} {pos : Pos} {Q : Flow → Shared → Prop} (h : wpC M A (eval e env) (fun v s' => v = .none ∧ Q .next s') E s)
    (hi : interactive env = false := by rfl) (hs : swapsWith e none pos.line env = pure false := by rfl) : wpC M A (exec (.Expr e pos) env) Q E s := by
  rw [exec_Expr env e pos hi hs]
  refine wpC_step (wpAny_standAt (wpC_bind (wpC_mono h (fun v s' h' => ?_) fun _ _ x => x)))
  obtain ⟨rfl, h'⟩ := h'
  rw [dropValue_plain (fun a e => by cases e)]
  exact wpC_pure h'
theorem wpC_Call {id : Str} {p pos : Pos} {args : List Expr} {Q : Value → Shared → Prop}
    (h : wpAny M A (eval (.Name id p) env) (fun f s₁ => wpC M A (callWith pos f [] (backTo pos (starEach args env)) []) Q E s₁) E s) :
    wpC M A (eval (.Call (.Name id p) args [] pos) env) Q E s := by
  rw [arm_eval_Call_Name']
  exact wpC_step h
theorem wpC_callWith_type {pos : Pos} {T : String} {args : List (Bool × Sem Value)} {Q : Value → Shared → Prop} (hplain : args.any (·.1) = false)
    (h : wpAny M A (evalArgs (.type T) true args []) (fun a s₁ => wpC M A (call (.type T) a.pos a.kw) Q E s₁) E s) :
    wpC M A (callWith pos (.type T) [] args []) Q E s := by
  unfold callWith
  refine wpC_bind (wpC_holding (wpC_any (wpAny_mono h (fun a s₁ h₁ => wpC_step (wpAny_standAt ?_)) fun _ _ x => x)))
  simp only [hplain, List.any_nil, Bool.or_false]
  refine wpC_step (wpAny_pure ?_)
  exact wpC_bind (wpC_mono h₁ (fun r s₂ hr => wpC_step (wpAny_holding (wpAny_point (wpC_pure hr)))) fun _ _ x => x)
theorem wpC_callWith_def {pos : Pos} {a : Addr} {o : Obj} {fd : FuncData} {args : List (Bool × Sem Value)} {Q : Value → Shared → Prop} (hplain : args.any (·.1) = false) (hfew : args.length ≤ 30)
    (h : wpAny M A (evalArgs (.ref a) true args []) (fun x s₁ => (s₁.heap.get? a = some o ∧ o.data = .func fd) ∧ wpC M A (call (.ref a) x.pos x.kw) Q E s₁) E s) :
    wpC M A (callWith pos (.ref a) [] args []) Q E s := by
  unfold callWith
  refine wpC_bind (wpC_holding (wpC_any (wpAny_mono h (fun x s₁ h₁ => wpC_step (wpAny_standAt ?_)) fun _ _ x => x)))
  simp only [hplain, List.any_nil, Bool.or_false]
  unfold keeperOf
  refine wpC_step (m := keeperOf (.ref a)) ?_
  unfold keeperOf
  refine wpAny_bind (wpAny_load h₁.1.1 ?_)
  rw [h₁.1.2]
  refine wpAny_pure ?_
  dsimp only
  rw [if_neg (by simp only [List.length_nil]; omega)]
  unfold callMarked
  exact wpC_bind (wpC_keep (wpC_mono h₁.2 (fun r s₂ hr => wpC_step (wpAny_holding (wpAny_point (wpC_pure hr)))) fun _ _ x => x))
theorem wpC_Try {body orelse : List Stmt} {h₀ : ExceptHandler} {hs : List ExceptHandler} {pos : Pos} {Q : Flow → Shared → Prop}
    (h : wpC (model prog w) A (execs body env) (fun f s₁ => match f with | .next => wpC (model prog w) A (execs orelse env) Q E s₁ | f => Q f s₁)
      (fun e s₁ => wpAny (model prog w) A (noteFrame e env) (fun _ s₂ => wpAny (model prog w) A (setFlight e none) (fun _ s₃ => wpAny (model prog w) A (handleBy e env (h₀ :: hs)) Q E s₃) E s₂) E s₁) s) :
    wpC (model prog w) A (exec (.Try body (h₀ :: hs) orelse [] pos) env) Q E s := by
  rw [arm_exec_Try]
  refine wpC_step (wpAny_standAt ?_)
  unfold tryStmt
  simp only [List.isEmpty_nil, if_true, List.isEmpty_cons, Bool.false_and, Bool.false_eq_true, if_false]
  refine wpC_bind (wpC_attempt (wpC_mono h (fun f s₁ h₁ => ?_) fun e s₁ h₁ => ?_))
  · cases f <;> first | exact h₁ | exact wpC_pure h₁
  · exact wpC_any (wpAny_bind (wpAny_mono h₁ (fun _ _ h₂ => wpAny_bind h₂) fun _ _ x => x))
theorem wpC_runOwn {c : Code} {h : Option Value} {Q : Flow → Shared → Prop}
    (hc : codeC M (A.mark h) c (fun r s' => match r with | .ok f => Q f s' | .error e => cameBackBy M A env E e s') s) (hnb : h ≠ some byPass := by intro x; cases x) :
    wpC M A (runOwn c env h) Q E s := by
  unfold runOwn
  exact wpC_onRaise (wpC_mono (wpC_run hc hnb) (fun _ _ x => x) fun _ _ x => wpC_any x)
theorem codeC_block {stmts : List Stmt} {R : Result → Shared → Prop}
    (h : wpC (model prog w) A (execs stmts env) (fun f s' => R (.ok f) s') (notedBy (model prog w) A env fun e s' => R (.error e) s') s) : codeC (model prog w) A (.block stmts env) R s := by
  refine codeC_of_tree ?_
  show wpC _ _ (do return Fin.done (← (execs stmts env).onRaise (fun x => do noteFrame x env; theTreesLotGoes x))) _ _ s
  refine wpC_bind (wpC_onRaise (wpC_mono h (fun f s' h' => wpC_pure h') fun e s' h' => ?_))
  exact wpC_any (wpAny_bind (wpAny_mono h' (fun _ _ x => wpAny_theTreesLotGoes x) fun _ _ x => x))
theorem codeC_forLoop {R : Result → Shared → Prop} {target : Expr} {it : Value} {body orelse : List Stmt} (I : Nat → Shared → Prop)
    (turn : ∀ n s, I n s → wpAny (model prog w) A (pyNext it) (fun r s₁ => match r with
      | none => wpC (model prog w) A (execs orelse env) (fun f s₃ => R (.ok f) s₃) (notedBy (model prog w) A env fun e s' => R (.error e) s') s₁
      | some v => wpAny (model prog w) A (assign target env v) (fun _ s₂ => wpC (model prog w) A (execs body env) (fun f s₃ => match f with
          | .next | .cont => ∃ m, m < n ∧ I m s₃
          | .brk => R (.ok .next) s₃
          | .ret v => R (.ok (.ret v)) s₃) (notedBy (model prog w) A env fun e s' => R (.error e) s') s₂) (notedBy (model prog w) A env fun e s' => R (.error e) s') s₁) (notedBy (model prog w) A env fun e s' => R (.error e) s') s)
    (n : Nat) (h : I n s) (ht : ∀ v, letOwnedTupleGo target it v = pure () := by intro _; rfl) : codeC (model prog w) A (.forLoop target it body orelse env) R s := by
  refine codeC_loop rfl I (fun n s hI => ?_) n h
  show wpC _ _ ((forTurn target it body orelse env).onRaise (fun x => do noteFrame x env; theTreesLotGoes x)) _ _ s
  have noted : ∀ e s', notedBy (model prog w) A env (fun e s' => R (.error e) s') e s' → wpC (model prog w) (A.under (.forLoop target it body orelse env)) (do noteFrame e env; theTreesLotGoes e) (fun _ s'' => R (.error e) s'') (fun e s' => R (.error e) s') s' := fun e s' h' =>
    wpC_any (wpAny_bind (wpAny_mono h' (fun _ _ x => wpAny_theTreesLotGoes x) fun _ _ x => x))
  refine wpC_onRaise ?_
  refine wpC_mono ?_ (fun _ _ x => x) noted
  show wpC _ A _ _ _ _
  simp only [forTurn]
  refine wpC_step (wpAny_standAt (wpC_step (wpAny_onRaise (wpAny_mono (turn n s hI) (fun r s₁ h₁ => ?_) fun _ _ h' => wpAny_standAt h'))))
  cases r with
  | none => exact wpC_pure (.inr ⟨rfl, codeC_block h₁⟩)
  | some v =>
    refine wpC_step (wpAny_of_eq (ht v) ?_)
    refine wpC_step (wpAny_mono h₁ (fun _ s₂ h₂ => wpC_bind (wpC_mono h₂ (fun f s₃ h₃ => ?_) fun _ _ h' => h')) fun _ _ h' => h')
    cases f with
    | next => exact wpC_pure (.inl ⟨rfl, h₃⟩)
    | cont => exact wpC_pure (.inl ⟨rfl, h₃⟩)
    | brk => exact wpC_pure h₃
    | ret v => exact wpC_pure h₃
theorem wpC_For {target iter : Expr} {body orelse : List Stmt} {pos : Pos} {Q : Flow → Shared → Prop}
    (h : wpAny M A (eval iter env) (fun x s₁ => wpAny M A (pyIter x) (fun it s₂ =>
      codeC M A (.forLoop target it body orelse env) (fun r s' => match r with | .ok f => Q f s' | .error e => cameBackBy M A env E e s') s₂) E s₁) E s)
    (hs : ∀ x, foldedSetIterable iter env x = pure x := by intro _; rfl) :
    wpC M A (exec (.For target iter body orelse pos) env) Q E s := by
  rw [exec_For]
  exact wpC_step (wpAny_standAt (wpC_step (wpAny_mono h (fun x s₁ h₁ => wpC_step (wpAny_of_eq (hs x) (wpC_step (wpAny_standAt (wpC_step (wpAny_holding
    (wpAny_mono h₁ (fun it s₂ h₂ => wpC_runOwn h₂) fun _ _ h' => h'))))))) fun _ _ h' => h')))
end
end Mine

-- WE
namespace Mine
noncomputable abbrev frs (l : List Env) : List Addr := l.filterMap (·.frame)
structure Back (A₀ : Around) (base : Heap) (outer : List Env) (K : Frag) (p : Program) (loose : List Str) (mean : ExcName → Option Value) (mg mb : Str → Option Value) (h₀ : Heap) (L : Addr) (m : Str → Option Value) (news : List (Addr × Obj)) (h : Heap) (h₀' : Heap) : Prop where
  turn : KtsTurn (frs outer) h₀ h₀'
  fr : Fr h₀' L h m
  news : News h₀' L h news
  below : Below A₀ base outer h₀'
  frag : K.In h₀'
  top : Top p loose mean mg mb h₀'
  dicts : KtsDicts (frs outer) h₀'

noncomputable def ExitC (A₀ : Around) (base : Heap) (outer : List Env) (fs : List Addr) (K : Frag) (p : Program) (loose : List Str) (mean : ExcName → Option Value) (mg mb : Str → Option Value) (h₀ : Heap) (L : Addr) (m : Str → Option Value) (g : Heap) (L' : Addr) (R : Result → Shared → Prop) (v : Value) (s' : Shared) : Prop :=
  ∃ g' m' news', KtsTurn fs g g' ∧ Fr g' L' s'.heap m' ∧ News g' L' s'.heap news' ∧ ∀ h₀', Back A₀ base outer K p loose mean mg mb h₀ L m news' s'.heap h₀' → R (.ok (.ret v)) s'

section
variable {prog : Program} {w : World} {A₀ A : Around} {s : Shared} {base h₀ g₀ : Heap} {outer : List Env} {L a : Addr} {m : Str → Option Value} {cn : Str} {cs : Scope} {ccd : Value} {news : List (Addr × Obj)} {K : Frag} {p : Program} {loose : List Str} {mean : ExcName → Option Value} {mg mb : Str → Option Value}
    {R : Result → Shared → Prop} {name qual : Str} {params : Arguments} {body : List Stmt} {scope : Scope} {dV kV doc pm cdv ct oc : Value} {an od : Option Addr} {osl : Array (Option Value)} {f : Addr} {args : Args} {binds : List (Str × Value)}

theorem enterC (B : Below A₀ base outer h₀) (F : Fr h₀ L s.heap m) (X₀ : K.In h₀) (N : News h₀ L s.heap news) (T : Top p loose mean mg mb h₀) (XB : K.In base) (TB : Top p loose mean mg mb base) (D : KtsDicts (frs outer) h₀)
    (hA : A.frames = some (envOf cn cs L a ccd :: outer))
    (ho : K.lookup f = some ⟨oc, od, .func (fnOf name qual params body scope dV kV doc pm an cdv ct), osl⟩) (hcd : codeIn K cdv qual = true) (hroom : A.depth < recursionLimit)
    (hbind : BindsTo s (fnOf name qual params body scope dV kV doc pm an cdv ct) args binds) (hloc : ∀ y ∈ binds, scope.names.lookup y.1 = some .local)
    (h : ∀ g L' h₁, Fr h₀ L g m → Fr g L' h₁ (fun y => binds.reverse.lookup y) → News g L' h₁ news → Below A base (envOf cn cs L a ccd :: outer) g → K.In g → Top p loose mean mg mb g → KtsDicts (frs (envOf cn cs L a ccd :: outer)) g →
      wpC (model prog w) (A.deeper (envOf qual scope L' f cdv)) (execs body (envOf qual scope L' f cdv))
        (fun fl s' => ExitC A₀ base outer (frs (envOf cn cs L a ccd :: outer)) K p loose mean mg mb h₀ L m g L' R (match fl with | .ret v => v | _ => .none) s')
        (fun e s' => wpAny (model prog w) (A.deeper (envOf qual scope L' f cdv)) (leaving (envOf qual scope L' f cdv) e) (fun _ s'' => R (.error e) s'') (fun e' s'' => R (.error e') s'') s')
        { s with heap := h₁, toks := s.toks + binds.length })
    (hck : cs.kind = .function) (hco : scope.isCoroutine = false) (hgen : scope.isGenerator = false) (hk : scope.kind = .function)
    (hcell : ∀ x ∈ scope.names, x.2 ≠ .cell) : codeC (model prog w) A (.call (.ref f) args) R s := by
  have X := X₀.keeps F.keep
  have nL₀ : h₀.get? L = none := kts_self F
  refine codeC_call_def (fd := fnOf name qual params body scope dV kV doc pm an cdv ct) (body := body) (binds := binds) hroom (X _ _ ho) rfl (T.nolimit.keeps F.keep) (codeRec_of X hcd) rfl hbind hcell hloc (fun h₁ hns hk₁ => ?_) hco hgen hk
  obtain ⟨oL, es, ep, hLg, hLd, hN, hNs, st, B₂⟩ := kts_enter B F N hA hck
  have D₂ : KtsDicts (frs (envOf cn cs L a ccd :: outer)) (hideAll s.heap (news.map (·.1))) := fun b hb => by
    rcases kts_mem hb with rfl | hb
    · exact ⟨oL, es, ep, hLg, hLd⟩
    · obtain ⟨o, es', n', ho', hd'⟩ := D b hb
      exact ⟨o, es', n', st b o ho', hd'⟩
  refine wpC_mono (h _ s.heap.objs.size h₁ ⟨hN _ hLg, st, F.above⟩ ⟨hns, fun b o e => hk₁ b o (of_hideAll _ e), Nat.le_of_eq (hideAll_size _ _)⟩
    (fun p hp => ⟨hk₁ _ _ (N p hp).1, Nat.ne_of_lt (Heap.lt_size (N p hp).1), hideAll_none _ (List.mem_map_of_mem hp)⟩) B₂ (X₀.keeps st) (T.keeps st) D₂) ?_ fun _ _ y => y
  rintro fl s' ⟨g', m', news', T', F', N', k⟩
  obtain ⟨sl, hs⟩ := T'.up hLg
  have kept : ∀ b o, h₀.get? b = some o → b ∉ frs outer → s'.heap.get? b = some o := fun b o e nm => F'.keep b o (T'.other b o (st b o e) fun q => by
    rcases kts_mem q with rfl | z
    · rw [nL₀] at e; cases e
    · exact nm z)
  have slots : ∀ b o, h₀.get? b = some o → ∃ sl, s'.heap.get? b = some { o with slots := sl } := fun b o e => by
    obtain ⟨sl', hs'⟩ := T'.up (st b o e)
    exact ⟨sl', F'.keep _ _ hs'⟩
  obtain ⟨T₁, S₁⟩ := kts_turn_at (h := s'.heap) (fs := frs outer) (g := h₀) (fun b hb => let ⟨_, o, ho', _⟩ := B.frames.mem hb; ⟨o, ho'⟩) kept fun b o e _ => slots b o e
  have B₃ : Below A₀ base outer (ktsHeap s'.heap (frs outer) h₀) := ⟨B.stack, fun b o e => T₁.other b o (B.stays b o e) (fun hm => by
    rw [(B.frames.mem hm).1] at e; cases e), B.frames.of_keeps fun b o e _ => let ⟨sl', hs'⟩ := T₁.up e; ⟨_, hs', rfl⟩⟩
  refine k _ ⟨T₁, ⟨hNs sl _ (F'.keep _ _ hs), S₁, by rw [T₁.size]; exact F.above⟩, fun p hp => ⟨(N' p hp).1, fun q => ?_, T₁.none_ _ ?_⟩, B₃, XB.keeps B₃.stays, TB.keeps B₃.stays, D.turn T₁⟩
  · have z := (N' p hp).2.2
    rw [q, hs] at z; cases z
  · cases q : h₀.get? p.1 with
    | none => rfl
    | some o =>
      obtain ⟨sl', hs'⟩ := T'.up (st _ _ q)
      have z := (N' p hp).2.2
      rw [hs'] at z; cases z
end
end Mine

-- MB
namespace Mine

def P0 : Program := { Challenge.rw_wn0113_01.row.toRowW.1 with main := { Challenge.rw_wn0113_01.row.toRowW.1.main with body := [.Import [⟨"sys", none, default⟩] default] } }
abbrev L0 : List Str := ["Whitespace", "_wall", "NannyNag", "format_witnesses", "Error", "error_reply", "error_proto", "parse229", "parse257", "_raise_serialization_error", "_escape_cdata", "_escape_attrib", "_escape_attrib_html", "_escape_cdata_c14n", "_escape_attrib_c14n",
  "_law_cells", "_law_table", "_law_written", "_law_reply", "_law_lead", "_law_words", "_law_drawn", "_law_answer", "_law_checked", "law"]
abbrev tupO (vs : List Value) (n : Nat) : Obj := { cls := .type "tuple", data := .seq vs.toArray n }

def Spec (w : World) (f : Addr) (D U : Nat) (vs : List Value) (news : List (Addr × Obj)) (Post : Value → List (Addr × Obj) → Prop) : Prop :=
  ∀ (mean : ExcName → Option Value) (mg mb : Str → Option Value) (dp un : Nat) (gd : Option (List Code)) (cn : Str) (cs : Scope) (a : Addr) (ccd : Value) (cl : List (Str × Addr)) (outer : List Env) (A₀ : Around) (base h₀ : Heap) (L : Addr) (m : Str → Option Value) (s : Shared) (Q E : Value → Shared → Prop),
    Below A₀ base outer h₀ → Fr h₀ L s.heap m → (Mine.hd.heap_1 w.params).In h₀ → News h₀ L s.heap news → Top P0 L0 mean mg mb h₀ → cs.kind = .function →
    dp + D < recursionLimit → un + U < cLine →
    (∀ r tl h' tk', Fr h₀ L h' m → News h₀ L h' (tl ++ news) → Post r tl → Q r { s with heap := h', toks := tk' }) →
    wpAny (model PySem.Challenge.rw_wn0113_01.row.prog w) (ktrTop dp un gd cn cs L a ccd cl outer) (call (.ref f) vs) Q E s

theorem spec_use {w : World} {f : Addr} {D U : Nat} {vs : List Value} {news : List (Addr × Obj)} {Post : Value → List (Addr × Obj) → Prop} (C : Spec w f D U vs news Post)
    {mean : ExcName → Option Value} {mg mb : Str → Option Value} {dp un : Nat} {gd : Option (List Code)} {cn : Str} {cs : Scope} {a : Addr} {ccd : Value} {cl : List (Str × Addr)} {outer : List Env} {A₀ : Around} {base h₀ : Heap} {L : Addr} {m : Str → Option Value} {s : Shared} {Q E : Value → Shared → Prop}
    (B : Below A₀ base outer h₀) (F : Fr h₀ L s.heap m) (X : (Mine.hd.heap_1 w.params).In h₀) (N : News h₀ L s.heap news) (T : Top P0 L0 mean mg mb h₀) (hk : cs.kind = .function)
    (hd : dp + D < recursionLimit) (hu : un + U < cLine)
    (ret : ∀ r tl h' tk', Fr h₀ L h' m → News h₀ L h' (tl ++ news) → Post r tl → Q r { s with heap := h', toks := tk' }) :
    wpAny (model PySem.Challenge.rw_wn0113_01.row.prog w) (ktrTop dp un gd cn cs L a ccd cl outer) (call (.ref f) vs) Q E s :=
  C _ _ _ _ _ _ _ _ _ _ _ _ _ _ _ _ _ _ _ _ B F X N T hk hd hu ret

def SpecX (w : World) (f : Addr) (D U : Nat) (vs : List Value) (news : List (Addr × Obj)) (Post : Value → List (Addr × Obj) → Prop) (PX : Value → Prop) : Prop :=
  ∀ (mean : ExcName → Option Value) (mg mb : Str → Option Value) (dp un : Nat) (gd : Option (List Code)) (cn : Str) (cs : Scope) (a : Addr) (ccd : Value) (outer : List Env) (A₀ : Around) (base h₀ : Heap) (L : Addr) (m : Str → Option Value) (s : Shared) (Q E : Value → Shared → Prop),
    Below A₀ base outer h₀ → Fr h₀ L s.heap m → (Mine.hd.heap_1 w.params).In h₀ → News h₀ L s.heap news → Top P0 L0 mean mg mb h₀ → cs.kind = .function →
    dp + D < recursionLimit → un + U < cLine → KtsDicts (outer.filterMap (·.frame)) h₀ →
    (∀ r tl h' tk', Fr h₀ L h' m → News h₀ L h' (tl ++ news) → Post r tl → Q r { s with heap := h', toks := tk' }) →
    (∀ e cls t as g h' tk', Fr h₀ L g m → RaisedS base g (envOf cn cs L a ccd :: outer) e cls t as news h' → RaisedK base (envOf cn cs L a ccd :: outer) e cls t as news h' → g.UpToSlots h' → PX cls → E (.ref e) { s with heap := h', toks := tk' }) →
    wpAny (model PySem.Challenge.rw_wn0113_01.row.prog w) (ktrTop dp un gd cn cs L a ccd [] outer) (call (.ref f) vs) Q E s

theorem end0 {h₀ h' : Heap} {L : Addr} {m : Str → Option Value} {news : List (Addr × Obj)} {s : Shared} {Q : Value → Shared → Prop} {Post : Value → List (Addr × Obj) → Prop} {tk' : Nat}
    (ret : ∀ r tl h' tk', Fr h₀ L h' m → News h₀ L h' (tl ++ news) → Post r tl → Q r { s with heap := h', toks := tk' }) {r : Value} {led : List (Addr × Obj)} (F : Fr h₀ L h' m) (N : News h₀ L h' led) (hs : ∀ p ∈ news, p ∈ led) (hp : Post r []) : Q r { s with heap := h', toks := tk' } :=
  ret r [] h' tk' F (fun p hp => N p (hs p (by simpa using hp))) hp

theorem news_sub {h₀ h : Heap} {L : Addr} {l l' : List (Addr × Obj)} (N : News h₀ L h l) (hs : ∀ p ∈ l', p ∈ l) : News h₀ L h l' := fun p hp => N p (hs p hp)

def WsAt (w : World) (news : List (Addr × Obj)) (x : Addr) (n nt b : Int) (cnt : List Int) : Prop :=
  ∃ (dx nm ct : Addr) (raw : Str) (cvs : List Value) (k1 k2 k3 k4 k5 t1 t2 t3 t4 : Tok) (n1 n2 n3 : Nat),
   (x, instObj 124 dx) ∈ news ∧
   (dx, dictOf [⟨PyData.keyHash w.params "raw", .str "raw" k1, .str raw t1⟩, ⟨PyData.keyHash w.params "n", .str "n" k2, .int n t2⟩, ⟨PyData.keyHash w.params "nt", .str "nt" k3, .int nt t3⟩, ⟨PyData.keyHash w.params "norm", .str "norm" k4, .ref nm⟩, ⟨PyData.keyHash w.params "is_simple", .str "is_simple" k5, .bool (decide ((cnt.length : Int) ≤ 1))⟩] n1) ∈ news ∧
   (nm, tupO [.ref ct, .int b t4] n2) ∈ news ∧
   (ct, tupO cvs n3) ∈ news ∧ IntsAre cvs cnt ∧ cnt.length ≤ 1000
theorem WsAt.mono {w : World} {news news' : List (Addr × Obj)} {x : Addr} {n nt b : Int} {cnt : List Int} (h : WsAt w news x n nt b cnt) (hs : ∀ p ∈ news, p ∈ news') : WsAt w news' x n nt b cnt := by
  obtain ⟨dx, nm, ct, raw, cvs, k1, k2, k3, k4, k5, t1, t2, t3, t4, n1, n2, n3, h1, h2, h3, h4, h5, h6⟩ := h
  exact ⟨dx, nm, ct, raw, cvs, k1, k2, k3, k4, k5, t1, t2, t3, t4, n1, n2, n3, hs _ h1, hs _ h2, hs _ h3, hs _ h4, h5, h6⟩

section
theorem fa1 {α : Type} {p : α → Prop} {a : α} (h : p a) : ∀ x ∈ [a], p x := fun x hx => (List.mem_singleton.mp hx) ▸ h
theorem fa0 {α : Type} {p : α → Prop} : ∀ x ∈ ([] : List α), p x := fun x hx => nomatch hx
theorem faC {α : Type} {p : α → Prop} {a : α} {l : List α} (h : p a) (r : ∀ x ∈ l, p x) : ∀ x ∈ a :: l, p x := List.forall_mem_cons.mpr ⟨h, r⟩
variable {prog : Program} {w : World} {A : Around} {E : Value → Shared → Prop} {s : Shared} {env : Env} {h₀ : Heap} {x : Str} {body : List Stmt} {Q : Flow → Shared → Prop}

theorem loopG {I : Addr} {n : Nat} {P : Nat → Value → Prop} {St : Nat → Heap → Prop} {m₀ : Str → Option Value} {news : List (Addr × Obj)} (J : Nat → (Str → Option Value) → List (Addr × Obj) → Prop)
    (W : Walks prog w A I [I] [I] n P St) (hlive : ∀ i h, St i h → ∃ o, h.get? I = some o) (hI : I ≠ env.locals) (hI0 : h₀.get? I = none) (hnw : ∀ p ∈ news, p.1 ≠ I) (hst : St 0 s.heap) (F : Fr h₀ env.locals s.heap m₀) (N : News h₀ env.locals s.heap news) (hj : J 0 m₀ news)
    (turn : ∀ i v m₁ nx h tk own, i < n → P i v → OwnOff own (nx.map (·.1)) → J i m₁ nx → Fr h₀ env.locals h (fun y => if y = x then some v else m₁ y) → News h₀ env.locals h (nx ++ own) →
      wpAny (model prog w) A (execs body env) (InvPostG h₀ env.locals (J (i + 1)) own { s with heap := h, toks := tk } Q) E { s with heap := h, toks := tk })
    (done : ∀ m₁ nx h tk, J n m₁ nx → Fr h₀ env.locals h m₁ → News h₀ env.locals h nx → Q .next { s with heap := h, toks := tk }) :
    LoopAtV prog w A h₀ env x body Q E (.ref I) s := by
  refine ⟨I, [I], [I], n, P, St, m₀, news, J, rfl, W, ?_, ?_, ?_, hst, F, N, hj, ?_, ?_⟩
  · exact fun h => hI (List.mem_singleton.mp h).symm
  · exact fun b hb => (List.mem_singleton.mp hb) ▸ hI0
  · exact fun p hp hb => hnw p hp (List.mem_singleton.mp hb)
  · rintro i v m₁ nx s₁ own ⟨h, tk, rfl⟩ hi hP hJ hoff hsub hget hall hst₁ F₁ N₁
    obtain ⟨o, ho⟩ := hlive _ _ hst₁
    have hIown : (I, o) ∈ own := hall I (List.mem_singleton.mpr rfl) hI0 o ho
    have hsep : OwnOff own (nx.map (·.1)) := by
      intro p hp b hb e
      obtain ⟨q, hq, rfl⟩ := List.mem_map.mp hb
      exact hoff q hq (e ▸ hsub p hp)
    have N₂ : News h₀ env.locals h (nx ++ own) := fun p hp => N₁ p ((List.mem_append.mp hp).elim (fun h => List.mem_append.mpr (.inr h)) fun h => List.mem_append.mpr (.inl h))
    refine wpAny_mono (turn i v m₁ nx h tk own hi hP hsep hJ F₁ N₂) (fun f s₂ p => ?_) fun _ _ e => e
    have fin : InvEndG h₀ env.locals (J (i + 1)) own { s with heap := h, toks := tk } s₂ → LoopStepU h₀ env.locals [I] own (J (i + 1)) { s with heap := h, toks := tk } .next s₂ := by
      rintro ⟨h', tk', m', news', nx', e, F', N', hn, hown, hoff', hm⟩
      refine ⟨rfl, h', tk', m', nx', e, F', fun p hp => N' p ((List.mem_append.mp hp).elim (hown p) (hn p)), fun p hp hq => ?_, hm⟩
      exact hoff' _ hIown p.1 (List.mem_map.mpr ⟨p, hp, rfl⟩) (List.mem_singleton.mp hq).symm
    cases f with
    | ret v => exact .ret p
    | brk => exact .brk p
    | next => exact .next (fin p)
    | cont => exact .cont (fin p)
  · rintro h' tk m' news' F' N' _ hJ
    exact done m' news' h' tk hJ F' N'

def MS {σ : Type} (Led : σ → List (Addr × Obj)) (ps : σ → List (Str × Value)) (x : Str) (stored : List Str) (m₀ : Str → Option Value) (P : σ → Prop) (m : Str → Option Value) (nx : List (Addr × Obj)) : Prop :=
  ∃ c : σ, nx = Led c ∧ (∀ p ∈ ps c, m p.1 = some p.2) ∧ (∀ z, z ≠ x → (∀ p ∈ ps c, z ≠ p.1) → stored.contains z = false → m z = m₀ z) ∧ P c

theorem rngG {σ : Type} {r : Addr} {a₀ b₀ : Int} {t₀ u₀ v₀ : Tok} {n : Nat} {m₀ : Str → Option Value} (Led : σ → List (Addr × Obj)) (ps : σ → List (Str × Value)) (stored : List Str) (P : Nat → σ → Prop)
    (hh : A.handled = none) (hr : IsRange s.heap r a₀ b₀ 1 t₀ u₀ v₀) (hsmall : Builtin.Range.small a₀ b₀ 1 = true) (hn : Builtin.Range.rangeSize a₀ b₀ 1 = (n : Int)) (F : Fr h₀ env.locals s.heap m₀) (h0 : ∃ c₀ : σ, News h₀ env.locals s.heap (Led c₀) ∧ (∀ p ∈ ps c₀, m₀ p.1 = some p.2) ∧ P 0 c₀)
    (turn : ∀ (i : Nat) (c : σ) t (u : Str → Option Value) h tk own, i < n → OwnOff own ((Led c).map (·.1)) → P i c →
      Fr h₀ env.locals h (fun y => if y = x then some (.int (a₀ + (i : Int)) t) else kstB (fun z => if stored.contains z then u z else m₀ z) (ps c) y) → News h₀ env.locals h (Led c ++ own) →
      wpAny (model prog w) A (execs body env) (InvPostG h₀ env.locals (MS Led ps x stored m₀ (P (i + 1))) own { s with heap := h, toks := tk } Q) E { s with heap := h, toks := tk })
    (done : ∀ (c : σ) (u : Str → Option Value) h tk, P n c → Fr h₀ env.locals h (fun y => if y = x then u y else kstB (fun z => if stored.contains z then u z else m₀ z) (ps c) y) → News h₀ env.locals h (Led c) → Q .next { s with heap := h, toks := tk }) :
    wpAny (model prog w) A (pyIter (.ref r)) (fun it s₂ => LoopAtV prog w A h₀ env x body Q E it s₂) E s := by
  obtain ⟨c₀, N, hk, hp⟩ := h0
  refine wpAny_pyIter_range hr hsmall ?_
  refine loopG (fun i m nx => MS Led ps x stored m₀ (P i) m nx) (Walks.range hh _ a₀ 1 n) ?_ ?_ ?_ ?_ (by show IsRangeIter _ _ _ _ _; rw [hn]; simpa using Heap.get?_push_size _ rfl) (F.push _) (fun p hp => ⟨Heap.get?_push_of_some _ (N p hp).1, (N p hp).2⟩) ⟨c₀, rfl, hk, fun _ _ _ _ => rfl, hp⟩ ?_ ?_
  · exact fun i h st => ⟨_, st⟩
  · exact fun e => absurd F.ns.lt (e ▸ Nat.lt_irrefl _)
  · exact next_is_new F
  · exact fun p hp e => absurd (Heap.lt_size (N p hp).1) (e ▸ Nat.lt_irrefl _)
  · rintro i v m₁ nx h tk own hi ⟨t, rfl⟩ hoff ⟨c, rfl, h1, h2, hp'⟩ F₁ N₁
    have e1 : a₀ + (i : Int) * 1 = a₀ + (i : Int) := by omega
    rw [e1] at F₁
    exact turn i c t m₁ h tk own hi hoff hp' (kst_fr h1 h2 F₁) N₁
  · rintro m₁ nx h tk ⟨c, rfl, h1, h2, hp'⟩ F₁ N₁
    exact done c m₁ h tk hp' (kst_frOut h1 h2 F₁) N₁

theorem strG {σ : Type} {xt : Str} {tx : Tok} {m₀ : Str → Option Value} (Led : σ → List (Addr × Obj)) (ps : σ → List (Str × Value)) (stored : List Str) (P : Nat → σ → Prop)
    (hh : A.handled = none) (F : Fr h₀ env.locals s.heap m₀) (h0 : ∃ c₀ : σ, News h₀ env.locals s.heap (Led c₀) ∧ (∀ p ∈ ps c₀, m₀ p.1 = some p.2) ∧ P 0 c₀)
    (turn : ∀ (i : Nat) (cc : Nat) (c : σ) t (u : Str → Option Value) h tk own, xt.cps[i]? = some cc → OwnOff own ((Led c).map (·.1)) → P i c →
      Fr h₀ env.locals h (fun y => if y = x then some (.str ⟨#[cc]⟩ t) else kstB (fun z => if stored.contains z then u z else m₀ z) (ps c) y) → News h₀ env.locals h (Led c ++ own) →
      wpAny (model prog w) A (execs body env) (InvPostG h₀ env.locals (MS Led ps x stored m₀ (P (i + 1))) own { s with heap := h, toks := tk } Q) E { s with heap := h, toks := tk })
    (done : ∀ (c : σ) (u : Str → Option Value) h tk, P xt.cps.size c → Fr h₀ env.locals h (fun y => if y = x then u y else kstB (fun z => if stored.contains z then u z else m₀ z) (ps c) y) → News h₀ env.locals h (Led c) → Q .next { s with heap := h, toks := tk }) :
    wpAny (model prog w) A (pyIter (.str xt tx)) (fun it s₂ => LoopAtV prog w A h₀ env x body Q E it s₂) E s := by
  obtain ⟨c₀, N, hk, hp⟩ := h0
  have key : ∀ (o : Obj) (St : Nat → Heap → Prop), Walks prog w A s.heap.objs.size [s.heap.objs.size] [s.heap.objs.size] xt.cps.size (SignAt xt) St → (∀ i h, St i h → ∃ o, h.get? s.heap.objs.size = some o) → St 0 (s.heap.push o) →
      LoopAtV prog w A h₀ env x body Q E (.ref s.heap.objs.size) { s with heap := s.heap.push o } := by
    intro o St W hl hst
    refine loopG (fun i m nx => MS Led ps x stored m₀ (P i) m nx) W hl ?_ ?_ ?_ hst (F.push _) (fun p hp => ⟨Heap.get?_push_of_some _ (N p hp).1, (N p hp).2⟩) ⟨c₀, rfl, hk, fun _ _ _ _ => rfl, hp⟩ ?_ ?_
    · exact fun e => absurd F.ns.lt (e ▸ Nat.lt_irrefl _)
    · exact next_is_new F
    · exact fun p hp e => absurd (Heap.lt_size (N p hp).1) (e ▸ Nat.lt_irrefl _)
    · rintro i v m₁ nx h tk own hi ⟨cc, t, hc, rfl⟩ hoff ⟨c, rfl, h1, h2, hp'⟩ F₁ N₁
      exact turn i cc c t m₁ h tk own hc hoff hp' (kst_fr h1 h2 F₁) N₁
    · rintro m₁ nx h tk ⟨c, rfl, h1, h2, hp'⟩ F₁ N₁
      exact done c m₁ h tk hp' (kst_frOut h1 h2 F₁) N₁
  cases ha : xt.cps.all (· < 128)
  · exact wpAny_pyIter_wide ha (key _ _ (Walks.strWide hh _ xt tx) (fun i h st => let ⟨o, ho, _⟩ := st; ⟨o, ho⟩) ⟨_, Heap.get?_push_size _ rfl, rfl, rfl⟩)
  · exact wpAny_pyIter_ascii ha (key _ _ (Walks.strAscii hh _ xt tx) (fun i h st => let ⟨o, ho, _⟩ := st; ⟨o, ho⟩) ⟨_, Heap.get?_push_size _ rfl, rfl, rfl⟩)

theorem kstB_out {ps : List (Str × Value)} {stored : List Str} {u m₀ : Str → Option Value} {z : Str} (h2 : ∀ p ∈ ps, z ≠ p.1) (h3 : stored.contains z = false) : kstB (fun z => if stored.contains z then u z else m₀ z) ps z = m₀ z := by
  induction ps with
  | nil => show (if stored.contains z = true then u z else m₀ z) = m₀ z; rw [h3]; rfl
  | cons p r ih =>
    show (if z = p.1 then some p.2 else kstB _ r z) = m₀ z
    rw [if_neg (h2 p (.head _))]
    exact ih (fun q hq => h2 q (.tail _ hq))
theorem ne_of_stored {stored : List Str} {z n : Str} (h3 : stored.contains z = false) (h : stored.contains n = true) : z ≠ n := fun e => by rw [e, h] at h3; cases h3
theorem endG {σ : Type} {Led : σ → List (Addr × Obj)} {ps : σ → List (Str × Value)} {stored : List Str} {m₀ : Str → Option Value} {P : σ → Prop} (c : σ) {L : Addr} {m' : Str → Option Value} {own news' : List (Addr × Obj)} {s₁ : Shared} {h' : Heap} {tk : Nat}
    (F : Fr h₀ L h' m') (N : News h₀ L h' news') (hn : ∀ p ∈ Led c, p ∈ news') (ho : ∀ p ∈ own, p ∈ news') (hoff : OwnOff own ((Led c).map (·.1))) (hk : ∀ p ∈ ps c, m' p.1 = some p.2) (hr : ∀ z, z ≠ x → (∀ p ∈ ps c, z ≠ p.1) → stored.contains z = false → m' z = m₀ z) (hp : P c) :
    InvEndG h₀ L (MS Led ps x stored m₀ P) own s₁ { s₁ with heap := h', toks := tk } :=
  InvEndG.intro F N ⟨c, rfl, hk, hr, hp⟩ hoff hn ho

theorem whG {σ : Type} {test : Expr} {body : List Stmt} {pos : Pos} {L : Addr} {m₀ : Str → Option Value} (Led : σ → List (Addr × Obj)) (ps : σ → List (Str × Value)) (stored : List Str) (P : σ → Prop) (μ : σ → Nat)
    (F : Fr h₀ L s.heap m₀) (h0 : ∃ c₀ : σ, News h₀ L s.heap (Led c₀) ∧ (∀ p ∈ ps c₀, m₀ p.1 = some p.2) ∧ P c₀)
    (turn : ∀ (c : σ) (u : Str → Option Value) h tk, P c → Fr h₀ L h (kstB (fun z => if stored.contains z then u z else m₀ z) (ps c)) → News h₀ L h (Led c) →
      wpAny (model prog w) A (isTrue test env (eval test env)) (fun b s₂ =>
        if b = true then wpAny (model prog w) A (execs body env) (KswPost h₀ L s Led ps (fun _ => True) stored m₀ P μ Q c) E s₂ else Q .next s₂) E { s with heap := h, toks := tk })
    (hE : PassesOwn (model prog w) A env E := by passes_own) :
    wpAny (model prog w) A (exec (.While test body [] pos) env) Q E s := by
  obtain ⟨c₀, N, hk, hp⟩ := h0
  exact ksw_while Led ps (fun _ => True) stored P μ c₀ F N trivial hk hp (fun c u h tk _ => turn c u h tk) hE

theorem execs_cut {st : Stmt} {rest : List Stmt} (J : Shared → Prop) (h1 : wpAny (model prog w) A (exec st env) (fun f s' => match f with | .next => J s' | f => Q f s') E s) (h2 : ∀ s', J s' → wpAny (model prog w) A (execs rest env) Q E s') :
    wpAny (model prog w) A (execs (st :: rest) env) Q E s := by
  refine wpAny_execs_cons (wpAny_mono h1 (fun f s' p => ?_) fun _ _ e => e)
  cases f <;> first | exact h2 _ p | exact p
end
end Mine

-- MX
theorem Mine.setMX : True := by
  k_with "m eval Name" => (k_here; name_kind "local"; k_dflt (refine' ld (by k_asm) ?_ ?_; (first | exact rfl | (rotate_left; exact rfl)); k_whole))
  k_with "m k_mem" => first | with_reducible assumption | (refine' List.mem_append_left _ ?_; k_mem) | (refine' List.mem_append_right _ ?_; k_mem)
  k_with "m ne" => first | assumption | (rename ∀ p ∈ _, _ ≠ Prod.fst p => hh2; k_extra "m ne1") | (refine ne_of_stored (by assumption) ?_; decide +kernel)
  k_with "m ne1" => (rename ∀ p ∈ _, _ ≠ Prod.fst p => hh2; first | (have hh3 := hh2 _ (List.Mem.head _); exact hh3) | (replace hh2 := ne_tail hh2; k_extra "m ne1"))
  k_with "m nes" => first | exact fa0 | (refine faC ?_ ?_; (k_extra "m ne"); (k_extra "m nes"))
  k_with "m same1" => first | (refine kstB_out ?_ (by assumption); k_extra "m nes") | (refine (if_neg ?_).trans ?_; (k_extra "m ne"); (k_extra "m same1"))
  k_with "m same" => (intro z h1 h2 h3; k_extra "m same1")
  k_with "m sameW" => (intro z h2 h3; k_extra "m same1")
  k_with "m k_all" => first | with_reducible assumption | (refine' List.forall_mem_append.mpr ⟨?_, ?_⟩; (k_all); (k_all))
  trivial
open Mine
local macro_rules | `(tactic| k_mem) => `(tactic| k_extra "m k_mem")
theorem Mine.ne_tail {α β : Type} {x : α} {a : α × β} {l : List (α × β)} (h : ∀ p ∈ a :: l, x ≠ p.1) : ∀ p ∈ l, x ≠ p.1 := fun p hp => h p (.tail _ hp)
local macro_rules | `(tactic| k_room) => `(tactic| ktr_room)
local macro_rules | `(tactic| k_all) => `(tactic| k_extra "m k_all")
def Mine.mTab : List (String × String) := [("execs cons Assign cons", "m execs cons"), ("CompSrc", "m TupSrc"), ("CompSrcT", "m TupSrc"), ("subscriptTail Name UnaryOp ref int", "m subscriptTail"), ("subscriptTail Name Constant ref int", "m subscriptTail"), ("subscriptTail Name Name ref int", "m subscriptTail"), ("subscriptTail List Name ref int", "m subscriptTail"), ("exec While Compare cons nil", "m exec While BoolOp cons nil")]
local macro_rules
  | `(tactic| walk_at $s:str) => `(tactic| k_dflt (k_extra $(Lean.Syntax.mkStrLit ((Mine.mTab.lookup s.getString).getD ("m " ++ s.getString))):str))

-- MHk
theorem Mine.setMHk : True := by
  k_with "hk on" => fail_if_success (fail_if_success (with_reducible rename HkOn => hkOn))
  k_with "hk ne" => first | exact neAround | exact neShared | exact neWorld | exact neDrawn | exact neGen | exact neSCtx | exact neI | exact Nonempty.intro (by constructor <;> first | exact default | (constructor <;> exact default))
  k_with "m execs cons" => (k_extra "hk on"; (try k_made); (with_reducible refine wpAny_execs_cons ?_); try dsimp only)
  k_with "m execs nil" => (k_extra "hk on"; refine wpAny_execs_nil ?_)
  k_with "hk omega" => ((k_extra "hk on"); dsimp +zetaDelta only; first | lia | omega +splitDisjunctions)
  trivial
noncomputable section
namespace Mine
structure HkB (n : Nat) {α : Type} (P : α → Prop) where
  val : α
  spec : P val → ∀ y, P y
theorem hkB_ne (n : Nat) {α : Type} (ne : Nonempty α) (P : α → Prop) : Nonempty (HkB n P) := by
  by_cases h : ∃ y, ¬ P y
  · obtain ⟨y, hy⟩ := h
    exact ⟨⟨y, fun h => absurd h hy⟩⟩
  · obtain ⟨y⟩ := ne
    exact ⟨⟨y, fun _ z => Classical.byContradiction fun hz => h ⟨z, hz⟩⟩⟩
def hkV {n : Nat} {α : Type} {ne : Nonempty α} {P : α → Prop} : HkB n P := Classical.choice (hkB_ne n ne P)
inductive HkTag (n : Nat) {α : Type} (ne : Nonempty α) (P : α → Prop) : Prop where
  | mk
def HkU (α : Type) (_ : Prop) : Type := α
def hkU (n : Nat) {α : Type} {ne : Nonempty α} {P : α → Prop} : HkU α (HkTag n ne P) := (@hkV n α ne P).val
instance hkInst {n : Nat} {α : Type} {ne : Nonempty α} {P : α → Prop} : Inhabited (HkU α (HkTag n ne P)) := ⟨@hkU n α ne P⟩
inductive HkOn : Prop where
  | mk
theorem hk_all {α : Type} (n : Nat) (ne : Nonempty α) {P : α → Prop} (_ : HkTag n ne P) (i : Inhabited α) {x : α} (_ : i = ⟨x⟩) (hx : x = @hkU n α ne P) (h : P x) : ∀ y, P y := by
  rw [hx] at h
  exact (@hkV n α ne P).spec h
theorem exE {α : Type} {p : α → Prop} {G : Prop} (h : ∃ x, p x) (k : ∀ x, p x → G) : G := let ⟨x, hx⟩ := h; k x hx
theorem neAround : Nonempty Around := ⟨{}⟩
theorem neShared : Nonempty Shared := ⟨{}⟩
theorem neDrawn : Nonempty Drawn := ⟨{}⟩
theorem neGen : Nonempty GenState := ⟨.running⟩
theorem neWorld : Nonempty World := ⟨⟨fun _ _ => 0, { strHash := fun _ => 0, shareClass := fun _ => 0, mergeTok := id, idOf := fun _ => 0, idOfShared := fun _ _ => 0, followText := fun _ => true, idOfImm := fun _ => 0 }⟩⟩
theorem neI {α : Type} [Inhabited α] : Nonempty α := ⟨default⟩
structure SCtx where
  mean : ExcName → Option Value
  mg : Str → Option Value
  mb : Str → Option Value
  dp : Nat
  un : Nat
  gd : Option (List Code)
  cn : Str
  cs : Scope
  a : Addr
  ccd : Value
  cl : List (Str × Addr)
  outer : List Env
  A₀ : Around
  base : Heap
  h₀ : Heap
  L : Addr
  m : Str → Option Value
  s : Shared
  Q : Value → Shared → Prop
  E : Value → Shared → Prop
theorem neSCtx : Nonempty SCtx := ⟨⟨fun _ => none, fun _ => none, fun _ => none, 0, 0, none, default, default, 0, default, [], [], {}, {}, {}, 0, fun _ => none, {}, fun _ _ => True, fun _ _ => True⟩⟩
theorem spec_ctx {w : World} {f : Addr} {D U : Nat} {vs : List Value} {news : List (Addr × Obj)} {Post : Value → List (Addr × Obj) → Prop}
    (h : ∀ c : SCtx, Below c.A₀ c.base c.outer c.h₀ → Fr c.h₀ c.L c.s.heap c.m → (Mine.hd.heap_1 w.params).In c.h₀ → News c.h₀ c.L c.s.heap news → Top P0 L0 c.mean c.mg c.mb c.h₀ → c.cs.kind = .function →
      c.dp + D < recursionLimit → c.un + U < cLine →
      (∀ r tl h' tk', Fr c.h₀ c.L h' c.m → News c.h₀ c.L h' (tl ++ news) → Post r tl → c.Q r { c.s with heap := h', toks := tk' }) →
      wpAny (model PySem.Challenge.rw_wn0113_01.row.prog w) (ktrTop c.dp c.un c.gd c.cn c.cs c.L c.a c.ccd c.cl c.outer) (call (.ref f) vs) c.Q c.E c.s) : Spec w f D U vs news Post :=
  fun mean mg mb dp un gd cn cs a ccd cl outer A₀ base h₀ L m s Q E => h ⟨mean, mg, mb, dp, un, gd, cn, cs, a, ccd, cl, outer, A₀, base, h₀, L, m, s, Q, E⟩
end Mine
end
local macro_rules
 | `(tactic| intro $x:ident) => do
   let n := Lean.quote (← Lean.MonadQuotation.getCurrMacroScope)
   `(tactic| first | (k_extra "hk on"; k_dflt (refine' hk_all (x := ?hkv) (nat_lit $n) ?hkn ?hkp ?hki ?hke ?hkx ?hkm; (case hkn => k_extra "hk ne"); (case hki => exact inferInstanceAs (Inhabited (HkU _ (type_of% ?hkp)))); (case hke => exact rfl); (case hkx => exact rfl); (case hkp => exact HkTag.mk); let $x := ?hkv)) | intros $x)
 | `(tactic| intro $x:term $y $ys*) => `(tactic| (intro $x:term; intro $y $ys*))
 | `(tactic| intro _) => `(tactic| intro x)
 | `(tactic| k_fold) => `(tactic| k_extra "hk on")
 | `(tactic| omega) => `(tactic| first | lia | omega +splitDisjunctions | k_extra "hk omega")

-- MC
namespace Mine
noncomputable def SpecC (w : World) (f : Addr) (D U : Nat) (vs : List Value) (news : List (Addr × Obj)) (Post : Value → List (Addr × Obj) → Prop) (PX : Value → Prop) : Prop :=
  ∀ (mean : ExcName → Option Value) (mg mb : Str → Option Value) (dp un : Nat) (gd : Option (List Code)) (cn : Str) (cs : Scope) (a : Addr) (ccd : Value) (outer : List Env) (A₀ : Around) (base h₀ : Heap) (L : Addr) (m : Str → Option Value) (s : Shared) (Q E : Value → Shared → Prop),
    Below A₀ base outer h₀ → Fr h₀ L s.heap m → (Mine.hd.heap_1 w.params).In h₀ → News h₀ L s.heap news → Top P0 L0 mean mg mb h₀ → (Mine.hd.heap_1 w.params).In base → Top P0 L0 mean mg mb base → cs.kind = .function →
    dp + D < recursionLimit → un + U < cLine → KtsDicts (frs outer) h₀ →
    (∀ r tl h' tk' h₀', Back A₀ base outer (Mine.hd.heap_1 w.params) P0 L0 mean mg mb h₀ L m (tl ++ news) h' h₀' → Post r tl → Q r { s with heap := h', toks := tk' }) →
    (∀ e cls t as g h' tk', Fr h₀ L g m → RaisedS base g (envOf cn cs L a ccd :: outer) e cls t as news h' → RaisedK base (envOf cn cs L a ccd :: outer) e cls t as news h' → g.UpToSlots h' → PX cls → E (.ref e) { s with heap := h', toks := tk' }) →
    wpC (model PySem.Challenge.rw_wn0113_01.row.prog w) (ktrTop dp un gd cn cs L a ccd [] outer) (call (.ref f) vs) Q E s
section
variable {M : Model} {A : Around} {E : Value → Shared → Prop} {s : Shared} {env : Env}
theorem wpC_cutN (n : Nat) {l : List Stmt} {Q : Flow → Shared → Prop} (h : wpAny M A (execs (l.take n) env) (fun f s' => match f with | .next => wpC M A (execs (l.drop n) env) Q E s' | f => Q f s') E s) : wpC M A (execs l env) Q E s := by
  have z := wpC_cut (Q := Q) h
  rw [List.take_append_drop] at z
  exact z
end
theorem RaisedS_sub {base G : Heap} {l : List Env} {e t : Addr} {cls : Value} {vs : List Value} {news news' : List (Addr × Obj)} {h : Heap} (R : RaisedS base G l e cls t vs news h) (hs : ∀ p ∈ news', p ∈ news) : RaisedS base G l e cls t vs news' h := by
  obtain ⟨⟨B, h1, h2, h3, h4, h5⟩, h6⟩ := R
  exact ⟨⟨B, h1, h2, fun q hq => h3 q (hs q hq), h4, h5⟩, h6⟩
theorem endC {A₀ : Around} {base : Heap} {outer : List Env} {K : Frag} {p : Program} {loose : List Str} {mean : ExcName → Option Value} {mg mb : Str → Option Value} {h₀ g g' : Heap} {L L' : Addr} {m m' : Str → Option Value} {news led : List (Addr × Obj)} {s s' : Shared} {Q : Value → Shared → Prop} {Post : Value → List (Addr × Obj) → Prop} {v : Value} {fs : List Addr} {R : Result → Shared → Prop}
    (ret : ∀ r tl h' tk' h₀', Back A₀ base outer K p loose mean mg mb h₀ L m (tl ++ news) h' h₀' → Post r tl → Q r { s with heap := h', toks := tk' })
    (tl : List (Addr × Obj)) (T : KtsTurn fs g g') (F : Fr g' L' s'.heap m') (N : News g' L' s'.heap led) (hl : ∀ p ∈ tl ++ news, p ∈ led) (hp : Post v tl) (hs : s' = { s with heap := s'.heap, toks := s'.toks }) (hR : Q v s' → R (.ok (.ret v)) s') :
    ExitC A₀ base outer fs K p loose mean mg mb h₀ L m g L' R v s' :=
  ⟨g', m', tl ++ news, T, F, news_sub N hl, fun h₀' b => hR (by
    rw [hs]
    exact ret v tl s'.heap s'.toks h₀' b hp)⟩
section
variable {M : Model} {A : Around} {E : Value → Shared → Prop} {s : Shared} {env : Env}
theorem wpC_callType {pos : Pos} {T : String} {e : PySem.Expr} {rest : List PySem.Expr} {Q : Value → Shared → Prop}
    (h : wpAny M A (spliced (backTo pos (starEach (e :: rest) env))) (fun vs s₁ => wpC M A (call (.type T) vs) Q E s₁) E s)
    (he : starEach (e :: rest) env = (false, eval e env) :: starEach rest env := by rfl)
    (hplain : (backTo pos (starEach rest env)).any (·.1) = false := by rfl) :
    wpC M A (callWith pos (.type T) [] (backTo pos (starEach (e :: rest) env)) []) Q E s := by
  rw [he] at h ⊢
  exact wpC_callWith_type (by show (false || (backTo pos (starEach rest env)).any (·.1)) = false; rw [hplain]; rfl) (evalArgs_plain h)
noncomputable def AtDef (a : Addr) (W : Shared → Prop) (s : Shared) : Prop := (∃ o fd, s.heap.get? a = some o ∧ o.data = .func fd) ∧ W s
theorem atDef {a L : Addr} {K : Frag} {h₀ : Heap} {m : Str → Option Value} {W : Shared → Prop} {s : Shared} {oc : Value} {od : Option Addr} {fd : FuncData} {osl : Array (Option Value)} (F : Fr h₀ L s.heap m) (X : K.In h₀) (ho : K.lookup a = some ⟨oc, od, .func fd, osl⟩) (h : W s) : AtDef a W s :=
  ⟨⟨_, fd, F.keep _ _ (X _ _ ho), rfl⟩, h⟩
theorem wpC_callDef {pos : Pos} {a : Addr} {e : PySem.Expr} {rest : List PySem.Expr} {Q : Value → Shared → Prop}
    (h : wpAny M A (spliced (backTo pos (starEach (e :: rest) env))) (fun vs s₁ => AtDef a (wpC M A (call (.ref a) vs) Q E) s₁) E s)
    (he : starEach (e :: rest) env = (false, eval e env) :: starEach rest env := by rfl)
    (hplain : (backTo pos (starEach rest env)).any (·.1) = false := by rfl) (hfew : (backTo pos (starEach (e :: rest) env)).length ≤ 30 := by exact Nat.le_of_ble_eq_true rfl) :
    wpC M A (callWith pos (.ref a) [] (backTo pos (starEach (e :: rest) env)) []) Q E s := by
  rw [he] at h hfew ⊢
  unfold callWith
  refine wpC_bind (wpC_holding (wpC_any (evalArgs_plain (wpAny_mono h (fun vs s₁ h₁ => wpC_step (wpAny_standAt ?_)) fun _ _ x => x))))
  have hp : (backTo pos ((false, eval e env) :: starEach rest env)).any (·.1) = false := by show (false || (backTo pos (starEach rest env)).any (·.1)) = false; rw [hplain]; rfl
  simp only [hp, List.any_nil, Bool.or_false]
  obtain ⟨⟨o, fd, h2, h3⟩, h4⟩ := h₁
  refine wpC_step (m := keeperOf (.ref a)) ?_
  unfold keeperOf
  refine wpAny_bind (wpAny_load h2 ?_)
  rw [h3]
  refine wpAny_pure ?_
  dsimp only
  rw [if_neg (by simp only [List.length_nil]; omega)]
  unfold callMarked
  exact wpC_bind (wpC_keep (wpC_mono h4 (fun r s₂ hr => wpC_step (wpAny_holding (wpAny_point (wpC_pure hr)))) fun _ _ x => x))
end
theorem specX_use {w : World} {f : Addr} {D U : Nat} {vs : List Value} {news : List (Addr × Obj)} {Post : Value → List (Addr × Obj) → Prop} {PX : Value → Prop} (C : SpecX w f D U vs news Post PX)
    {mean : ExcName → Option Value} {mg mb : Str → Option Value} {dp un : Nat} {gd : Option (List Code)} {cn : Str} {cs : Scope} {a : Addr} {ccd : Value} {outer : List Env} {A₀ : Around} {base h₀ : Heap} {L : Addr} {m : Str → Option Value} {s : Shared} {Q E : Value → Shared → Prop}
    (B : Below A₀ base outer h₀) (F : Fr h₀ L s.heap m) (X : (Mine.hd.heap_1 w.params).In h₀) (N : News h₀ L s.heap news) (T : Top P0 L0 mean mg mb h₀) (hk : cs.kind = .function)
    (hd : dp + D < recursionLimit) (hu : un + U < cLine) (hD : KtsDicts (outer.filterMap (·.frame)) h₀)
    (ret : ∀ r tl h' tk', Fr h₀ L h' m → News h₀ L h' (tl ++ news) → Post r tl → Q r { s with heap := h', toks := tk' })
    (retx : ∀ e cls t as g h' tk', Fr h₀ L g m → RaisedS base g (envOf cn cs L a ccd :: outer) e cls t as news h' → RaisedK base (envOf cn cs L a ccd :: outer) e cls t as news h' → g.UpToSlots h' → PX cls → E (.ref e) { s with heap := h', toks := tk' }) :
    wpAny (model PySem.Challenge.rw_wn0113_01.row.prog w) (ktrTop dp un gd cn cs L a ccd [] outer) (call (.ref f) vs) Q E s :=
  C _ _ _ _ _ _ _ _ _ _ _ _ _ _ _ _ _ _ _ B F X N T hk hd hu hD ret retx
theorem specC_use {w : World} {f : Addr} {D U : Nat} {vs : List Value} {news : List (Addr × Obj)} {Post : Value → List (Addr × Obj) → Prop} {PX : Value → Prop} (C : SpecC w f D U vs news Post PX)
    {mean : ExcName → Option Value} {mg mb : Str → Option Value} {dp un : Nat} {gd : Option (List Code)} {cn : Str} {cs : Scope} {a : Addr} {ccd : Value} {outer : List Env} {A₀ : Around} {base h₀ : Heap} {L : Addr} {m : Str → Option Value} {s : Shared} {Q E : Value → Shared → Prop}
    (B : Below A₀ base outer h₀) (F : Fr h₀ L s.heap m) (X : (Mine.hd.heap_1 w.params).In h₀) (N : News h₀ L s.heap news) (T : Top P0 L0 mean mg mb h₀) (XB : (Mine.hd.heap_1 w.params).In base) (TB : Top P0 L0 mean mg mb base) (hk : cs.kind = .function)
    (hd : dp + D < recursionLimit) (hu : un + U < cLine) (hD : KtsDicts (frs outer) h₀)
    (ret : ∀ r tl h' tk' h₀', Back A₀ base outer (Mine.hd.heap_1 w.params) P0 L0 mean mg mb h₀ L m (tl ++ news) h' h₀' → Post r tl → Q r { s with heap := h', toks := tk' })
    (retx : ∀ e cls t as g h' tk', Fr h₀ L g m → RaisedS base g (envOf cn cs L a ccd :: outer) e cls t as news h' → RaisedK base (envOf cn cs L a ccd :: outer) e cls t as news h' → g.UpToSlots h' → PX cls → E (.ref e) { s with heap := h', toks := tk' }) :
    wpC (model PySem.Challenge.rw_wn0113_01.row.prog w) (ktrTop dp un gd cn cs L a ccd [] outer) (call (.ref f) vs) Q E s :=
  C _ _ _ _ _ _ _ _ _ _ _ _ _ _ _ _ _ _ _ B F X N T XB TB hk hd hu hD ret retx
end Mine

-- MHu
theorem Mine.setMHu : True := by
  k_with "hk ne" => exact neWsD
  trivial
namespace Mine
section
variable {w : World} {f : Addr} {D U : Nat} {vs : List Value} {news : List (Addr × Obj)} {mean : ExcName → Option Value} {mg mb : Str → Option Value} {dp un : Nat} {gd : Option (List Code)} {cn : Str} {cs : Scope} {a : Addr} {ccd : Value} {cl : List (Str × Addr)} {outer : List Env} {A₀ : Around} {base h₀ : Heap} {L : Addr} {m : Str → Option Value} {s : Shared} {Q E : Value → Shared → Prop}
theorem spec_useE {β : Type} {E' : β → Value} {R : β → List (Addr × Obj) → Prop} (C : Spec w f D U vs news (fun r tl => ∃ b, r = E' b ∧ R b tl))
    (B : Below A₀ base outer h₀) (F : Fr h₀ L s.heap m) (X : (Mine.hd.heap_1 w.params).In h₀) (N : News h₀ L s.heap news) (T : Top P0 L0 mean mg mb h₀) (hk : cs.kind = .function)
    (hd : dp + D < recursionLimit) (hu : un + U < cLine)
    (ret : ∀ b tl h' tk', Fr h₀ L h' m → News h₀ L h' (tl ++ news) → R b tl → Q (E' b) { s with heap := h', toks := tk' }) :
    wpAny (model PySem.Challenge.rw_wn0113_01.row.prog w) (ktrTop dp un gd cn cs L a ccd cl outer) (call (.ref f) vs) Q E s :=
  spec_use C B F X N T hk hd hu fun r tl h' tk' F' N' hp => by
    obtain ⟨b, rfl, hR⟩ := hp
    exact ret b tl h' tk' F' N' hR
theorem spec_useT {E' : Tok → Value} (C : Spec w f D U vs news (fun r _ => ∃ t, r = E' t))
    (B : Below A₀ base outer h₀) (F : Fr h₀ L s.heap m) (X : (Mine.hd.heap_1 w.params).In h₀) (N : News h₀ L s.heap news) (T : Top P0 L0 mean mg mb h₀) (hk : cs.kind = .function)
    (hd : dp + D < recursionLimit) (hu : un + U < cLine)
    (ret : ∀ t h' tk', Fr h₀ L h' m → News h₀ L h' news → Q (E' t) { s with heap := h', toks := tk' }) :
    wpAny (model PySem.Challenge.rw_wn0113_01.row.prog w) (ktrTop dp un gd cn cs L a ccd cl outer) (call (.ref f) vs) Q E s :=
  spec_use C B F X N T hk hd hu fun r tl h' tk' F' N' hp => by
    obtain ⟨t, rfl⟩ := hp
    exact ret t h' tk' F' (news_sub N' fun p hp => List.mem_append_right _ hp)
end
theorem specX_ctx {w : World} {f : Addr} {D U : Nat} {vs : List Value} {news : List (Addr × Obj)} {Post : Value → List (Addr × Obj) → Prop} {PX : Value → Prop}
    (h : ∀ c : SCtx, Below c.A₀ c.base c.outer c.h₀ → Fr c.h₀ c.L c.s.heap c.m → (Mine.hd.heap_1 w.params).In c.h₀ → News c.h₀ c.L c.s.heap news → Top P0 L0 c.mean c.mg c.mb c.h₀ → c.cs.kind = .function →
      c.dp + D < recursionLimit → c.un + U < cLine → KtsDicts (c.outer.filterMap (·.frame)) c.h₀ →
      (∀ r tl h' tk', Fr c.h₀ c.L h' c.m → News c.h₀ c.L h' (tl ++ news) → Post r tl → c.Q r { c.s with heap := h', toks := tk' }) →
      (∀ e cls t as g h' tk', Fr c.h₀ c.L g c.m → RaisedS c.base g (envOf c.cn c.cs c.L c.a c.ccd :: c.outer) e cls t as news h' → RaisedK c.base (envOf c.cn c.cs c.L c.a c.ccd :: c.outer) e cls t as news h' → g.UpToSlots h' → PX cls → c.E (.ref e) { c.s with heap := h', toks := tk' }) →
      wpAny (model PySem.Challenge.rw_wn0113_01.row.prog w) (ktrTop c.dp c.un c.gd c.cn c.cs c.L c.a c.ccd [] c.outer) (call (.ref f) vs) c.Q c.E c.s) : SpecX w f D U vs news Post PX :=
  fun mean mg mb dp un gd cn cs a ccd outer A₀ base h₀ L m s Q E => h ⟨mean, mg, mb, dp, un, gd, cn, cs, a, ccd, [], outer, A₀, base, h₀, L, m, s, Q, E⟩
theorem specC_ctx {w : World} {f : Addr} {D U : Nat} {vs : List Value} {news : List (Addr × Obj)} {Post : Value → List (Addr × Obj) → Prop} {PX : Value → Prop}
    (h : ∀ c : SCtx, Below c.A₀ c.base c.outer c.h₀ → Fr c.h₀ c.L c.s.heap c.m → (Mine.hd.heap_1 w.params).In c.h₀ → News c.h₀ c.L c.s.heap news → Top P0 L0 c.mean c.mg c.mb c.h₀ → (Mine.hd.heap_1 w.params).In c.base → Top P0 L0 c.mean c.mg c.mb c.base → c.cs.kind = .function →
      c.dp + D < recursionLimit → c.un + U < cLine → KtsDicts (frs c.outer) c.h₀ →
      (∀ r tl h' tk' h₀', Back c.A₀ c.base c.outer (Mine.hd.heap_1 w.params) P0 L0 c.mean c.mg c.mb c.h₀ c.L c.m (tl ++ news) h' h₀' → Post r tl → c.Q r { c.s with heap := h', toks := tk' }) →
      (∀ e cls t as g h' tk', Fr c.h₀ c.L g c.m → RaisedS c.base g (envOf c.cn c.cs c.L c.a c.ccd :: c.outer) e cls t as news h' → RaisedK c.base (envOf c.cn c.cs c.L c.a c.ccd :: c.outer) e cls t as news h' → g.UpToSlots h' → PX cls → c.E (.ref e) { c.s with heap := h', toks := tk' }) →
      wpC (model PySem.Challenge.rw_wn0113_01.row.prog w) (ktrTop c.dp c.un c.gd c.cn c.cs c.L c.a c.ccd [] c.outer) (call (.ref f) vs) c.Q c.E c.s) : SpecC w f D U vs news Post PX :=
  fun mean mg mb dp un gd cn cs a ccd outer A₀ base h₀ L m s Q E => h ⟨mean, mg, mb, dp, un, gd, cn, cs, a, ccd, [], outer, A₀, base, h₀, L, m, s, Q, E⟩
structure WsD where
  dx : Addr
  nm : Addr
  ct : Addr
  raw : Str
  cvs : List Value
  k1 : Tok
  k2 : Tok
  k3 : Tok
  k4 : Tok
  k5 : Tok
  t1 : Tok
  t2 : Tok
  t3 : Tok
  t4 : Tok
  n1 : Nat
  n2 : Nat
  n3 : Nat
theorem neWsD : Nonempty WsD := ⟨⟨0, 0, 0, default, [], default, default, default, default, default, default, default, default, default, 0, 0, 0⟩⟩
theorem WsAt.data {w : World} {news : List (Addr × Obj)} {x : Addr} {n nt b : Int} {cnt : List Int} (W : WsAt w news x n nt b cnt) : ∃ d : WsD,
   (x, instObj 124 d.dx) ∈ news ∧
   (d.dx, dictOf [⟨PyData.keyHash w.params "raw", .str "raw" d.k1, .str d.raw d.t1⟩, ⟨PyData.keyHash w.params "n", .str "n" d.k2, .int n d.t2⟩, ⟨PyData.keyHash w.params "nt", .str "nt" d.k3, .int nt d.t3⟩, ⟨PyData.keyHash w.params "norm", .str "norm" d.k4, .ref d.nm⟩, ⟨PyData.keyHash w.params "is_simple", .str "is_simple" d.k5, .bool (decide ((cnt.length : Int) ≤ 1))⟩] d.n1) ∈ news ∧
   (d.nm, tupO [.ref d.ct, .int b d.t4] d.n2) ∈ news ∧
   (d.ct, tupO d.cvs d.n3) ∈ news ∧ IntsAre d.cvs cnt ∧ cnt.length ≤ 1000 := by
  obtain ⟨dx, nm, ct, raw, cvs, k1, k2, k3, k4, k5, t1, t2, t3, t4, n1, n2, n3, h⟩ := W
  exact ⟨⟨dx, nm, ct, raw, cvs, k1, k2, k3, k4, k5, t1, t2, t3, t4, n1, n2, n3⟩, h⟩
end Mine

-- C2
noncomputable section
namespace Mine
section
variable {prog : Program} {w : World} {A : Around} {E : Value → Shared → Prop} {s : Shared} {h₀ : Heap} {L : Addr} {news : List (Addr × Obj)}
theorem len_tupI {t : Addr} {vs : List Value} {cnt : List Int} {n : Nat} {Q : Value → Shared → Prop} (N : News h₀ L s.heap news) (hm : (t, tupO vs n) ∈ news) (hi : IntsAre vs cnt) (hl : cnt.length ≤ 1000)
    (h : Q (.int (cnt.length : Int) (s.toks + 1)) { s with toks := s.toks + 1 + 1 }) : wpAny (model prog w) A (call (.builtin "len") [.ref t]) Q E s := by
  have e : vs.toArray.size = cnt.length := by rw [List.size_toArray, hi.length]
  refine len_tuple (News.isTup N hm) (by rw [e]; omega) ?_
  rw [e]; exact h
theorem seqIndex_in {k : Int} {n : Nat} (h0 : 0 ≤ k) (h1 : k < n) : seqIndex? k n = some k.toNat := by
  unfold seqIndex?
  have e : (if k < 0 then k + (n : Int) else k) = k := if_neg (by omega)
  simp only [e]
  rw [if_pos (by simp [h0, h1])]
theorem item_tupI {t : Addr} {vs : List Value} {cnt : List Int} {n : Nat} {k : Int} {u : Tok} {value slice : Expr} {Q : Value → Shared → Prop} (N : News h₀ L s.heap news) (hm : (t, tupO vs n) ∈ news) (hi : IntsAre vs cnt) (h0 : 0 ≤ k) (h1 : k < cnt.length) (hl : cnt.length ≤ 1000)
    (h : ∀ u', Q (.int (cnt.getD k.toNat 0) u') s)
    (hs : subscripted slice false (.ref t) (.int k u) = operate [.ref t, .int k u] (getItem (.ref t) (.int k u)) := by with_unfolding_all rfl) :
    wpAny (model prog w) A (subscriptTail value slice (.ref t) (.int k u)) Q E s := by
  have hk : k.toNat < cnt.length := by omega
  obtain ⟨u', hu⟩ := hi.get k.toNat cnt[k.toNat] (by simp [hk])
  have e : cnt[k.toNat] = cnt.getD k.toNat 0 := by simp [List.getD_eq_getElem?_getD, hk]
  rw [e] at hu
  refine item_tupleT (News.isTup N hm) (by omega) (by omega) (j := k.toNat) ?_ (by simpa using hu) (h u') hs
  exact (hi.length.symm ▸ seqIndex_in h0 h1 : seqIndex? k vs.length = some k.toNat)
end
theorem fdiv_le {i t : Int} (h0 : 0 ≤ i) (h1 : 1 ≤ t) : 0 ≤ Int.fdiv i t ∧ Int.fdiv i t ≤ i := by
  rw [Int.fdiv_eq_ediv_of_nonneg i (by omega)]
  exact ⟨Int.ediv_nonneg h0 (by omega), Int.ediv_le_self _ h0⟩
theorem fdiv_bits {i t : Int} (h0 : 0 ≤ i) (h1 : 1 ≤ t) (h2 : i < 1000000) : Builtin.Int.intBits (Int.fdiv i t) ≤ 64 := by
  have := fdiv_le h0 h1
  exact PySem.intBits_le_64 (by omega) (by omega)

noncomputable def ilSum (ts : Int) (cnt : List Int) (pre : List Int) : Int := (pre.map fun i => Int.fdiv i ts * cnt.getD i.toNat 0).sum
theorem ilSum_snoc (ts : Int) (cnt pre : List Int) (k : Int) : ilSum ts cnt (pre ++ [k]) = ilSum ts cnt pre + Int.fdiv k ts * cnt.getD k.toNat 0 := by
  simp [ilSum]
theorem rangeKs_snoc (a : Int) (n : Nat) : rangeKs a (n + 1) = rangeKs a n ++ [a + (n : Int)] := by simp [rangeKs, List.range_succ]
noncomputable def lvl (nt b : Int) (cnt : List Int) (ts : Int) : Int := b + ts * (ilSum ts cnt (rangeKs ts ((cnt.length : Int) - ts).toNat) + nt)

theorem c_indent (w : World) (news : List (Addr × Obj)) (x : Addr) (n nt b ts : Int) (tt : Tok) (cnt : List Int) (W : WsAt w news x n nt b cnt) (h2 : 1 ≤ ts) (h3 : ts < 1000) :
    Spec w 93 1 20 [.ref x, .int ts tt] news (fun r _ => ∃ t, r = .int (lvl nt b cnt ts) t) := by
  have hkOn := HkOn.mk
  revert w news x n nt b ts tt cnt W h2 h3
  intro w news x n nt b ts tt cnt W h2 h3
  refine exE (W).data ?_
  intro d hd9
  obtain ⟨m1, m2, m3, m4, hI, hl⟩ := hd9
  refine spec_ctx ?_
  k_fill
  intro cx B F X N T hk hdp hun ret
  k_with_none
  k_with "m eval Name" => (k_here; name_kind "local"; k_dflt (refine' ld (by k_asm) ?_ ?_; (first | exact rfl | (rotate_left; exact rfl)); k_whole))
  k_with "m k_mem" => first | with_reducible assumption | (refine' List.mem_append_left _ ?_; k_mem) | (refine' List.mem_append_right _ ?_; k_mem)
  k_with "m ne" => first | assumption | (rename ∀ p ∈ _, _ ≠ Prod.fst p => hh2; k_extra "m ne1") | (refine ne_of_stored (by assumption) ?_; decide +kernel)
  k_with "m ne1" => (rename ∀ p ∈ _, _ ≠ Prod.fst p => hh2; first | (have hh3 := hh2 _ (List.Mem.head _); exact hh3) | (replace hh2 := ne_tail hh2; k_extra "m ne1"))
  k_with "m nes" => first | exact fa0 | (refine faC ?_ ?_; (k_extra "m ne"); (k_extra "m nes"))
  k_with "m same1" => first | (refine kstB_out ?_ (by assumption); k_extra "m nes") | (refine (if_neg ?_).trans ?_; (k_extra "m ne"); (k_extra "m same1"))
  k_with "m same" => (intro z h1 h2 h3; k_extra "m same1")
  k_with "m sameW" => (intro z h2 h3; k_extra "m same1")
  k_with "m k_all" => first | with_reducible assumption | (refine' List.forall_mem_append.mpr ⟨?_, ?_⟩; (k_all); (k_all))
  k_with "hk on" => fail_if_success (fail_if_success (with_reducible rename HkOn => hkOn))
  k_with "hk ne" => first | exact neAround | exact neShared | exact neWorld | exact neDrawn | exact neGen | exact neSCtx | exact neI | exact Nonempty.intro (by constructor <;> first | exact default | (constructor <;> exact default))
  k_with "m execs cons" => (k_extra "hk on"; (try k_made); (with_reducible refine wpAny_execs_cons ?_); try dsimp only)
  k_with "m execs nil" => (k_extra "hk on"; refine wpAny_execs_nil ?_)
  k_with "hk omega" => ((k_extra "hk on"); dsimp +zetaDelta only; first | lia | omega +splitDisjunctions)
  k_with "hk ne" => exact neWsD
  k_with_none
  k_with "m eval Name" => (k_here; name_kind "local"; k_dflt (refine' ld (by k_asm) ?_ ?_; (first | exact rfl | (rotate_left; exact rfl)); k_whole))
  k_with "m k_mem" => first | with_reducible assumption | (refine' List.mem_append_left _ ?_; k_mem) | (refine' List.mem_append_right _ ?_; k_mem)
  k_with "m ne" => first | assumption | (rename ∀ p ∈ _, _ ≠ Prod.fst p => hh2; k_extra "m ne1") | (refine ne_of_stored (by assumption) ?_; decide +kernel)
  k_with "m ne1" => (rename ∀ p ∈ _, _ ≠ Prod.fst p => hh2; first | (have hh3 := hh2 _ (List.Mem.head _); exact hh3) | (replace hh2 := ne_tail hh2; k_extra "m ne1"))
  k_with "m nes" => first | exact fa0 | (refine faC ?_ ?_; (k_extra "m ne"); (k_extra "m nes"))
  k_with "m same1" => first | (refine kstB_out ?_ (by assumption); k_extra "m nes") | (refine (if_neg ?_).trans ?_; (k_extra "m ne"); (k_extra "m same1"))
  k_with "m same" => (intro z h1 h2 h3; k_extra "m same1")
  k_with "m sameW" => (intro z h2 h3; k_extra "m same1")
  k_with "m k_all" => first | with_reducible assumption | (refine' List.forall_mem_append.mpr ⟨?_, ?_⟩; (k_all); (k_all))
  k_with "hk on" => fail_if_success (fail_if_success (with_reducible rename HkOn => hkOn))
  k_with "hk ne" => first | exact neAround | exact neShared | exact neWorld | exact neDrawn | exact neGen | exact neSCtx | exact neI | exact Nonempty.intro (by constructor <;> first | exact default | (constructor <;> exact default))
  k_with "m execs cons" => (k_extra "hk on"; (try k_made); (with_reducible refine wpAny_execs_cons ?_); try dsimp only)
  k_with "m execs nil" => (k_extra "hk on"; refine wpAny_execs_nil ?_)
  k_with "hk omega" => ((k_extra "hk on"); dsimp +zetaDelta only; first | lia | omega +splitDisjunctions)
  k_with "hk ne" => exact neWsD
  k_with "m call builtin:len" => (refine' len_tupI ?N ?m hI hl ?_; (case N => k_asm); (case m => k_mem))
  k_with "m subscriptTail" => (refine' item_tupI ?N ?m hI ?h0 ?h1 hl ?_; (case N => k_asm); (case m => k_mem); (case h0 => omega); (case h1 => omega); intro u')
  k_with "m binaryOp Mult int int" => (refine mul_int ?_ (IntMulOk.of_left (fdiv_bits (by omega) h2 (by omega))))
  k_with "m pyIter ref" =>
    rename Fr _ _ _ _ => lF'
    rename News _ _ _ _ => lN'
    rename IsRange _ _ _ _ _ _ _ _ => rgX
    with_unfolding_all refine' rngG (σ := Int × Tok) (fun _ => news) (fun c => [(Str.ofString "il", Value.int c.1 c.2)]) [] (fun i c => c.1 = ilSum ts cnt (rangeKs ts i)) (by rfl) rgX (small_one (by omega) (by omega) (by omega) (by omega)) (rangeSize_nat _ _) lF' ⟨(0, _), lN', fa1 rfl, by simp [ilSum, rangeKs]⟩ ?turn ?done
    case' turn => (try dsimp +zetaDelta only); intro i c t u h tk own hi hoff hp F' N'; clear lF' lN'; (try k_fold)
    case' done => (try dsimp +zetaDelta only); intro c u h tk hp F' N'; clear lF' lN'; (try k_fold)
  k_with "m InvEndG" =>
    rename Fr _ _ _ _ => F'
    rename News _ _ _ _ => N'
    refine endG (_, _) F' N' ?hn ?ho hoff (fa1 rfl) ?hr ?hp
    case hn => exact fun p hp => List.mem_append_left _ hp
    case ho => exact fun p hp => List.mem_append_right _ hp
    case hr => walk_at "m same"
    case hp => show _ + _ = _; rw [rangeKs_snoc, ilSum_snoc, ← hp]
  refine wpAny_call ?_
  k_dflt cell_enter
  (repeat' (first | (k_unfold; (try dsimp +zetaDelta only)) | (k_end; kc_close) | (walk1; (try dsimp +zetaDelta only)) | (dsimp only; walk1) | (leave1; (try dsimp +zetaDelta only)) | fail "no step"))
  all_goals (exact end0 ret (by k_asm) (by k_asm) (fun p hp => hp) ⟨_, congrArg (fun y => Value.int (b + ts * (y + nt)) _) hp⟩)
end Mine
end

-- C257
noncomputable section
namespace Mine
noncomputable def scanS : Bool → List Nat → List Nat
  | _, [] => []
  | false, c :: r => if c = 34 then scanS true r else c :: scanS false r
  | true, c :: r => if c = 34 then 34 :: scanS false r else []
noncomputable abbrev scanQ (l : List Nat) : List Nat := scanS false l
noncomputable def p257 (x : Str) : Str := ⟨(scanQ (x.cps.toList.drop 5)).toArray⟩

noncomputable def P257 (x : Str) (i : Int) (d : Str) : Prop := 5 ≤ i ∧ i ≤ 1001 ∧ d.length ≤ i.toNat ∧ d.cps.toList ++ scanQ (x.cps.toList.drop i.toNat) = scanQ (x.cps.toList.drop 5)
theorem sign_at (x : Str) {i : Int} (h0 : 0 ≤ i) (h1 : i < x.length) : ∃ a, Txt.item x i = ⟨#[a]⟩ ∧ x.cps.toList.drop i.toNat = a :: x.cps.toList.drop (i + 1).toNat := by
  have hlt : i.toNat < x.cps.toList.length := by have : i.toNat < x.length := by omega
                                                 simpa [PySem.Str.length] using this
  refine ⟨x.cps.toList[i.toNat], PyProof.Rows.item_meets h0 (by have : i.toNat < x.cps.size := by simpa using hlt
                                                                simp [this]), ?_⟩
  rw [List.drop_eq_getElem_cons hlt]
  have : (i + 1).toNat = i.toNat + 1 := by omega
  rw [this]
theorem quote_is {a : Nat} : ((⟨#[a]⟩ : Str) == Str.ofString "\"") = decide (a = 34) := by
  rw [show Str.ofString "\"" = (⟨#[34]⟩ : Str) from by decide +kernel]
  by_cases h : a = 34
  · subst h; simp
  · simp [h]
theorem cat_one (d : Str) (a : Nat) : (d ++ (⟨#[a]⟩ : Str)).cps.toList = d.cps.toList ++ [a] := by
  rw [Str.cps_append, Array.toList_append]
theorem cat_len (d : Str) (a : Nat) : (d ++ (⟨#[a]⟩ : Str)).length = d.length + 1 := by
  show (d ++ (⟨#[a]⟩ : Str)).cps.size = d.cps.size + 1
  rw [Str.cps_append, Array.size_append]; rfl
theorem scanQ_plain {a : Nat} {r : List Nat} (ha : a ≠ 34) : scanQ (a :: r) = a :: scanQ r := by show scanS false (a :: r) = _; rw [scanS, if_neg ha]
theorem way_plain {x d : Str} {i : Int} (hp : P257 x i d) (hx : x.length ≤ 1000) (h1 : i < x.length) (hq : (Txt.item x i == Str.ofString "\"") = false) : P257 x (i + 1) (d ++ Txt.item x i) := by
  obtain ⟨p1, p2, p3, p4⟩ := hp
  obtain ⟨a, e1, e2⟩ := sign_at x (by omega) h1
  rw [e1, quote_is] at hq
  have ha : a ≠ 34 := by simpa using hq
  refine ⟨by omega, by omega, by rw [e1, cat_len]; omega, ?_⟩
  rw [← p4, e2, e1, cat_one, scanQ_plain ha]
  simp
theorem way_pair {x d : Str} {i : Int} (hp : P257 x i d) (hx : x.length ≤ 1000) (h1 : i < x.length) (hq : (Txt.item x i == Str.ofString "\"") = true) (h2 : ¬ (x.length : Int) ≤ i + 1) (hq2 : (Txt.item x (i + 1) != Str.ofString "\"") = false) : P257 x (i + 1 + 1) (d ++ Txt.item x i) := by
  obtain ⟨p1, p2, p3, p4⟩ := hp
  obtain ⟨a, e1, e2⟩ := sign_at x (by omega) h1
  obtain ⟨b, f1, f2⟩ := sign_at x (i := i + 1) (by omega) (by omega)
  rw [e1, quote_is] at hq
  have ha : a = 34 := by simpa using hq
  rw [f1] at hq2
  have hq3 : ((⟨#[b]⟩ : Str) == Str.ofString "\"") = true := by simpa [bne] using hq2
  rw [quote_is] at hq3
  have hb : b = 34 := by simpa using hq3
  refine ⟨by omega, by omega, by rw [e1, cat_len]; omega, ?_⟩
  rw [← p4, e2, f2, e1, cat_one]
  simp [scanS, ha, hb]
theorem way_end {x d : Str} {i : Int} (hp : P257 x i d) (h1 : ¬ i < (x.length : Int)) : d = p257 x := by
  obtain ⟨p1, p2, p3, p4⟩ := hp
  have : x.cps.toList.drop i.toNat = [] := List.drop_eq_nil_of_le (by
    have : x.length ≤ i.toNat := by omega
    simpa [PySem.Str.length] using this)
  rw [this] at p4
  simp only [scanS, List.append_nil] at p4
  unfold p257
  rw [← p4]
theorem way_last {x d : Str} {i : Int} (hp : P257 x i d) (h1 : i < x.length) (hq : (Txt.item x i == Str.ofString "\"") = true) (h2 : (x.length : Int) ≤ i + 1) : d = p257 x := by
  obtain ⟨p1, p2, p3, p4⟩ := hp
  obtain ⟨a, e1, e2⟩ := sign_at x (by omega) h1
  rw [e1, quote_is] at hq
  have ha : a = 34 := by simpa using hq
  have : x.cps.toList.drop (i + 1).toNat = [] := List.drop_eq_nil_of_le (by
    have : x.length ≤ (i + 1).toNat := by omega
    simpa [PySem.Str.length] using this)
  rw [e2, this, ha] at p4
  simp only [scanS, List.append_nil, if_true] at p4
  unfold p257
  rw [← p4]
theorem way_shut {x d : Str} {i : Int} (hp : P257 x i d) (h1 : i < x.length) (hq : (Txt.item x i == Str.ofString "\"") = true) (h2 : ¬ (x.length : Int) ≤ i + 1) (hq2 : (Txt.item x (i + 1) != Str.ofString "\"") = true) : d = p257 x := by
  obtain ⟨p1, p2, p3, p4⟩ := hp
  obtain ⟨a, e1, e2⟩ := sign_at x (by omega) h1
  obtain ⟨b, f1, f2⟩ := sign_at x (i := i + 1) (by omega) (by omega)
  rw [e1, quote_is] at hq
  have ha : a = 34 := by simpa using hq
  rw [f1] at hq2
  have hq3 : ((⟨#[b]⟩ : Str) == Str.ofString "\"") = false := by simpa [bne] using hq2
  rw [quote_is] at hq3
  have hb : b ≠ 34 := by simpa using hq3
  rw [e2, f2, ha] at p4
  simp only [scanS, hb, List.append_nil, if_true, if_false] at p4
  unfold p257
  rw [← p4]
theorem q257 {x d : Str} {tk : Tok} (e : (Txt.slice x (some 3) (some 5) != Str.ofString " \"") = false) (h : d = p257 x) : ∃ u, Value.str d tk = .str (if Txt.slice x (some 3) (some 5) = Str.ofString " \"" then p257 x else Str.ofString "") u :=
  ⟨tk, by rw [if_pos (bne_eq_false_iff_eq.mp e), h]⟩
theorem q257n {x : Str} {tk : Tok} (e : (Txt.slice x (some 3) (some 5) != Str.ofString " \"") = true) : ∃ u, Value.str (Str.ofString "") tk = .str (if Txt.slice x (some 3) (some 5) = Str.ofString " \"" then p257 x else Str.ofString "") u :=
  ⟨tk, by rw [if_neg (bne_iff_ne.mp e)]⟩
theorem c257 (w : World) (news : List (Addr × Obj)) (x : Str) (t : Tok) (hx : x.length ≤ 1000) :
    SpecX w 186 1 100 [.str x t] news (fun r _ => (Txt.slice x none (some 3) != Str.ofString "257") = false ∧ ∃ u, r = .str (if Txt.slice x (some 3) (some 5) = Str.ofString " \"" then p257 x else Str.ofString "") u) (fun c => c = .ref 158 ∧ Txt.slice x none (some 3) ≠ Str.ofString "257") := by
  have hkOn := HkOn.mk
  revert w news x t hx
  intro w news x t hx
  refine specX_ctx ?_
  k_fill
  intro cx B F X N T hk hdp hun D ret retx
  k_with_none
  k_with "m eval Name" => (k_here; name_kind "local"; k_dflt (refine' ld (by k_asm) ?_ ?_; (first | exact rfl | (rotate_left; exact rfl)); k_whole))
  k_with "m k_mem" => first | with_reducible assumption | (refine' List.mem_append_left _ ?_; k_mem) | (refine' List.mem_append_right _ ?_; k_mem)
  k_with "m ne" => first | assumption | (rename ∀ p ∈ _, _ ≠ Prod.fst p => hh2; k_extra "m ne1") | (refine ne_of_stored (by assumption) ?_; decide +kernel)
  k_with "m ne1" => (rename ∀ p ∈ _, _ ≠ Prod.fst p => hh2; first | (have hh3 := hh2 _ (List.Mem.head _); exact hh3) | (replace hh2 := ne_tail hh2; k_extra "m ne1"))
  k_with "m nes" => first | exact fa0 | (refine faC ?_ ?_; (k_extra "m ne"); (k_extra "m nes"))
  k_with "m same1" => first | (refine kstB_out ?_ (by assumption); k_extra "m nes") | (refine (if_neg ?_).trans ?_; (k_extra "m ne"); (k_extra "m same1"))
  k_with "m same" => (intro z h1 h2 h3; k_extra "m same1")
  k_with "m sameW" => (intro z h2 h3; k_extra "m same1")
  k_with "m k_all" => first | with_reducible assumption | (refine' List.forall_mem_append.mpr ⟨?_, ?_⟩; (k_all); (k_all))
  k_with "hk on" => fail_if_success (fail_if_success (with_reducible rename HkOn => hkOn))
  k_with "hk ne" => first | exact neAround | exact neShared | exact neWorld | exact neDrawn | exact neGen | exact neSCtx | exact neI | exact Nonempty.intro (by constructor <;> first | exact default | (constructor <;> exact default))
  k_with "m execs cons" => (k_extra "hk on"; (try k_made); (with_reducible refine wpAny_execs_cons ?_); try dsimp only)
  k_with "m execs nil" => (k_extra "hk on"; refine wpAny_execs_nil ?_)
  k_with "hk omega" => ((k_extra "hk on"); dsimp +zetaDelta only; first | lia | omega +splitDisjunctions)
  k_with "hk ne" => exact neWsD
  k_with_none
  k_with "m eval Name" => (k_here; name_kind "local"; k_dflt (refine' ld (by k_asm) ?_ ?_; (first | exact rfl | (rotate_left; exact rfl)); k_whole))
  k_with "m k_mem" => first | with_reducible assumption | (refine' List.mem_append_left _ ?_; k_mem) | (refine' List.mem_append_right _ ?_; k_mem)
  k_with "m ne" => first | assumption | (rename ∀ p ∈ _, _ ≠ Prod.fst p => hh2; k_extra "m ne1") | (refine ne_of_stored (by assumption) ?_; decide +kernel)
  k_with "m ne1" => (rename ∀ p ∈ _, _ ≠ Prod.fst p => hh2; first | (have hh3 := hh2 _ (List.Mem.head _); exact hh3) | (replace hh2 := ne_tail hh2; k_extra "m ne1"))
  k_with "m nes" => first | exact fa0 | (refine faC ?_ ?_; (k_extra "m ne"); (k_extra "m nes"))
  k_with "m same1" => first | (refine kstB_out ?_ (by assumption); k_extra "m nes") | (refine (if_neg ?_).trans ?_; (k_extra "m ne"); (k_extra "m same1"))
  k_with "m same" => (intro z h1 h2 h3; k_extra "m same1")
  k_with "m sameW" => (intro z h2 h3; k_extra "m same1")
  k_with "m k_all" => first | with_reducible assumption | (refine' List.forall_mem_append.mpr ⟨?_, ?_⟩; (k_all); (k_all))
  k_with "hk on" => fail_if_success (fail_if_success (with_reducible rename HkOn => hkOn))
  k_with "hk ne" => first | exact neAround | exact neShared | exact neWorld | exact neDrawn | exact neGen | exact neSCtx | exact neI | exact Nonempty.intro (by constructor <;> first | exact default | (constructor <;> exact default))
  k_with "m execs cons" => (k_extra "hk on"; (try k_made); (with_reducible refine wpAny_execs_cons ?_); try dsimp only)
  k_with "m execs nil" => (k_extra "hk on"; refine wpAny_execs_nil ?_)
  k_with "hk omega" => ((k_extra "hk on"); dsimp +zetaDelta only; first | lia | omega +splitDisjunctions)
  k_with "hk ne" => exact neWsD
  k_with "m exec While BoolOp cons nil" =>
    rename Fr _ _ _ _ => lF'
    rename News _ _ _ _ => lN'
    refine' whG (σ := (Int × Tok) × (Str × Tok)) (fun _ => news) (fun c => [(Str.ofString "i", Value.int c.1.1 c.1.2), (Str.ofString "dirname", Value.str c.2.1 c.2.2)]) [Str.ofString "c"] (fun c => P257 x c.1.1 c.2.1) (fun c => (x.length : Nat) - c.1.1.toNat) lF' ⟨((5, _), (_, _)), lN', faC rfl (fa1 rfl), ⟨Int.le_refl 5, (by decide : (5:Int) ≤ 1001), (by decide : (Str.ofString "").length ≤ 5), by rfl⟩⟩ ?turn ?hE
    case' turn => (try dsimp +zetaDelta only); intro c u h tk hp F' N'; clear lF' lN'; (have h5 := hp.1); (have h6 := hp.2.1); (have h7 := hp.2.2.1); (try k_fold)
    case hE => passes_own
  k_with "m KswEnd" =>
    refine ksw_end ((_, _), (_, _)) (by k_asm) (by k_asm) (fun p hp => hp) trivial (faC rfl (fa1 rfl)) ?hr ?hp ?hm
    case hr => walk_at "m sameW"
    case hp => first | (have q := way_plain hp hx (by with_reducible assumption) (by with_reducible assumption); exact q) | (have q := way_pair hp hx (by with_reducible assumption) (by with_reducible assumption) (by with_reducible assumption) (by with_reducible assumption); exact q)
    case hm => dsimp only; omega
  refine wpAny_call ?_
  k_dflt cell_enter
  (repeat' (first | (k_unfold; (try dsimp +zetaDelta only)) | (k_end; kc_close) | (walk1; (try dsimp +zetaDelta only)) | (dsimp only; walk1) | (leave1; (try dsimp +zetaDelta only)) | fail "no step"))
  all_goals try dsimp only
  all_goals first
    | (rename RaisedS _ _ _ _ _ _ _ _ _ => S9; rename RaisedK _ _ _ _ _ _ _ _ => R9; rename Heap.UpToSlots _ _ => U9; exact retx _ _ _ _ _ _ _ (by assumption) S9 R9 U9 ⟨rfl, bne_iff_ne.mp (by with_reducible assumption)⟩)
    | exact end0 ret (by k_asm) (by k_asm) (fun p hp => hp) ⟨by with_reducible assumption, q257n (by with_reducible assumption)⟩
    | exact end0 ret (by k_asm) (by k_asm) (fun p hp => hp) ⟨by with_reducible assumption, q257 (by with_reducible assumption) (way_end hp (by with_reducible assumption))⟩
    | exact end0 ret (by k_asm) (by k_asm) (fun p hp => hp) ⟨by with_reducible assumption, q257 (by with_reducible assumption) (way_last hp (by with_reducible assumption) (by with_reducible assumption) (by with_reducible assumption))⟩
    | exact end0 ret (by k_asm) (by k_asm) (fun p hp => hp) ⟨by with_reducible assumption, q257 (by with_reducible assumption) (way_shut hp (by with_reducible assumption) (by with_reducible assumption) (by with_reducible assumption) (by with_reducible assumption))⟩
    | trace_state
end Mine
end

-- CT
namespace Mine
noncomputable def Landed (base G : Heap) (l : List Env) (e : Addr) (cls : Value) (t : Addr) (vs : List Value) (news : List (Addr × Obj)) (h : Heap) : Prop := RaisedS base G l e cls t vs news h ∧ G.UpToSlots h
section
variable {M : Model} {A : Around} {E : Value → Shared → Prop}
variable {nm q nm' q' : Str} {C N C' N' : Addr} {bs bm bs' bm' : List Value} {hdct hdct' : Bool} {sn sn' : List Str} {sub sub' : List Value} {ab ab' : Bool} {col col' : Option Bool} {dd dd' : Option Addr} {k0 k1 k2 k3 k5 k0' k1' k2' k3' k5' : Option Value} {newId newId' : String}
theorem matches_other {h : Heap} {g : Array GenState} {d : Drawn} {t : Nat} {os : OsState} {e : Addr} {oe : Obj} {Q : Bool → Shared → Prop}
    (hC : h.get? C = some (excClassObj nm q C N bs bm hdct sn sub ab col dd k0 k1 k2 k3 k5 newId)) (hC' : h.get? C' = some (excClassObj nm' q' C' N' bs' bm' hdct' sn' sub' ab' col' dd' k0' k1' k2' k3' k5' newId')) (he : h.get? e = some oe) (hcls : oe.cls = .ref C)
    (hbase : bm'.contains (.type "BaseException") = true) (b : Bool) (hb : (Value.ref C :: bm).contains (.ref C') = b)
    (hq : Q b ⟨h, g, d, t, os⟩) : wpAny M A (excMatches (.ref e) (.ref C')) Q E ⟨h, g, d, t, os⟩ := by
  have hcB : (Value.ref C' :: bm').contains (.type "BaseException") = true := by rw [List.contains_cons, hbase, Bool.or_true]
  have f := tc_notTuple
  unfold excMatches
  repeat (first | (with_reducible refine wpAny_loadPart_at he ?_; rw [hcls]) | with_reducible refine wpAny_loadPart_at hC' ?_ | (with_reducible refine wpAny_isSubtype_exc hC' ?_; rw [hcB]) | (with_reducible refine wpAny_isSubtype_exc hC ?_; rw [hb]) | wp_step)
  cases b <;> (first | exact hq | (wp_walk; exact hq))
theorem matches_builtin {h : Heap} {g : Array GenState} {d : Drawn} {t : Nat} {os : OsState} {e : Addr} {oe : Obj} {X : String} {Q : Bool → Shared → Prop}
    (hC' : h.get? C' = some (excClassObj nm' q' C' N' bs' bm' hdct' sn' sub' ab' col' dd' k0' k1' k2' k3' k5' newId')) (he : h.get? e = some oe) (hcls : oe.cls = .type X)
    (hbase : bm'.contains (.type "BaseException") = true) (hb : isSubtype (.type X) (.ref C') = pure false)
    (hq : Q false ⟨h, g, d, t, os⟩) : wpAny M A (excMatches (.ref e) (.ref C')) Q E ⟨h, g, d, t, os⟩ := by
  have hcB : (Value.ref C' :: bm').contains (.type "BaseException") = true := by rw [List.contains_cons, hbase, Bool.or_true]
  have f := tc_notTuple
  unfold excMatches
  repeat (first | (with_reducible refine wpAny_loadPart_at he ?_; rw [hcls]) | with_reducible refine wpAny_loadPart_at hC' ?_ | (with_reducible refine wpAny_isSubtype_exc hC' ?_; rw [hcB]) | (with_reducible refine wpAny_of_eq hb ?_) | wp_step)
  first | exact hq | (wp_walk; exact hq)
end
theorem value_not (C' : Addr) : isSubtype (.type "ValueError") (.ref C') = pure false := by
  rw [isSubtype_type]
  kernel_rfl

section
variable {prog : Program} {w : World} {A₀ : Around} {E : Value → Shared → Prop} {s' : Shared} {base g g₀ G : Heap} {outer : List Env} {L a e t C C' : Addr} {m : Str → Option Value} {name : Str} {scope : Scope} {cd cls : Value}
  {vs : List Value} {b₀ : Stmt} {suite : List Stmt} {pos np : Pos} {rest : List ExceptHandler} {Q : Flow → Shared → Prop} {news : List (Addr × Obj)} {KF : Frag}
  {p : Program} {loose : List Str} {mean : ExcName → Option Value} {mg mb : Str → Option Value} {x : Str} {X T' : String}

theorem land {W : Shared → Prop} (R : RaisedS base G (envOf name scope L a cd :: outer) e cls t vs news s'.heap) (K : Below A₀ base outer g) (hsm : G.UpToSlots s'.heap)
    (k : ∀ h₅, Landed base G (envOf name scope L a cd :: outer) e cls t vs news h₅ → W { s' with heap := h₅ }) :
    wpAny (model prog w) (A₀.deeper (envOf name scope L a cd)) (noteFrame (.ref e) (envOf name scope L a cd))
      (fun _ s₂ => wpAny (model prog w) (A₀.deeper (envOf name scope L a cd)) (setFlight (.ref e) none) (fun _ s₃ => W s₃) E s₂) E s' := by
  obtain ⟨⟨B, hB, hBG, hl, hfl, hnew⟩, htup⟩ := R
  refine wpAny_looks_onW (Around.frames_deeper K.stack) rfl hfl fun h₄ hheld₄ hsm₄ => ?_
  refine wpAny_landsW hheld₄ fun h₅ hheld hsm₅' => ?_
  exact k h₅ ⟨⟨⟨B, hB, hBG, hl, hheld, hnew⟩, htup.of_slots (hsm₄.trans hsm₅')⟩, hsm.trans (hsm₄.trans hsm₅')⟩

structure Grd (A₀ : Around) (base : Heap) (outer : List Env) (KF : Frag) (p : Program) (loose : List Str) (mean : ExcName → Option Value) (mg mb : Str → Option Value) (g₀ : Heap) (L : Addr) (m : Str → Option Value) (news : List (Addr × Obj)) (h g' : Heap) : Prop where
  turn : KtsTurn (frs outer) g₀ g'
  fr : Fr g' L h m
  news : News g' L h news
  below : Below A₀ base outer g'
  frag : KF.In g'
  top : Top p loose mean mg mb g'
  dicts : KtsDicts (frs outer) g'
theorem Landed.ground {h : Heap} (H : Landed base G (envOf name scope L a cd :: outer) e cls t vs news h) (F : Fr g L G m) (K : Below A₀ base outer g) (XB : KF.In base) (TB : Top p loose mean mg mb base) (D : KtsDicts (frs outer) g) :
    ∃ g', Grd A₀ base outer KF p loose mean mg mb g L m news h g' := by
  obtain ⟨⟨⟨B, hB, hBG, hl, hfl, hnew⟩, htup⟩, hsm⟩ := H
  have hL : B.get? L = none := by
    obtain ⟨_, ⟨L', _, hf, hn', _⟩, _⟩ := hfl.2.2.1
    obtain rfl : L = L' := Option.some.inj hf
    exact hn'
  obtain ⟨g', T, F', K'⟩ := kts_ground K F hBG hfl.1 hsm
  exact ⟨g', T, F', fun q hq => ⟨hfl.1 _ _ (hl q hq).1, (fun z => by have := (hl q hq).1; rw [z, hL] at this; cases this), T.none_ _ (kts_none F.keep (hl q hq).2.1)⟩, K', XB.keeps K'.stays, TB.keeps K'.stays, D.turn T⟩

theorem miss (H : Landed base G (envOf name scope L a cd :: outer) e cls t vs news s'.heap) (F : Fr g L G m) (K : Below A₀ base outer g) (XB : KF.In base) (TB : Top p loose mean mg mb base) (D : KtsDicts (frs outer) g)
    (ex : nsIn KF mainGlobals x = some (some (.ref C'))) (q' : ktsIn KF C' "BaseException" = true) (hc : (∃ C, cls = .ref C ∧ ∃ bm nm q N bs hdct sn sub ab col dd k0 k1 k2 k3 k5 n, KF.lookup C = some (excClassObj nm q C N bs bm hdct sn sub ab col dd k0 k1 k2 k3 k5 n) ∧ (Value.ref C :: bm).contains (.ref C') = false) ∨ cls = .type "ValueError")
    (k : wpAny (model prog w) (A₀.deeper (envOf name scope L a cd)) (handleBy (.ref e) (envOf name scope L a cd) rest) Q E s')
    (hk : scope.kind = .function := by rfl) (hx : (envOf name scope L a cd).kindOf x = some .globalImplicit := by rfl) (hd : (x == ("__debug__" : Str)) = false := by decide) :
    wpAny (model prog w) (A₀.deeper (envOf name scope L a cd)) (handleBy (.ref e) (envOf name scope L a cd) (.ExceptHandler (some (.Name x np)) none (b₀ :: suite) pos :: rest)) Q E s' := by
  obtain ⟨g', Gr⟩ := H.ground F K XB TB D
  have hfl := H.1.1
  obtain ⟨B, hB, hBG, hl, hfl, hnew⟩ := hfl
  obtain ⟨ob, hob, hobc⟩ := hfl.there
  have P₅ : TopRead p loose mg mb g' := topRead_of Gr.top
  obtain ⟨nm, q', N, bs, bm, hdct, sn, sub, ab, col, dd, k0, k1, k2, k3, k5, newId, hC, hbase, hbT⟩ := kts_cls Gr.frag q'
  have hC₅ := Gr.fr.keep _ _ hC
  refine wpAny_handleBy_cons (codeAny_handlers_test (name_K Gr.fr Gr.frag P₅ ex ?_ hk hx hd)) (by intro q; cases q)
  rcases hc with ⟨C, rfl, bm2, nm2, q2, N2, bs2, hd2, sn2, sub2, ab2, col2, dd2, l0, l1, l2, l3, l5, n2, hl2, hb⟩ | rfl
  · exact matches_other (Gr.fr.keep _ _ (Gr.frag _ _ hl2)) hC₅ hob hobc hbase false hb k
  · exact matches_builtin hC₅ hob hobc hbase (value_not _) k

theorem hit (H : Landed base G (envOf name scope L a cd :: outer) e (.ref C) t vs news s'.heap) (F : Fr g L G m) (K : Below A₀ base outer g) (XB : KF.In base) (TB : Top p loose mean mg mb base) (D : KtsDicts (frs outer) g)
    (ex : nsIn KF mainGlobals x = some (some (.ref C))) (q' : ktsIn KF C "BaseException" = true)
    (k : ∀ h' g', Grd A₀ base outer KF p loose mean mg mb g L m news h' g' →
      wpAny (model prog w) ((A₀.deeper (envOf name scope L a cd)).mark (some (.ref e))) (execs (b₀ :: suite) (envOf name scope L a cd)) Q (notedBy (model prog w) ((A₀.deeper (envOf name scope L a cd)).mark (some (.ref e))) (envOf name scope L a cd) (cameBackBy (model prog w) (A₀.deeper (envOf name scope L a cd)) (envOf name scope L a cd) E)) { s' with heap := h' })
    (hk : scope.kind = .function := by rfl) (hx : (envOf name scope L a cd).kindOf x = some .globalImplicit := by rfl) (hd : (x == ("__debug__" : Str)) = false := by decide) :
    wpAny (model prog w) (A₀.deeper (envOf name scope L a cd)) (handleBy (.ref e) (envOf name scope L a cd) (.ExceptHandler (some (.Name x np)) none (b₀ :: suite) pos :: rest)) Q E s' := by
  obtain ⟨g', Gr⟩ := H.ground F K XB TB D
  obtain ⟨⟨⟨B, hB, hBG, hl, hfl, hnew⟩, htup⟩, hsm⟩ := H
  obtain ⟨ob, hob, hobc⟩ := hfl.there
  have P₅ : TopRead p loose mg mb g' := topRead_of Gr.top
  obtain ⟨nm, q', N, bs, bm, hdct, sn, sub, ab, col, dd, k0, k1, k2, k3, k5, newId, hC, hbase, hbT⟩ := kts_cls Gr.frag q'
  have hC₅ := Gr.fr.keep _ _ hC
  refine wpAny_handleBy_cons (codeAny_handlers_test (name_K Gr.fr Gr.frag P₅ ex ?_ hk hx hd)) (by intro q; cases q)
  refine wpAny_excMatches_sub_self hC₅ hob hobc hbase (codeAny_handlers_suite ?_)
  refine lands_againW hfl fun h₆ hfl₆ hsm₆ => ?_
  obtain ⟨g₆, Gr₆⟩ := Landed.ground (⟨⟨⟨B, hB, hBG, hl, hfl₆, hnew⟩, htup.of_slots hsm₆⟩, hsm.trans hsm₆⟩ : Landed base G (envOf name scope L a cd :: outer) e (.ref C) t vs news h₆) F K XB TB D
  exact k h₆ g₆ Gr₆

theorem hitV (H : Landed base G (envOf name scope L a cd :: outer) e (.type "ValueError") t vs news s'.heap) (F : Fr g L G m) (K : Below A₀ base outer g) (XB : KF.In base) (TB : Top p loose mean mg mb base) (D : KtsDicts (frs outer) g)
    (ex : nsIn KF mainGlobals "ValueError" = some none)
    (k : ∀ h' g', Grd A₀ base outer KF p loose mean mg mb g L m news h' g' →
      wpAny (model prog w) ((A₀.deeper (envOf name scope L a cd)).mark (some (.ref e))) (execs (b₀ :: suite) (envOf name scope L a cd)) Q (notedBy (model prog w) ((A₀.deeper (envOf name scope L a cd)).mark (some (.ref e))) (envOf name scope L a cd) (cameBackBy (model prog w) (A₀.deeper (envOf name scope L a cd)) (envOf name scope L a cd) E)) { s' with heap := h' })
    (hk : scope.kind = .function := by rfl) (hx : (envOf name scope L a cd).kindOf "ValueError" = some .globalImplicit := by rfl) :
    wpAny (model prog w) (A₀.deeper (envOf name scope L a cd)) (handleBy (.ref e) (envOf name scope L a cd) (.ExceptHandler (some (.Name "ValueError" np)) none (b₀ :: suite) pos :: rest)) Q E s' := by
  obtain ⟨g', Gr⟩ := H.ground F K XB TB D
  obtain ⟨⟨⟨B, hB, hBG, hl, hfl, hnew⟩, htup⟩, hsm⟩ := H
  obtain ⟨ob, hob, hobc⟩ := hfl.there
  have P₅ : TopRead p loose mg mb g' := topRead_of Gr.top
  have hsub : isSubtype (.type "ValueError") (.type "ValueError") = pure true := by rw [isSubtype_type]; kernel_rfl
  refine wpAny_handleBy_builtin (X := "ValueError") (T := "ValueError") (b := true) PySem.F.isExc_ValueError PySem.F.notTuple_ValueError hsub (name_B Gr.fr Gr.frag P₅ ex PyProof.Rows.Boot.«ValueError» (by decide) ⟨rfl, ⟨ob, hob, hobc⟩, ?_⟩ hk hx (by decide))
  refine lands_againW hfl fun h₆ hfl₆ hsm₆ => ?_
  obtain ⟨g₆, Gr₆⟩ := Landed.ground (⟨⟨⟨B, hB, hBG, hl, hfl₆, hnew⟩, htup.of_slots hsm₆⟩, hsm.trans hsm₆⟩ : Landed base G (envOf name scope L a cd :: outer) e (.type "ValueError") t vs news h₆) F K XB TB D
  exact k h₆ g₆ Gr₆
end
end Mine

-- C229c
noncomputable section
namespace Mine
theorem item_tup0 {prog : Program} {w : World} {A : Around} {E : Value → Shared → Prop} {s : Shared} {h₀ : Heap} {L : Addr} {news : List (Addr × Obj)} {t : Addr} {v : Value} {vs : List Value} {n : Nat} {u : Tok} {value slice : Expr} {Q : Value → Shared → Prop} (N : News h₀ L s.heap news) (hm : (t, tupO (v :: vs) n) ∈ news)
    (h : Q v s) (hs : subscripted slice false (.ref t) (.int 0 u) = operate [.ref t, .int 0 u] (getItem (.ref t) (.int 0 u)) := by with_unfolding_all rfl) :
    wpAny (model prog w) A (subscriptTail value slice (.ref t) (.int 0 u)) Q E s :=
  item_tupleT (News.isTup N hm) (by decide) (by decide) (j := 0) (by
    show seqIndex? 0 ((v :: vs).length) = some 0
    unfold seqIndex?
    simp) (by simp) h hs
theorem bnd229 (x : Str) : Txt.find x (Str.ofString "(") < 0 ∨ Txt.find3 x (Str.ofString ")") (Txt.find x (Str.ofString "(") + 1) < 0 ∨ (0 ≤ Txt.find x (Str.ofString "(") ∧ Txt.find x (Str.ofString "(") + 1 ≤ Txt.find3 x (Str.ofString ")") (Txt.find x (Str.ofString "(") + 1) ∧ Txt.find3 x (Str.ofString ")") (Txt.find x (Str.ofString "(") + 1) < x.length) := by
  rw [show Str.ofString ")" = (⟨#[41]⟩ : Str) from by decide +kernel]
  generalize hl : Txt.find x (Str.ofString "(") = l
  rcases PySem.StrLaws.find3_spec x 41 (l + 1) with ⟨h, _⟩ | ⟨k, h, h1, h2, _⟩
  · right; left; rw [h]; decide
  · rw [h]
    by_cases hl0 : l < 0
    · exact .inl hl0
    · refine .inr (.inr ⟨by omega, ?_, by omega⟩)
      have hf := fact_find x (Str.ofString "(")
      rw [hl] at hf
      have e : (Str.ofString "(").length = 1 := by decide +kernel
      rw [e] at hf
      have : PySem.fromIndex x.length (l + 1) = (l + 1).toNat := by
        unfold PySem.fromIndex
        (repeat' split) <;> omega
      omega
inductive A229 where
  | reply
  | proto
  | value
  | ok (n : Int)
noncomputable def parts229 (x : Str) : List Str := Txt.split (Txt.slice x (some (Txt.find x (Str.ofString "(") + 1)) (some (Txt.find3 x (Str.ofString ")") (Txt.find x (Str.ofString "(") + 1)))) (Txt.item x (Txt.find x (Str.ofString "(") + 1))
noncomputable def r229 (x : Str) : A229 :=
  if (Txt.slice x none (some 3) != Str.ofString "229") = true then .reply else
  if Txt.find x (Str.ofString "(") < 0 then .proto else
  if Txt.find3 x (Str.ofString ")") (Txt.find x (Str.ofString "(") + 1) < 0 then .proto else
  if (Txt.item x (Txt.find x (Str.ofString "(") + 1) != Txt.item x (Txt.find3 x (Str.ofString ")") (Txt.find x (Str.ofString "(") + 1) - 1)) = true then .proto else
  if ((parts229 x).length : Int) ≠ 5 then .proto else
  match (parts229 x)[3]? with
  | some y => (match PySem.intText? y with | some n => .ok n | none => .value)
  | none => .proto
section
variable {x : Str}
theorem ne_tt {b : Bool} (h : b = false) : ¬ b = true := by rw [h]; exact Bool.false_ne_true
theorem r229_1 (h1 : (Txt.slice x none (some 3) != Str.ofString "229") = true) : r229 x = .reply := by unfold r229; rw [if_pos h1]
theorem r229_2 (h1 : (Txt.slice x none (some 3) != Str.ofString "229") = false) (h2 : Txt.find x (Str.ofString "(") < 0) : r229 x = .proto := by unfold r229; rw [if_neg (ne_tt h1), if_pos h2]
theorem r229_3 (h1 : (Txt.slice x none (some 3) != Str.ofString "229") = false) (h2 : ¬ Txt.find x (Str.ofString "(") < 0) (h3 : Txt.find3 x (Str.ofString ")") (Txt.find x (Str.ofString "(") + 1) < 0) : r229 x = .proto := by
  unfold r229; rw [if_neg (ne_tt h1), if_neg h2, if_pos h3]
theorem r229_4 (h1 : (Txt.slice x none (some 3) != Str.ofString "229") = false) (h2 : ¬ Txt.find x (Str.ofString "(") < 0) (h3 : ¬ Txt.find3 x (Str.ofString ")") (Txt.find x (Str.ofString "(") + 1) < 0)
    (h4 : (Txt.item x (Txt.find x (Str.ofString "(") + 1) != Txt.item x (Txt.find3 x (Str.ofString ")") (Txt.find x (Str.ofString "(") + 1) - 1)) = true) : r229 x = .proto := by
  unfold r229; rw [if_neg (ne_tt h1), if_neg h2, if_neg h3, if_pos h4]
theorem r229_5 {l : List (Str × Tok)} (h1 : (Txt.slice x none (some 3) != Str.ofString "229") = false) (h2 : ¬ Txt.find x (Str.ofString "(") < 0) (h3 : ¬ Txt.find3 x (Str.ofString ")") (Txt.find x (Str.ofString "(") + 1) < 0)
    (h4 : (Txt.item x (Txt.find x (Str.ofString "(") + 1) != Txt.item x (Txt.find3 x (Str.ofString ")") (Txt.find x (Str.ofString "(") + 1) - 1)) = false) (hl : l.map (fun x => x.1) = parts229 x) (h5 : (l.length : Int) ≠ 5) : r229 x = .proto := by
  unfold r229; rw [if_neg (ne_tt h1), if_neg h2, if_neg h3, if_neg (ne_tt h4), if_pos (by rw [← hl, List.length_map]; exact h5)]
theorem r229_6 {l : List (Str × Tok)} (h1 : (Txt.slice x none (some 3) != Str.ofString "229") = false) (h2 : ¬ Txt.find x (Str.ofString "(") < 0) (h3 : ¬ Txt.find3 x (Str.ofString ")") (Txt.find x (Str.ofString "(") + 1) < 0)
    (h4 : (Txt.item x (Txt.find x (Str.ofString "(") + 1) != Txt.item x (Txt.find3 x (Str.ofString ")") (Txt.find x (Str.ofString "(") + 1) - 1)) = false) (hl : l.map (fun x => x.1) = parts229 x) (h5 : (l.length : Int) = 5) :
    ∃ y, (parts229 x)[3]? = some y ∧ r229 x = (match PySem.intText? y with | some n => .ok n | none => .value) := by
  have h6 : (parts229 x).length = 5 := by rw [← hl, List.length_map]; omega
  have h7 : 3 < (parts229 x).length := by omega
  refine ⟨_, List.getElem?_eq_getElem h7, ?_⟩
  unfold r229; rw [if_neg (ne_tt h1), if_neg h2, if_neg h3, if_neg (ne_tt h4), if_neg (by omega), List.getElem?_eq_getElem h7]
end
theorem c229 (w : World) (news : List (Addr × Obj)) (x : Str) (t : Tok) (hx : x.length ≤ 600) (p : Addr) (hh : Str) (t2 t3 : Tok) (i : Int) (n : Nat) (hp : (p, tupO [.str hh t2, .int i t3] n) ∈ news) (hsz : ∀ y, (parts229 x)[3]? = some y → PySem.intText? y = none → (reprText y).length ≤ sizeLine) :
    SpecC w 179 1 100 [.str x t, .ref p] news (fun r tl => ∃ a k t' n, tl = [(a, tupO [.str hh t2, .int k t'] n)] ∧ r = .ref a ∧ r229 x = .ok k) (fun c => (c = .ref 158 ∧ r229 x = .reply) ∨ (c = .ref 170 ∧ r229 x = .proto) ∨ (c = .type "ValueError" ∧ r229 x = .value)) := by
  have hkOn := HkOn.mk
  revert w news x t hx p hh t2 t3 i n hp hsz
  intro w news x t hx p hh t2 t3 i n hp hsz
  have hb := bnd229 x
  refine specC_ctx ?_
  k_fill
  intro cx B F X N T XB TB hk hdp hun D ret retx
  k_with_none
  k_with "m eval Name" => (k_here; name_kind "local"; k_dflt (refine' ld (by k_asm) ?_ ?_; (first | exact rfl | (rotate_left; exact rfl)); k_whole))
  k_with "m k_mem" => first | with_reducible assumption | (refine' List.mem_append_left _ ?_; k_mem) | (refine' List.mem_append_right _ ?_; k_mem)
  k_with "m ne" => first | assumption | (rename ∀ p ∈ _, _ ≠ Prod.fst p => hh2; k_extra "m ne1") | (refine ne_of_stored (by assumption) ?_; decide +kernel)
  k_with "m ne1" => (rename ∀ p ∈ _, _ ≠ Prod.fst p => hh2; first | (have hh3 := hh2 _ (List.Mem.head _); exact hh3) | (replace hh2 := ne_tail hh2; k_extra "m ne1"))
  k_with "m nes" => first | exact fa0 | (refine faC ?_ ?_; (k_extra "m ne"); (k_extra "m nes"))
  k_with "m same1" => first | (refine kstB_out ?_ (by assumption); k_extra "m nes") | (refine (if_neg ?_).trans ?_; (k_extra "m ne"); (k_extra "m same1"))
  k_with "m same" => (intro z h1 h2 h3; k_extra "m same1")
  k_with "m sameW" => (intro z h2 h3; k_extra "m same1")
  k_with "m k_all" => first | with_reducible assumption | (refine' List.forall_mem_append.mpr ⟨?_, ?_⟩; (k_all); (k_all))
  k_with "hk on" => fail_if_success (fail_if_success (with_reducible rename HkOn => hkOn))
  k_with "hk ne" => first | exact neAround | exact neShared | exact neWorld | exact neDrawn | exact neGen | exact neSCtx | exact neI | exact Nonempty.intro (by constructor <;> first | exact default | (constructor <;> exact default))
  k_with "m execs cons" => (k_extra "hk on"; (try k_made); (with_reducible refine wpAny_execs_cons ?_); try dsimp only)
  k_with "m execs nil" => (k_extra "hk on"; refine wpAny_execs_nil ?_)
  k_with "hk omega" => ((k_extra "hk on"); dsimp +zetaDelta only; first | lia | omega +splitDisjunctions)
  k_with "hk ne" => exact neWsD
  k_with_none
  k_with "m eval Name" => (k_here; name_kind "local"; k_dflt (refine' ld (by k_asm) ?_ ?_; (first | exact rfl | (rotate_left; exact rfl)); k_whole))
  k_with "m k_mem" => first | with_reducible assumption | (refine' List.mem_append_left _ ?_; k_mem) | (refine' List.mem_append_right _ ?_; k_mem)
  k_with "m ne" => first | assumption | (rename ∀ p ∈ _, _ ≠ Prod.fst p => hh2; k_extra "m ne1") | (refine ne_of_stored (by assumption) ?_; decide +kernel)
  k_with "m ne1" => (rename ∀ p ∈ _, _ ≠ Prod.fst p => hh2; first | (have hh3 := hh2 _ (List.Mem.head _); exact hh3) | (replace hh2 := ne_tail hh2; k_extra "m ne1"))
  k_with "m nes" => first | exact fa0 | (refine faC ?_ ?_; (k_extra "m ne"); (k_extra "m nes"))
  k_with "m same1" => first | (refine kstB_out ?_ (by assumption); k_extra "m nes") | (refine (if_neg ?_).trans ?_; (k_extra "m ne"); (k_extra "m same1"))
  k_with "m same" => (intro z h1 h2 h3; k_extra "m same1")
  k_with "m sameW" => (intro z h2 h3; k_extra "m same1")
  k_with "m k_all" => first | with_reducible assumption | (refine' List.forall_mem_append.mpr ⟨?_, ?_⟩; (k_all); (k_all))
  k_with "hk on" => fail_if_success (fail_if_success (with_reducible rename HkOn => hkOn))
  k_with "hk ne" => first | exact neAround | exact neShared | exact neWorld | exact neDrawn | exact neGen | exact neSCtx | exact neI | exact Nonempty.intro (by constructor <;> first | exact default | (constructor <;> exact default))
  k_with "m execs cons" => (k_extra "hk on"; (try k_made); (with_reducible refine wpAny_execs_cons ?_); try dsimp only)
  k_with "m execs nil" => (k_extra "hk on"; refine wpAny_execs_nil ?_)
  k_with "hk omega" => ((k_extra "hk on"); dsimp +zetaDelta only; first | lia | omega +splitDisjunctions)
  k_with "hk ne" => exact neWsD
  k_with "m subscriptTail" => (with_reducible show wpAny _ _ (subscriptTail _ _ (Value.ref p) _) _ _ _); (rename News _ _ _ _ => N8; refine item_tup0 N8 (List.mem_cons_of_mem _ hp) ?_)
  refine wpC_call ?_
  refine' enterC ?k1 ?k2 ?k3 ?k4 ?k5 ?kX ?kT ?kD ?kA ?k6 ?k7 ?k8 ?k9 ?kB ?_ ?kK ?c2 ?c3 ?c4 ?c5
  case kA => exact rfl
  case kK => assumption
  case k1 => k_asm
  case k2 => k_asm
  case k3 => k_asm
  case k4 => k_asm
  case k5 => k_asm
  case kX => exact XB
  case kT => exact TB
  case kD => exact D
  case k6 => k_is
  case k7 => k_is
  case k8 => ktr_room
  case k9 => exact BindsTo.of_eq rfl
  case c5 => decide
  case kB => exact locs rfl
  case c2 => exact rfl
  case c3 => exact rfl
  case c4 => exact rfl
  k_whole
  intro g' L' h' FG' F' N' B' X' T' D'
  try dsimp only
  refine wpC_cutN 9 ?_
  simp only [List.take_succ_cons, List.take_zero, List.drop_succ_cons, List.drop_zero]
  (repeat' (first | (k_unfold; (try dsimp +zetaDelta only)) | (k_end; kc_close) | (walk1; (try dsimp +zetaDelta only)) | (dsimp only; walk1) | (leave1; (try dsimp +zetaDelta only)) | fail "no step"))
  all_goals first
    | (rename RaisedS _ _ _ _ _ _ _ _ _ => S9; rename Heap.UpToSlots _ _ => U9; rename Fr _ _ _ _ => F9; have S8 := RaisedS_sub S9 (news' := news) (by k_sub); refine retx _ _ _ _ _ _ _ FG' S8 S8.toK U9 ?_
       first
         | exact .inl ⟨rfl, r229_1 (by with_reducible assumption)⟩
         | exact .inr (.inl ⟨rfl, r229_2 (by with_reducible assumption) (by with_reducible assumption)⟩)
         | exact .inr (.inl ⟨rfl, r229_3 (by with_reducible assumption) (by with_reducible assumption) (by with_reducible assumption)⟩)
         | exact .inr (.inl ⟨rfl, r229_4 (by with_reducible assumption) (by with_reducible assumption) (by with_reducible assumption) (by with_reducible assumption)⟩)
         | exact .inr (.inl ⟨rfl, r229_5 (by with_reducible assumption) (by with_reducible assumption) (by with_reducible assumption) (by with_reducible assumption) (by assumption) (by with_reducible assumption)⟩))
    | skip
  show wpC _ _ _ _ _ _
  refine wpC_execs_cons (wpC_Assign_Name (wpC_Call ?_))
  (repeat' (first | (k_unfold; (try dsimp +zetaDelta only)) | (k_end; kc_close) | (walk1; (try dsimp +zetaDelta only)) | (dsimp only; walk1) | (leave1; (try dsimp +zetaDelta only)) | fail "no step"))
  refine wpC_callType ?_
  (repeat' (first | (k_unfold; (try dsimp +zetaDelta only)) | (k_end; kc_close) | (walk1; (try dsimp +zetaDelta only)) | (dsimp only; walk1) | (leave1; (try dsimp +zetaDelta only)) | fail "no step"))
  rename ∀ a, a ∈ List.map _ _ → _ => hlen
  rename List.map _ _ = Txt.split _ _ => hmap
  rename (List.map _ _)[Int.toNat 3]? = some _ => hy
  rename (_ : Int) = 5 => h5
  rename Fr _ _ _ _ => F9
  rename News _ _ _ _ => N9
  have hyl := Nat.le_trans (hlen _ (List.mem_of_getElem? hy)) (Nat.le_trans (by with_reducible assumption) hx)
  obtain ⟨y', hy', hr⟩ := r229_6 (x := x) (by with_reducible assumption) (by with_reducible assumption) (by with_reducible assumption) (by with_reducible assumption) hmap h5
  have hyy : (parts229 x)[3]? = some _ := (congrArg (fun l : List Str => l[3]?) hmap.symm).trans hy
  rw [hy'] at hyy
  have hz := Option.some.inj hyy
  rw [← hz] at hyl ⊢
  cases hq : PySem.intText? y' with
  | none =>
    rw [hq] at hr
    refine int_bad rfl (Nat.le_trans hyl (by decide)) hq (hsz _ hy' hq) (fun h7 e7 m7 tk7 hm => ?_)
    all_goals (first | (revert h7 e7 m7 tk7 hm; (try dsimp +zetaDelta only); intro h7 e7 m7 tk7 hm) | skip)
    refine leave_raiseS B' (⟨hm.keeps, hm.new, hm.there⟩ : Heap.MadeExcOf _ _ e7 (.type "ValueError") [m7]) F9 N9 (fun h8 t8 R8 _ U8 => ?_)
    all_goals (first | (revert h8 t8 R8 _ U8; (try dsimp +zetaDelta only); intro h8 t8 R8 _ U8) | skip)
    have S8 := RaisedS_sub R8 (news' := news) (by k_sub)
    exact retx _ _ _ _ _ _ _ FG' S8 S8.toK U8 (.inr (.inr ⟨rfl, hr⟩))
  | some k =>
    rw [hq] at hr
    refine wpC_any (KIN.call_text hq (Nat.le_trans hyl (by decide)) ?_)
    (repeat' (first | (k_unfold; (try dsimp +zetaDelta only)) | (k_end; kc_close) | (walk1; (try dsimp +zetaDelta only)) | (dsimp only; walk1) | (leave1; (try dsimp +zetaDelta only)) | fail "no step"))
    refine wpC_any ?_
    (repeat' (first | (k_unfold; (try dsimp +zetaDelta only)) | (k_end; kc_close) | (walk1; (try dsimp +zetaDelta only)) | (dsimp only; walk1) | (leave1; (try dsimp +zetaDelta only)) | fail "no step"))
    rename Fr _ _ _ _ => F9
    rename News _ _ _ _ => N9
    refine' endC ret [(_, tupO [.str hh t2, .int k _] _)] KtsTurn.refl F9 N9 ?hl ?hp (by rfl) (fun q => q)
    case hl =>
      intros p hp
      rcases List.mem_cons.mp hp with e | e
      · rw [e]; exact List.mem_cons_self
      · exact .tail _ (.tail _ e)
    case hp => exact ⟨_, k, _, _, rfl, rfl, hr⟩
end Mine
end

-- CN
noncomputable section
namespace Mine
structure WSt where
  cnt : List Int
  b : Int
  n : Int
  nt : Int
noncomputable def WSt.space (s : WSt) : WSt := ⟨s.cnt, s.b + 1, s.n + 1, s.nt⟩
noncomputable def padTo (cnt : List Int) (b : Int) : List Int := if (cnt.length : Int) ≤ b then cnt ++ List.replicate (b - cnt.length + 1).toNat 0 else cnt
noncomputable def WSt.tab (s : WSt) : WSt := ⟨(padTo s.cnt s.b).set s.b.toNat ((padTo s.cnt s.b).getD s.b.toNat 0 + 1), 0, s.n + 1, s.nt + 1⟩
noncomputable def wsRun : List Nat → WSt → WSt
  | [], s => s
  | c :: r, s => if c = 32 then wsRun r s.space else if c = 9 then wsRun r s.tab else s
structure WHold where
  l : Addr
  vs : List Value
  k : Nat
  st : WSt
  tb : Tok
  tn : Tok
  tt : Tok
section
variable {prog : Program} {w : World} {A : Around} {E : Value → Shared → Prop} {s : Shared} {env : Env} {h₀ : Heap} {y : Str} {body : List Stmt} {Q : Flow → Shared → Prop}
theorem allLt_in {d : Addr} : ∀ {l : List (Addr × Obj)}, AllLt d l → ∀ p ∈ l, @LT.lt Nat _ p.1 d
  | [], _, p, hp => nomatch hp
  | q :: r, h, p, hp => (List.mem_cons.mp hp).elim (fun e => e ▸ h.1) fun e => allLt_in h.2 p e
noncomputable def WInv (x : Str) (D x1 dx l0 : Addr) (news : List (Addr × Obj)) (i : Nat) (c : WHold) : Prop :=
  IntsAre c.vs c.st.cnt ∧ @LT.lt Nat _ D c.l ∧ @LT.lt Nat _ x1 c.l ∧ @LT.lt Nat _ dx c.l ∧ (∀ p ∈ news, p.1 ≠ c.l) ∧ wsRun (x.cps.toList.drop i) c.st = wsRun x.cps.toList ⟨[], 0, 0, 0⟩ ∧ (c.st.cnt.length : Int) ≤ i ∧ 0 ≤ c.st.b ∧ c.st.b + c.st.cnt.length ≤ i ∧ @LE.le Nat _ l0 c.l
theorem wsLoop {x : Str} {tx t1 t2 t3 : Tok} {m₀ : Str → Option Value} {l0 D x1 dx : Addr} {k0 : Nat} {oD ox od : Obj} {news : List (Addr × Obj)} (hh : A.handled = none) (F : Fr h₀ env.locals s.heap m₀)
    (N : News h₀ env.locals s.heap ((l0, W.listOf [].toArray k0) :: (D, oD) :: (x1, ox) :: (dx, od) :: news)) (hlt : @LT.lt Nat _ D l0 ∧ @LT.lt Nat _ x1 l0 ∧ @LT.lt Nat _ dx l0 ∧ AllLt l0 news)
    (hm : ∀ p ∈ ([("count", Value.ref l0), ("b", .int 0 t1), ("n", .int 0 t2), ("nt", .int 0 t3)] : List (Str × Value)), m₀ p.1 = some p.2) (hy : y = "ch")
    (turn : ∀ (i cc : Nat) (c : WHold) t (u : Str → Option Value) h tk own, x.cps[i]? = some cc → OwnOff own (((c.l, W.listOf c.vs.toArray c.k) :: (D, oD) :: (x1, ox) :: (dx, od) :: news).map (·.1)) → WInv x D x1 dx l0 news i c →
      Fr h₀ env.locals h (fun z => if z = "ch" then some (.str ⟨#[cc]⟩ t) else kstB (fun z => if ([] : List Str).contains z then u z else m₀ z) [("count", .ref c.l), ("b", .int c.st.b c.tb), ("n", .int c.st.n c.tn), ("nt", .int c.st.nt c.tt)] z) → News h₀ env.locals h ((c.l, W.listOf c.vs.toArray c.k) :: (D, oD) :: (x1, ox) :: (dx, od) :: (news ++ own)) →
      wpAny (model prog w) A (execs body env) (InvPostG h₀ env.locals (MS (fun c : WHold => (c.l, W.listOf c.vs.toArray c.k) :: (D, oD) :: (x1, ox) :: (dx, od) :: news) (fun c => [("count", .ref c.l), ("b", .int c.st.b c.tb), ("n", .int c.st.n c.tn), ("nt", .int c.st.nt c.tt)]) y [] m₀ (WInv x D x1 dx l0 news (i + 1))) own { s with heap := h, toks := tk } Q) E { s with heap := h, toks := tk })
    (done : ∀ (c : WHold) (u : Str → Option Value) h tk, WInv x D x1 dx l0 news x.cps.size c → Fr h₀ env.locals h (fun z => if z = "ch" then u z else kstB (fun z => if ([] : List Str).contains z then u z else m₀ z) [("count", .ref c.l), ("b", .int c.st.b c.tb), ("n", .int c.st.n c.tn), ("nt", .int c.st.nt c.tt)] z) → News h₀ env.locals h ((c.l, W.listOf c.vs.toArray c.k) :: (D, oD) :: (x1, ox) :: (dx, od) :: news) → Q .next { s with heap := h, toks := tk }) :
    wpAny (model prog w) A (pyIter (.str x tx)) (fun it s₂ => LoopAtV prog w A h₀ env y body Q E it s₂) E s := by
  subst hy
  refine strG (fun c : WHold => (c.l, W.listOf c.vs.toArray c.k) :: (D, oD) :: (x1, ox) :: (dx, od) :: news) (fun c => [("count", .ref c.l), ("b", .int c.st.b c.tb), ("n", .int c.st.n c.tn), ("nt", .int c.st.nt c.tt)]) [] (WInv x D x1 dx l0 news) hh F
    ⟨⟨l0, [], k0, ⟨[], 0, 0, 0⟩, t1, t2, t3⟩, N, hm, IntsAre.nil, hlt.1, hlt.2.1, hlt.2.2.1, ?_, rfl, Int.le_refl _, Int.le_refl _, Int.le_refl _, Nat.le_refl _⟩ ?_ ?_
  · exact fun p hp e => Nat.lt_irrefl _ (e ▸ allLt_in hlt.2.2.2 p hp)
  · intro i cc c t u h tk own hi hoff hp F' N'
    exact turn i cc c t u h tk own hi hoff hp F' N'
  · intro c u h tk hp F' N'
    exact done c u h tk hp F' N'
end
theorem sp_is {a : Nat} : ((⟨#[a]⟩ : Str) == Str.ofString " ") = decide (a = 32) := by
  rw [show Str.ofString " " = (⟨#[32]⟩ : Str) from by decide +kernel]
  by_cases h : a = 32
  · subst h; simp
  · simp [h]
theorem tb_is {a : Nat} : ((⟨#[a]⟩ : Str) == Str.ofString "\t") = decide (a = 9) := by
  rw [show Str.ofString "\t" = (⟨#[9]⟩ : Str) from by decide +kernel]
  by_cases h : a = 9
  · subst h; simp
  · simp [h]
theorem drop_at {x : Str} {i cc : Nat} (hi : x.cps[i]? = some cc) : x.cps.toList.drop i = cc :: x.cps.toList.drop (i + 1) := by
  obtain ⟨h1, h2⟩ := Array.getElem?_eq_some_iff.mp hi
  have h3 : i < x.cps.toList.length := by simpa using h1
  rw [List.drop_eq_getElem_cons h3]
  simp [h2]
theorem run_space {x : Str} {i cc : Nat} {st fin : WSt} (hi : x.cps[i]? = some cc) (hc : ((⟨#[cc]⟩ : Str) == Str.ofString " ") = true) (h : wsRun (x.cps.toList.drop i) st = fin) : wsRun (x.cps.toList.drop (i + 1)) st.space = fin := by
  rw [sp_is] at hc
  have hc : cc = 32 := by simpa using hc
  rw [drop_at hi, hc] at h
  simpa [wsRun] using h
theorem run_tab {x : Str} {i cc : Nat} {st fin : WSt} (hi : x.cps[i]? = some cc) (hc : ((⟨#[cc]⟩ : Str) == Str.ofString "\t") = true) (h : wsRun (x.cps.toList.drop i) st = fin) : wsRun (x.cps.toList.drop (i + 1)) st.tab = fin := by
  rw [tb_is] at hc
  have hc : cc = 9 := by simpa using hc
  rw [drop_at hi, hc] at h
  simpa [wsRun] using h
theorem run_stop {x : Str} {i cc : Nat} {st fin : WSt} (hi : x.cps[i]? = some cc) (h1 : ((⟨#[cc]⟩ : Str) == Str.ofString " ") = false) (h2 : ((⟨#[cc]⟩ : Str) == Str.ofString "\t") = false) (h : wsRun (x.cps.toList.drop i) st = fin) : st = fin := by
  rw [sp_is] at h1
  rw [tb_is] at h2
  have h1 : ¬ cc = 32 := by simpa using h1
  have h2 : ¬ cc = 9 := by simpa using h2
  rw [drop_at hi] at h
  simpa [wsRun, h1, h2] using h
theorem run_end {x : Str} {st fin : WSt} (h : wsRun (x.cps.toList.drop x.cps.size) st = fin) : st = fin := by
  have e : x.cps.toList.drop x.cps.size = [] := List.drop_eq_nil_of_le (by simp)
  rw [e] at h
  exact h
theorem tab_pad {st : WSt} (h : (st.cnt.length : Int) ≤ st.b) : st.tab.cnt = (st.cnt ++ (List.replicate (st.b - st.cnt.length + 1).toNat [(0 : Int)]).flatten).set st.b.toNat ((st.cnt ++ (List.replicate (st.b - st.cnt.length + 1).toNat [(0 : Int)]).flatten).getD st.b.toNat 0 + 1) := by
  have e : (List.replicate (st.b - st.cnt.length + 1).toNat [(0 : Int)]).flatten = List.replicate (st.b - st.cnt.length + 1).toNat 0 := by simp
  rw [e]
  show (padTo st.cnt st.b).set _ _ = _
  unfold padTo
  rw [if_pos h]
theorem tab_in {st : WSt} (h : ¬ (st.cnt.length : Int) ≤ st.b) : st.tab.cnt = st.cnt.set st.b.toNat (st.cnt.getD st.b.toNat 0 + 1) := by
  show (padTo st.cnt st.b).set _ _ = _
  unfold padTo
  rw [if_neg h]
noncomputable def wsOf (x : Str) : WSt := wsRun x.cps.toList ⟨[], 0, 0, 0⟩
theorem tup_ne {h₀ h : Heap} {L a b : Addr} {l : List (Addr × Obj)} {vs es : _} {n k : Nat} (N : News h₀ L h l) (h1 : (a, ({ cls := .type "tuple", data := .seq vs n } : Obj)) ∈ l) (h2 : (b, dictOf es k) ∈ l) : @Ne Nat a b := by
  rintro rfl
  have e := Option.some.inj ((N _ h1).1.symm.trans (N _ h2).1)
  injection e with e1
  exact absurd e1 (by decide)
theorem cNew (w : World) (news : List (Addr × Obj)) (x : Str) (t : Tok) (hx : x.length ≤ 900) :
    Spec w 124 2 100 [.str x t] news (fun r tl => ∃ x1, r = .ref x1 ∧ WsAt w (tl ++ news) x1 (wsOf x).n (wsOf x).nt (wsOf x).b (wsOf x).cnt) := by
  have hkOn := HkOn.mk
  revert w news x t hx
  intro w news x t hx
  refine spec_ctx ?_
  k_fill
  intro cx B F X N T hk hdp hun ret
  k_with_none
  k_with "m eval Name" => (k_here; name_kind "local"; k_dflt (refine' ld (by k_asm) ?_ ?_; (first | exact rfl | (rotate_left; exact rfl)); k_whole))
  k_with "m k_mem" => first | with_reducible assumption | (refine' List.mem_append_left _ ?_; k_mem) | (refine' List.mem_append_right _ ?_; k_mem)
  k_with "m ne" => first | assumption | (rename ∀ p ∈ _, _ ≠ Prod.fst p => hh2; k_extra "m ne1") | (refine ne_of_stored (by assumption) ?_; decide +kernel)
  k_with "m ne1" => (rename ∀ p ∈ _, _ ≠ Prod.fst p => hh2; first | (have hh3 := hh2 _ (List.Mem.head _); exact hh3) | (replace hh2 := ne_tail hh2; k_extra "m ne1"))
  k_with "m nes" => first | exact fa0 | (refine faC ?_ ?_; (k_extra "m ne"); (k_extra "m nes"))
  k_with "m same1" => first | (refine kstB_out ?_ (by assumption); k_extra "m nes") | (refine (if_neg ?_).trans ?_; (k_extra "m ne"); (k_extra "m same1"))
  k_with "m same" => (intro z h1 h2 h3; k_extra "m same1")
  k_with "m sameW" => (intro z h2 h3; k_extra "m same1")
  k_with "m k_all" => first | with_reducible assumption | (refine' List.forall_mem_append.mpr ⟨?_, ?_⟩; (k_all); (k_all))
  k_with "hk on" => fail_if_success (fail_if_success (with_reducible rename HkOn => hkOn))
  k_with "hk ne" => first | exact neAround | exact neShared | exact neWorld | exact neDrawn | exact neGen | exact neSCtx | exact neI | exact Nonempty.intro (by constructor <;> first | exact default | (constructor <;> exact default))
  k_with "m execs cons" => (k_extra "hk on"; (try k_made); (with_reducible refine wpAny_execs_cons ?_); try dsimp only)
  k_with "m execs nil" => (k_extra "hk on"; refine wpAny_execs_nil ?_)
  k_with "hk omega" => ((k_extra "hk on"); dsimp +zetaDelta only; first | lia | omega +splitDisjunctions)
  k_with "hk ne" => exact neWsD
  k_with_none
  k_with "m eval Name" => (k_here; name_kind "local"; k_dflt (refine' ld (by k_asm) ?_ ?_; (first | exact rfl | (rotate_left; exact rfl)); k_whole))
  k_with "m k_mem" => first | with_reducible assumption | (refine' List.mem_append_left _ ?_; k_mem) | (refine' List.mem_append_right _ ?_; k_mem)
  k_with "m ne" => first | assumption | (rename ∀ p ∈ _, _ ≠ Prod.fst p => hh2; k_extra "m ne1") | (refine ne_of_stored (by assumption) ?_; decide +kernel)
  k_with "m ne1" => (rename ∀ p ∈ _, _ ≠ Prod.fst p => hh2; first | (have hh3 := hh2 _ (List.Mem.head _); exact hh3) | (replace hh2 := ne_tail hh2; k_extra "m ne1"))
  k_with "m nes" => first | exact fa0 | (refine faC ?_ ?_; (k_extra "m ne"); (k_extra "m nes"))
  k_with "m same1" => first | (refine kstB_out ?_ (by assumption); k_extra "m nes") | (refine (if_neg ?_).trans ?_; (k_extra "m ne"); (k_extra "m same1"))
  k_with "m same" => (intro z h1 h2 h3; k_extra "m same1")
  k_with "m sameW" => (intro z h2 h3; k_extra "m same1")
  k_with "m k_all" => first | with_reducible assumption | (refine' List.forall_mem_append.mpr ⟨?_, ?_⟩; (k_all); (k_all))
  k_with "hk on" => fail_if_success (fail_if_success (with_reducible rename HkOn => hkOn))
  k_with "hk ne" => first | exact neAround | exact neShared | exact neWorld | exact neDrawn | exact neGen | exact neSCtx | exact neI | exact Nonempty.intro (by constructor <;> first | exact default | (constructor <;> exact default))
  k_with "m execs cons" => (k_extra "hk on"; (try k_made); (with_reducible refine wpAny_execs_cons ?_); try dsimp only)
  k_with "m execs nil" => (k_extra "hk on"; refine wpAny_execs_nil ?_)
  k_with "hk omega" => ((k_extra "hk on"); dsimp +zetaDelta only; first | lia | omega +splitDisjunctions)
  k_with "hk ne" => exact neWsD
  k_with "m pyIter str" =>
    rename Fr _ _ _ _ => lF'
    rename News _ _ _ _ => lN'
    refine' wsLoop (by rfl) lF' lN' (by omega) (faC rfl (faC rfl (faC rfl (fa1 rfl)))) rfl ?turn ?done
    case' turn => (try dsimp +zetaDelta only); intro i cc c t u h tk own hi hoff hp F' N'; clear lF' lN'; obtain ⟨hI, hd1, hd2, hd3, hd4, hp2, hp3, hp4, hp5, hp6⟩ := hp; (have hi9 := (Array.getElem?_eq_some_iff.mp hi).1); (have hi8 : x.cps.size ≤ 900 := hx); (try dsimp +zetaDelta only at hi8); (try k_fold)
    case' done => (try dsimp +zetaDelta only); intro c u h tk hp F' N'; clear lF' lN'; obtain ⟨hI, hd1, hd2, hd3, hd4, hp2, hp3, hp4, hp5, hp6⟩ := hp; (have hi8 : x.cps.size ≤ 900 := hx); (try dsimp +zetaDelta only at hi8); (try k_fold)
  k_with "m call builtin:len" =>
    refine' kst_len ?zN ?zm hI.length ?zf ?_
    case zN => k_asm
    case zm => k_mem
    case zf => omega
  k_with "m setAttr ref" =>
    (with_reducible show wpAny _ _ (setAttr (Value.ref _) ("norm" : Str) _) _ _ _)
    rename News _ _ _ _ => N5
    have hne := tup_ne N5 (List.Mem.tail _ (List.Mem.head _)) (by k_mem : (dx, dictOf _ _) ∈ _)
    k_dflt (refine' set_dict ?s1 ?s2 ?s3 ?s4 ?s5 ?s6 ?s7 ?s8 ?s9 ?s10 ?s11 ?s12 ?s13 ?_)
    case s1 => k_asm
    case s2 => k_asm
    case s3 => k_asm
    case s4 => k_inst
    case s5 => exact rfl
    case s6 => k_is
    case s7 => k_is
    case s8 => k_is
    case s9 => k_is
    case s10 => k_get
    case s11 => k_put
    case s12 => k_upd
    case s13 => exact Nat.le_of_ble_eq_true rfl
    k_whole
    intro h' F' N'
  k_dflt (refine call_cls F X N (by k_is) (by k_is) (by k_is) ?_)
  intro x1 dx h1 F1 N1 l1 l2
  (try k_lt l1)
  (try k_lt2 l2)
  k_dflt cell_enter
  (repeat' (first | (k_unfold; (try dsimp +zetaDelta only)) | (k_end; kc_close) | (walk1; (try dsimp +zetaDelta only)) | (dsimp only; walk1) | (leave1; (try dsimp +zetaDelta only)) | fail "no step"))
  · have z := run_end hp2
    rename Fr cx.h₀ _ _ _ => F5
    rename News cx.h₀ _ _ _ => N5
    refine ret _ [_, _, _, _, _, _] _ _ F5 N5 ⟨_, rfl, ?_⟩
    unfold wsOf
    rw [← z]
    exact ⟨_, _, _, _, _, _, _, _, _, _, _, _, _, _, _, _, _, .tail _ (.tail _ (.tail _ (.tail _ (.head _)))), .tail _ (.tail _ (.tail _ (.tail _ (.tail _ (.head _))))), .head _, .tail _ (.head _), hI, by omega⟩
  · rename Fr _ _ _ _ => F5
    rename News _ _ _ _ => N5
    have z := run_space hi (by with_reducible assumption) hp2
    refine' endG (⟨c.l, c.vs, c.k, c.st.space, _, _, _⟩ : WHold) F5 N5 ?hn ?ho hoff (faC ?f1 (faC ?f2 (faC ?f3 (fa1 ?f4)))) ?hr ⟨hI, hd1, hd2, hd3, hd4, z, ?q1, ?q2, ?q3, hp6⟩
    case hn => exact fun p hp => List.mem_append_left own hp
    case ho => exact fun p hp => List.mem_append_right (_ :: _ :: _ :: _ :: news) hp
    case q1 => show (c.st.cnt.length : Int) ≤ ((i + 1 : Nat) : Int); omega
    case q2 => show 0 ≤ c.st.b + 1; omega
    case q3 => show c.st.b + 1 + (c.st.cnt.length : Int) ≤ ((i + 1 : Nat) : Int); omega
    case f1 => rfl
    case f2 => rfl
    case f3 => rfl
    case f4 => rfl
    case hr => walk_at "m same"
  · rename Fr _ _ _ _ => F5
    rename News _ _ _ _ => N5
    have z := run_tab hi (by with_reducible assumption) hp2
    have hb : (c.st.cnt.length : Int) ≤ c.st.b := by with_reducible assumption
    have zl : c.st.tab.cnt.length = c.st.cnt.length + (c.st.b - c.st.cnt.length + 1).toNat := by rw [tab_pad hb]; simp
    rename _ ∧ _ => l9
    obtain ⟨_, _, e1, e2, e3, e4, l9⟩ := l9
    refine' endG (⟨_, _, 0, c.st.tab, _, _, _⟩ : WHold) F5 N5 ?hn ?ho ?hoff (faC ?f1 (faC ?f2 (faC ?f3 (fa1 ?f4)))) ?hr ⟨?qI, ?d1, ?d2, ?d3, ?d4, z, ?q1, ?q2, ?q3, ?d6⟩
    case qI => rw [tab_pad hb]; assumption
    case f1 => rfl
    case hn => exact fun p hp => (List.mem_cons.mp hp).elim (fun e => e ▸ List.Mem.head _) fun e => .tail _ (.tail _ (.tail _ (.tail _ (List.mem_append_left own e))))
    case ho => exact fun p hp => .tail _ (.tail _ (.tail _ (.tail _ (List.mem_append_right (_ :: _ :: _ :: news) hp))))
    case hoff => exact fun p hp b hb => (List.mem_cons.mp hb).elim (fun e => e ▸ Nat.ne_of_lt (allLt_in l9 p (List.mem_append_right news hp))) fun e => hoff p hp b (.tail _ e)
    case d1 => exact e2
    case d2 => exact e3
    case d3 => exact e4
    case d4 => exact fun p hp => Nat.ne_of_lt (allLt_in l9 p (List.mem_append_left _ hp))
    case d6 => exact Nat.le_of_lt (Nat.lt_of_le_of_lt hp6 e1)
    case q1 => show (c.st.tab.cnt.length : Int) ≤ ((i + 1 : Nat) : Int); rw [zl]; omega
    case q2 => exact Int.le_refl _
    case q3 => show 0 + (c.st.tab.cnt.length : Int) ≤ ((i + 1 : Nat) : Int); rw [zl]; omega
    case f2 => rfl
    case f3 => rfl
    case f4 => rfl
    case hr => walk_at "m same"
  · rename Fr _ _ _ _ => F5
    rename News _ _ _ _ => N5
    have z := run_tab hi (by with_reducible assumption) hp2
    have zc := tab_in (st := c.st) (by with_reducible assumption)
    have zl : c.st.tab.cnt.length = c.st.cnt.length := by rw [zc, List.length_set]
    refine' endG (⟨c.l, _, c.k, c.st.tab, _, _, _⟩ : WHold) F5 N5 ?hn ?ho ?hoff (faC ?f1 (faC ?f2 (faC ?f3 (fa1 ?f4)))) ?hr ⟨?qI, hd1, hd2, hd3, hd4, z, ?q1, ?q2, ?q3, hp6⟩
    case qI => rw [zc]; assumption
    case hoff => exact hoff
    case hn => exact fun p hp => List.mem_append_left own hp
    case ho => exact fun p hp => List.mem_append_right (_ :: _ :: _ :: _ :: news) hp
    case q1 => show (c.st.tab.cnt.length : Int) ≤ ((i + 1 : Nat) : Int); omega
    case q2 => exact Int.le_refl _
    case q3 => show 0 + (c.st.tab.cnt.length : Int) ≤ ((i + 1 : Nat) : Int); omega
    case f1 => rfl
    case f2 => rfl
    case f3 => rfl
    case f4 => rfl
    case hr => walk_at "m same"
  · have z := run_stop hi (by with_reducible assumption) (by with_reducible assumption) hp2
    rename Fr cx.h₀ _ _ _ => F5
    rename News cx.h₀ _ _ _ => N5
    have N6 : News cx.h₀ cx.L _ ([_, _, _, _, _, _] ++ news) := news_sub N5 (fun p hp => List.mem_append_left own hp)
    refine ret _ [_, _, _, _, _, _] _ _ F5 N6 ⟨_, rfl, ?_⟩
    unfold wsOf
    rw [← z]
    exact ⟨_, _, _, _, _, _, _, _, _, _, _, _, _, _, _, _, _, .tail _ (.tail _ (.tail _ (.tail _ (.head _)))), .tail _ (.tail _ (.tail _ (.tail _ (.tail _ (.head _))))), .head _, .tail _ (.head _), hI, by omega⟩
end Mine
end

-- CA
noncomputable section
namespace Mine
noncomputable def r257 (x : Str) : Str := if Txt.slice x (some 3) (some 5) = Str.ofString " \"" then p257 x else Str.ofString ""
noncomputable def ansD (x h : Str) : Dat := if (Txt.slice x none (some 3) != Str.ofString "257") = true then
    (match r229 x with | .reply => .int 0 | .proto => .int 1 | .value => .int 2 | .ok n => .tuple [.str h, .int n])
  else .str (r257 x)
theorem cAns (w : World) (news : List (Addr × Obj)) (x : Str) (t : Tok) (hx : x.length ≤ 600) (hh : Str) (t2 : Tok) (hsz : ∀ y, (parts229 x)[3]? = some y → PySem.intText? y = none → (reprText y).length ≤ sizeLine) :
    SpecC w 276 2 200 [.str x t, .str hh t2] news (fun r tl => DatIn tl r (ansD x hh)) (fun _ => False) := by
  have hkOn := HkOn.mk
  revert w news x t hx hh t2 hsz
  intro w news x t hx hh t2 hsz
  refine specC_ctx ?_
  k_fill
  intro cx B F X N T XB TB hk hdp hun D ret retx
  k_with_none
  k_with "m eval Name" => (k_here; name_kind "local"; k_dflt (refine' ld (by k_asm) ?_ ?_; (first | exact rfl | (rotate_left; exact rfl)); k_whole))
  k_with "m k_mem" => first | with_reducible assumption | (refine' List.mem_append_left _ ?_; k_mem) | (refine' List.mem_append_right _ ?_; k_mem)
  k_with "m ne" => first | assumption | (rename ∀ p ∈ _, _ ≠ Prod.fst p => hh2; k_extra "m ne1") | (refine ne_of_stored (by assumption) ?_; decide +kernel)
  k_with "m ne1" => (rename ∀ p ∈ _, _ ≠ Prod.fst p => hh2; first | (have hh3 := hh2 _ (List.Mem.head _); exact hh3) | (replace hh2 := ne_tail hh2; k_extra "m ne1"))
  k_with "m nes" => first | exact fa0 | (refine faC ?_ ?_; (k_extra "m ne"); (k_extra "m nes"))
  k_with "m same1" => first | (refine kstB_out ?_ (by assumption); k_extra "m nes") | (refine (if_neg ?_).trans ?_; (k_extra "m ne"); (k_extra "m same1"))
  k_with "m same" => (intro z h1 h2 h3; k_extra "m same1")
  k_with "m sameW" => (intro z h2 h3; k_extra "m same1")
  k_with "m k_all" => first | with_reducible assumption | (refine' List.forall_mem_append.mpr ⟨?_, ?_⟩; (k_all); (k_all))
  k_with "hk on" => fail_if_success (fail_if_success (with_reducible rename HkOn => hkOn))
  k_with "hk ne" => first | exact neAround | exact neShared | exact neWorld | exact neDrawn | exact neGen | exact neSCtx | exact neI | exact Nonempty.intro (by constructor <;> first | exact default | (constructor <;> exact default))
  k_with "m execs cons" => (k_extra "hk on"; (try k_made); (with_reducible refine wpAny_execs_cons ?_); try dsimp only)
  k_with "m execs nil" => (k_extra "hk on"; refine wpAny_execs_nil ?_)
  k_with "hk omega" => ((k_extra "hk on"); dsimp +zetaDelta only; first | lia | omega +splitDisjunctions)
  k_with "hk ne" => exact neWsD
  k_with_none
  k_with "m eval Name" => (k_here; name_kind "local"; k_dflt (refine' ld (by k_asm) ?_ ?_; (first | exact rfl | (rotate_left; exact rfl)); k_whole))
  k_with "m k_mem" => first | with_reducible assumption | (refine' List.mem_append_left _ ?_; k_mem) | (refine' List.mem_append_right _ ?_; k_mem)
  k_with "m ne" => first | assumption | (rename ∀ p ∈ _, _ ≠ Prod.fst p => hh2; k_extra "m ne1") | (refine ne_of_stored (by assumption) ?_; decide +kernel)
  k_with "m ne1" => (rename ∀ p ∈ _, _ ≠ Prod.fst p => hh2; first | (have hh3 := hh2 _ (List.Mem.head _); exact hh3) | (replace hh2 := ne_tail hh2; k_extra "m ne1"))
  k_with "m nes" => first | exact fa0 | (refine faC ?_ ?_; (k_extra "m ne"); (k_extra "m nes"))
  k_with "m same1" => first | (refine kstB_out ?_ (by assumption); k_extra "m nes") | (refine (if_neg ?_).trans ?_; (k_extra "m ne"); (k_extra "m same1"))
  k_with "m same" => (intro z h1 h2 h3; k_extra "m same1")
  k_with "m sameW" => (intro z h2 h3; k_extra "m same1")
  k_with "m k_all" => first | with_reducible assumption | (refine' List.forall_mem_append.mpr ⟨?_, ?_⟩; (k_all); (k_all))
  k_with "hk on" => fail_if_success (fail_if_success (with_reducible rename HkOn => hkOn))
  k_with "hk ne" => first | exact neAround | exact neShared | exact neWorld | exact neDrawn | exact neGen | exact neSCtx | exact neI | exact Nonempty.intro (by constructor <;> first | exact default | (constructor <;> exact default))
  k_with "m execs cons" => (k_extra "hk on"; (try k_made); (with_reducible refine wpAny_execs_cons ?_); try dsimp only)
  k_with "m execs nil" => (k_extra "hk on"; refine wpAny_execs_nil ?_)
  k_with "hk omega" => ((k_extra "hk on"); dsimp +zetaDelta only; first | lia | omega +splitDisjunctions)
  k_with "hk ne" => exact neWsD
  k_with "m call ref" =>
    (with_reducible show wpAny _ _ (call (Value.ref 186) _) _ _ _)
    refine' specX_use (c257 w _ _ _ (Nat.le_trans hx (by decide))) ?B ?F ?X ?N ?T ?hk ?hd ?hu ?D ?ret ?retx
    case B => k_asm
    case F => k_asm
    case X => k_asm
    case N => k_asm
    case T => k_asm
    case hk => exact rfl
    case hd => ktr_room
    case hu => ktr_units
    case D => assumption
    case' ret => intros r7 tl7 h7 tk7 F7 N7 hp7
    case' retx => intros e7 c7 t7 as7 g7 h7 tk7 F7 R7 _ U7 hx7; obtain ⟨hx8, hx9⟩ := hx7; subst hx8
    all_goals try dsimp only
  refine wpC_call ?_
  refine' enterC ?k1 ?k2 ?k3 ?k4 ?k5 ?kX ?kT ?kD ?kA ?k6 ?k7 ?k8 ?k9 ?kB ?_ ?kK ?c2 ?c3 ?c4 ?c5
  case kA => exact rfl
  case kK => assumption
  case k1 => k_asm
  case k2 => k_asm
  case k3 => k_asm
  case k4 => k_asm
  case k5 => k_asm
  case kX => exact XB
  case kT => exact TB
  case kD => exact D
  case k6 => k_is
  case k7 => k_is
  case k8 => ktr_room
  case k9 => exact BindsTo.of_eq rfl
  case c5 => decide
  case kB => exact locs rfl
  case c2 => exact rfl
  case c3 => exact rfl
  case c4 => exact rfl
  k_whole
  intro g' L' h' FG' F' N' B' X' T' D'
  try dsimp only
  refine wpC_cutN 1 ?_
  simp only [List.take_succ_cons, List.take_zero, List.drop_succ_cons, List.drop_zero]
  (repeat' (first | (k_unfold; (try dsimp +zetaDelta only)) | (k_end; kc_close) | (walk1; (try dsimp +zetaDelta only)) | (dsimp only; walk1) | (leave1; (try dsimp +zetaDelta only)) | fail "no step"))
  all_goals try dsimp only
  · rename Below _ _ _ _ => KK
    rename Fr _ _ _ _ => FF
    rename Frag.In _ _ => XX
    rename Top _ _ _ _ _ _ => TT
    rename KtsDicts _ _ => DD
    rename KtsTurn _ _ _ => UU
    show wpC _ _ _ _ _ _
    refine wpC_execs_cons (wpC_Try ?_)
    refine wpC_execs_cons (wpC_Return (wpC_Call ?_))
    (repeat' (first | (k_unfold; (try dsimp +zetaDelta only)) | (k_end; kc_close) | (walk1; (try dsimp +zetaDelta only)) | (dsimp only; walk1) | (leave1; (try dsimp +zetaDelta only)) | fail "no step"))
    refine wpC_callDef ?_
    (repeat' (first | (k_unfold; (try dsimp +zetaDelta only)) | (k_end; kc_close) | (walk1; (try dsimp +zetaDelta only)) | (dsimp only; walk1) | (leave1; (try dsimp +zetaDelta only)) | fail "no step"))
    rename Fr _ _ _ _ => F2
    rename News _ _ _ _ => N2
    have hD : ansD x hh = (match r229 x with | .reply => .int 0 | .proto => .int 1 | .value => .int 2 | .ok n => .tuple [.str hh, .int n]) := by unfold ansD; rw [if_pos (bne_iff_ne.mpr hx9)]
    refine atDef F2 XX (by k_is) ?_
    refine' specC_use (c229 w _ x t hx _ hh t2 _ 21 _ List.mem_cons_self hsz) ?zB ?zF ?zX ?zN ?zT ?zXB ?zTB ?zhk ?zhd ?zhu ?zD ?zret ?zretx
    case zB => exact KK
    case zF => exact F2
    case zX => exact XX
    case zN => exact N2
    case zT => exact TT
    case zXB => exact XB
    case zTB => exact TB
    case zhk => exact rfl
    case zhd => ktr_room
    case zhu => ktr_units
    case zD => exact DD
    case zret =>
      intros r tl h' tk' h₀' bk hp
      obtain ⟨a8, k8, t8, n8, rfl, rfl, hr⟩ := hp
      rw [hr] at hD
      refine endC ret [(a8, tupO [.str hh t2, .int k8 t8] n8)] (UU.trans bk.turn) bk.fr bk.news ?_ ?_ rfl (fun q => q)
      · intro p hp
        rcases List.mem_cons.mp hp with e | e
        · rw [e]; exact List.mem_cons_self
        · exact .tail _ (.tail _ e)
      · rw [hD]
        exact DatIn.tuple List.mem_cons_self (.cons (.str _ _) (.cons (.int _ _) .nil))
    case zretx =>
      intros e8 c8 t8 as8 g8 h8 tk8 F8 R8 _ U8 hx8
      refine land R8 KK U8 (fun h9 H9 => ?_)
      all_goals (first | (revert h9 H9; (try dsimp +zetaDelta only); intro h9 H9) | skip)
      rcases hx8 with ⟨rfl, hr⟩ | ⟨rfl, hr⟩ | ⟨rfl, hr⟩
      all_goals rw [hr] at hD
      · refine hit H9 F8 KK XB TB DD (by k_is) (by kts_isx) (fun h10 g10 Gr => ?_)
        obtain ⟨gT, gF, gN, gB, gX, gP, gD⟩ := Gr
        (repeat' (first | (k_unfold; (try dsimp +zetaDelta only)) | (k_end; kc_close) | (walk1; (try dsimp +zetaDelta only)) | (dsimp only; walk1) | (leave1; (try dsimp +zetaDelta only)) | fail "no step"))
        exact endC ret [] (UU.trans gT) (by k_asm) gN (fun p hp => .tail _ hp) (by rw [hD]; exact .int _ _) rfl (fun q => q)
      · refine miss H9 F8 KK XB TB DD (by k_is) (by kts_isx) (.inl ⟨170, rfl, _, _, _, _, _, _, _, _, _, _, _, _, _, _, _, _, _, by exact rfl, by decide⟩) ?_
        refine hit H9 F8 KK XB TB DD (by k_is) (by kts_isx) (fun h10 g10 Gr => ?_)
        all_goals (first | (revert h10 g10 Gr; (try dsimp +zetaDelta only); intro h10 g10 Gr) | skip)
        obtain ⟨gT, gF, gN, gB, gX, gP, gD⟩ := Gr
        (repeat' (first | (k_unfold; (try dsimp +zetaDelta only)) | (k_end; kc_close) | (walk1; (try dsimp +zetaDelta only)) | (dsimp only; walk1) | (leave1; (try dsimp +zetaDelta only)) | fail "no step"))
        exact endC ret [] (UU.trans gT) (by k_asm) gN (fun p hp => .tail _ hp) (by rw [hD]; exact .int _ _) rfl (fun q => q)
      · refine miss H9 F8 KK XB TB DD (by k_is) (by kts_isx) (.inr rfl) ?_
        refine miss H9 F8 KK XB TB DD (by k_is) (by kts_isx) (.inr rfl) ?_
        refine hitV H9 F8 KK XB TB DD (by k_is) (fun h10 g10 Gr => ?_)
        all_goals (first | (revert h10 g10 Gr; (try dsimp +zetaDelta only); intro h10 g10 Gr) | skip)
        obtain ⟨gT, gF, gN, gB, gX, gP, gD⟩ := Gr
        (repeat' (first | (k_unfold; (try dsimp +zetaDelta only)) | (k_end; kc_close) | (walk1; (try dsimp +zetaDelta only)) | (dsimp only; walk1) | (leave1; (try dsimp +zetaDelta only)) | fail "no step"))
        exact endC ret [] (UU.trans gT) (by k_asm) gN (fun p hp => .tail _ hp) (by rw [hD]; exact .int _ _) rfl (fun q => q)
  · obtain ⟨h2, u2, rfl⟩ := hp7
    refine endC ret [] KtsTurn.refl F7 N7 (fun p hp => List.mem_append_right _ hp) ?_ rfl (fun q => q)
    have hD : ansD x hh = .str (r257 x) := by unfold ansD; rw [if_neg (by rw [h2]; exact Bool.false_ne_true)]
    rw [hD]
    exact DatIn.str _ _
end Mine
end

-- CL
noncomputable section
namespace Mine
noncomputable def WsIn (w : World) (news : List (Addr × Obj)) (x : Addr) (u : WSt) : Prop := WsAt w news x u.n u.nt u.b u.cnt ∧ (u.cnt.length : Int) ≤ 900 ∧ 0 ≤ u.b ∧ u.b ≤ 900
theorem WsIn.mono {w : World} {news news' : List (Addr × Obj)} {x : Addr} {u : WSt} (h : WsIn w news x u) (hs : ∀ p ∈ news, p ∈ news') : WsIn w news' x u := ⟨h.1.mono hs, h.2⟩
noncomputable abbrev WSt.lv (u : WSt) (ts : Int) : Int := lvl u.nt u.b u.cnt ts
noncomputable def WSt.long (u : WSt) : Int := max ((u.cnt.length : Int) - 1) u.b
theorem c_longest (w : World) (news : List (Addr × Obj)) (x : Addr) (u : WSt) (W : WsIn w news x u) :
    Spec w 86 1 20 [.ref x] news (fun r _ => ∃ t, r = .int u.long t) := by
  have hkOn := HkOn.mk
  revert w news x u W
  intro w news x u W
  obtain ⟨W9, _⟩ := W
  refine exE W9.data ?_
  clear W9
  intro d hd9
  obtain ⟨m1, m2, m3, m4, hI, hl⟩ := hd9
  refine spec_ctx ?_
  k_fill
  intro cx B F X N T hk hdp hun ret
  k_with_none
  k_with "m eval Name" => (k_here; name_kind "local"; k_dflt (refine' ld (by k_asm) ?_ ?_; (first | exact rfl | (rotate_left; exact rfl)); k_whole))
  k_with "m k_mem" => first | with_reducible assumption | (refine' List.mem_append_left _ ?_; k_mem) | (refine' List.mem_append_right _ ?_; k_mem)
  k_with "m ne" => first | assumption | (rename ∀ p ∈ _, _ ≠ Prod.fst p => hh2; k_extra "m ne1") | (refine ne_of_stored (by assumption) ?_; decide +kernel)
  k_with "m ne1" => (rename ∀ p ∈ _, _ ≠ Prod.fst p => hh2; first | (have hh3 := hh2 _ (List.Mem.head _); exact hh3) | (replace hh2 := ne_tail hh2; k_extra "m ne1"))
  k_with "m nes" => first | exact fa0 | (refine faC ?_ ?_; (k_extra "m ne"); (k_extra "m nes"))
  k_with "m same1" => first | (refine kstB_out ?_ (by assumption); k_extra "m nes") | (refine (if_neg ?_).trans ?_; (k_extra "m ne"); (k_extra "m same1"))
  k_with "m same" => (intro z h1 h2 h3; k_extra "m same1")
  k_with "m sameW" => (intro z h2 h3; k_extra "m same1")
  k_with "m k_all" => first | with_reducible assumption | (refine' List.forall_mem_append.mpr ⟨?_, ?_⟩; (k_all); (k_all))
  k_with "hk on" => fail_if_success (fail_if_success (with_reducible rename HkOn => hkOn))
  k_with "hk ne" => first | exact neAround | exact neShared | exact neWorld | exact neDrawn | exact neGen | exact neSCtx | exact neI | exact Nonempty.intro (by constructor <;> first | exact default | (constructor <;> exact default))
  k_with "m execs cons" => (k_extra "hk on"; (try k_made); (with_reducible refine wpAny_execs_cons ?_); try dsimp only)
  k_with "m execs nil" => (k_extra "hk on"; refine wpAny_execs_nil ?_)
  k_with "hk omega" => ((k_extra "hk on"); dsimp +zetaDelta only; first | lia | omega +splitDisjunctions)
  k_with "hk ne" => exact neWsD
  k_with_none
  k_with "m eval Name" => (k_here; name_kind "local"; k_dflt (refine' ld (by k_asm) ?_ ?_; (first | exact rfl | (rotate_left; exact rfl)); k_whole))
  k_with "m k_mem" => first | with_reducible assumption | (refine' List.mem_append_left _ ?_; k_mem) | (refine' List.mem_append_right _ ?_; k_mem)
  k_with "m ne" => first | assumption | (rename ∀ p ∈ _, _ ≠ Prod.fst p => hh2; k_extra "m ne1") | (refine ne_of_stored (by assumption) ?_; decide +kernel)
  k_with "m ne1" => (rename ∀ p ∈ _, _ ≠ Prod.fst p => hh2; first | (have hh3 := hh2 _ (List.Mem.head _); exact hh3) | (replace hh2 := ne_tail hh2; k_extra "m ne1"))
  k_with "m nes" => first | exact fa0 | (refine faC ?_ ?_; (k_extra "m ne"); (k_extra "m nes"))
  k_with "m same1" => first | (refine kstB_out ?_ (by assumption); k_extra "m nes") | (refine (if_neg ?_).trans ?_; (k_extra "m ne"); (k_extra "m same1"))
  k_with "m same" => (intro z h1 h2 h3; k_extra "m same1")
  k_with "m sameW" => (intro z h2 h3; k_extra "m same1")
  k_with "m k_all" => first | with_reducible assumption | (refine' List.forall_mem_append.mpr ⟨?_, ?_⟩; (k_all); (k_all))
  k_with "hk on" => fail_if_success (fail_if_success (with_reducible rename HkOn => hkOn))
  k_with "hk ne" => first | exact neAround | exact neShared | exact neWorld | exact neDrawn | exact neGen | exact neSCtx | exact neI | exact Nonempty.intro (by constructor <;> first | exact default | (constructor <;> exact default))
  k_with "m execs cons" => (k_extra "hk on"; (try k_made); (with_reducible refine wpAny_execs_cons ?_); try dsimp only)
  k_with "m execs nil" => (k_extra "hk on"; refine wpAny_execs_nil ?_)
  k_with "hk omega" => ((k_extra "hk on"); dsimp +zetaDelta only; first | lia | omega +splitDisjunctions)
  k_with "hk ne" => exact neWsD
  k_with "m call builtin:len" => (refine' len_tupI ?N ?m hI hl ?_; (case N => k_asm); (case m => k_mem))
  refine wpAny_call ?_
  k_dflt cell_enter
  (repeat' (first | (k_unfold; (try dsimp +zetaDelta only)) | (k_end; kc_close) | (walk1; (try dsimp +zetaDelta only)) | (dsimp only; walk1) | (leave1; (try dsimp +zetaDelta only)) | fail "no step"))
  all_goals exact end0 ret (by k_asm) (by k_asm) (fun p hp => hp) ⟨_, congrArg (fun y => Value.int y _) (by unfold WSt.long; split <;> omega)⟩
end Mine
end

-- CE
noncomputable section
namespace Mine
section
variable {prog : Program} {w : World} {A : Around} {E : Value → Shared → Prop} {s : Shared} {h₀ : Heap} {L a b : Addr} {news : List (Addr × Obj)} {xs ys : List Value} {ka kb : Nat} {ds es : List Dat} {Q : Value → Shared → Prop}
theorem tup_eq (N : News h₀ L s.heap news) (ma : (a, tupO xs ka) ∈ news) (Da : DatAll news xs ds) (mb : (b, tupO ys kb) ∈ news) (Db : DatAll news ys es)
    (ha : ∀ d ∈ ds, kqdOk 8 d = true) (hb : ∀ d ∈ es, kqdOk 8 d = true) (hu : A.units + 64 < cLine) (h : ∀ bb : Bool, (bb = true ↔ ds = es) → Q (.bool bb) s) : wpAny (model prog w) A (compareOp .Eq (.ref a) (.ref b)) Q E s := by
  obtain ⟨as, ra⟩ := kqd_all N 8 Da ha
  obtain ⟨bs, rb⟩ := kqd_all N 8 Db hb
  have la := kqd_lay 9 (.tuple ds) (by simpa [kqdOk] using ha)
  have lb := kqd_lay 9 (.tuple es) (by simpa [kqdOk] using hb)
  rw [kqdP] at la lb
  have e : PyData.eqv (.tuple (kqdPs ds)) (.tuple (kqdPs es)) = true ↔ ds = es := by
    have q := kqd_eqv 9 (.tuple ds) (.tuple es) 9 (by simpa [kqdOk] using ha) (by simpa [kqdOk] using hb)
    rw [kqdP, kqdP, Dat.tuple.injEq] at q
    exact q
  refine eq_dataH (reads_tuple_at (N.get ma) rfl rfl (by simpa using ra)) (reads_tuple_at (N.get mb) rfl rfl (by simpa using rb)) ?_ ?_ hu (h _ e)
  · unfold SeqAt.shaped; rw [la.1, Bool.true_and]; exact decide_eq_true (Nat.le_trans la.2 (by decide))
  · unfold SeqAt.shaped; rw [lb.1, Bool.true_and]; exact decide_eq_true (Nat.le_trans lb.2 (by decide))
end
theorem ints_dat {news : List (Addr × Obj)} : ∀ {vs : List Value} {ns : List Int}, IntsAre vs ns → DatAll news vs (ns.map Dat.int)
  | _, _, .nil => .nil
  | _, _, .cons _ _ r => .cons (.int _ _) (ints_dat r)
theorem ints_ok (n : Nat) (ns : List Int) : ∀ d ∈ ns.map Dat.int, kqdOk n d = true := fun d hd => by
  obtain ⟨k, _, rfl⟩ := List.mem_map.mp hd
  cases n <;> rfl
theorem c_equal (w : World) (news : List (Addr × Obj)) (x y : Addr) (u v : WSt) (W : WsIn w news x u) (W' : WsIn w news y v) :
    Spec w 100 3 200 [.ref x, .ref y] news (fun r _ => ∃ b, r = .bool b ∧ (b = true ↔ u.cnt = v.cnt ∧ u.b = v.b)) := by
  have hkOn := HkOn.mk
  revert w news x y u v W W'
  intro w news x y u v W W'
  obtain ⟨W9, q1, q2, q3⟩ := W
  refine exE W9.data ?_
  clear W9
  intro d hd9
  obtain ⟨m1, m2, m3, m4, hI, hl⟩ := hd9
  obtain ⟨W9, q1', q2', q3'⟩ := W'
  refine exE W9.data ?_
  clear W9
  intro d' hd9
  obtain ⟨m1', m2', m3', m4', hI', hl'⟩ := hd9
  refine spec_ctx ?_
  k_fill
  intro cx B F X N T hk hdp hun ret
  k_with_none
  k_with "m eval Name" => (k_here; name_kind "local"; k_dflt (refine' ld (by k_asm) ?_ ?_; (first | exact rfl | (rotate_left; exact rfl)); k_whole))
  k_with "m k_mem" => first | with_reducible assumption | (refine' List.mem_append_left _ ?_; k_mem) | (refine' List.mem_append_right _ ?_; k_mem)
  k_with "m ne" => first | assumption | (rename ∀ p ∈ _, _ ≠ Prod.fst p => hh2; k_extra "m ne1") | (refine ne_of_stored (by assumption) ?_; decide +kernel)
  k_with "m ne1" => (rename ∀ p ∈ _, _ ≠ Prod.fst p => hh2; first | (have hh3 := hh2 _ (List.Mem.head _); exact hh3) | (replace hh2 := ne_tail hh2; k_extra "m ne1"))
  k_with "m nes" => first | exact fa0 | (refine faC ?_ ?_; (k_extra "m ne"); (k_extra "m nes"))
  k_with "m same1" => first | (refine kstB_out ?_ (by assumption); k_extra "m nes") | (refine (if_neg ?_).trans ?_; (k_extra "m ne"); (k_extra "m same1"))
  k_with "m same" => (intro z h1 h2 h3; k_extra "m same1")
  k_with "m sameW" => (intro z h2 h3; k_extra "m same1")
  k_with "m k_all" => first | with_reducible assumption | (refine' List.forall_mem_append.mpr ⟨?_, ?_⟩; (k_all); (k_all))
  k_with "hk on" => fail_if_success (fail_if_success (with_reducible rename HkOn => hkOn))
  k_with "hk ne" => first | exact neAround | exact neShared | exact neWorld | exact neDrawn | exact neGen | exact neSCtx | exact neI | exact Nonempty.intro (by constructor <;> first | exact default | (constructor <;> exact default))
  k_with "m execs cons" => (k_extra "hk on"; (try k_made); (with_reducible refine wpAny_execs_cons ?_); try dsimp only)
  k_with "m execs nil" => (k_extra "hk on"; refine wpAny_execs_nil ?_)
  k_with "hk omega" => ((k_extra "hk on"); dsimp +zetaDelta only; first | lia | omega +splitDisjunctions)
  k_with "hk ne" => exact neWsD
  k_with_none
  k_with "m eval Name" => (k_here; name_kind "local"; k_dflt (refine' ld (by k_asm) ?_ ?_; (first | exact rfl | (rotate_left; exact rfl)); k_whole))
  k_with "m k_mem" => first | with_reducible assumption | (refine' List.mem_append_left _ ?_; k_mem) | (refine' List.mem_append_right _ ?_; k_mem)
  k_with "m ne" => first | assumption | (rename ∀ p ∈ _, _ ≠ Prod.fst p => hh2; k_extra "m ne1") | (refine ne_of_stored (by assumption) ?_; decide +kernel)
  k_with "m ne1" => (rename ∀ p ∈ _, _ ≠ Prod.fst p => hh2; first | (have hh3 := hh2 _ (List.Mem.head _); exact hh3) | (replace hh2 := ne_tail hh2; k_extra "m ne1"))
  k_with "m nes" => first | exact fa0 | (refine faC ?_ ?_; (k_extra "m ne"); (k_extra "m nes"))
  k_with "m same1" => first | (refine kstB_out ?_ (by assumption); k_extra "m nes") | (refine (if_neg ?_).trans ?_; (k_extra "m ne"); (k_extra "m same1"))
  k_with "m same" => (intro z h1 h2 h3; k_extra "m same1")
  k_with "m sameW" => (intro z h2 h3; k_extra "m same1")
  k_with "m k_all" => first | with_reducible assumption | (refine' List.forall_mem_append.mpr ⟨?_, ?_⟩; (k_all); (k_all))
  k_with "hk on" => fail_if_success (fail_if_success (with_reducible rename HkOn => hkOn))
  k_with "hk ne" => first | exact neAround | exact neShared | exact neWorld | exact neDrawn | exact neGen | exact neSCtx | exact neI | exact Nonempty.intro (by constructor <;> first | exact default | (constructor <;> exact default))
  k_with "m execs cons" => (k_extra "hk on"; (try k_made); (with_reducible refine wpAny_execs_cons ?_); try dsimp only)
  k_with "m execs nil" => (k_extra "hk on"; refine wpAny_execs_nil ?_)
  k_with "hk omega" => ((k_extra "hk on"); dsimp +zetaDelta only; first | lia | omega +splitDisjunctions)
  k_with "hk ne" => exact neWsD
  k_with "m compareOp Eq ref ref" =>
    rename News _ _ _ _ => N3
    have ok : ∀ (l : List Int) (b : Int), ∀ d ∈ [Dat.tuple (l.map Dat.int), Dat.int b], kqdOk 8 d = true := fun l b d hd => by
      rcases List.mem_cons.mp hd with rfl | hd
      · simpa [kqdOk] using ints_ok 7 l
      · obtain rfl := List.mem_singleton.mp hd; rfl
    refine tup_eq N3 m3 (.cons (.tuple m4 (ints_dat hI)) (.cons (.int _ _) .nil)) m3' (.cons (.tuple m4' (ints_dat hI')) (.cons (.int _ _) .nil)) (ok _ _) (ok _ _) (by ktr_units) (fun bb hbb => ?_)
    all_goals (first | (revert bb hbb; (try dsimp +zetaDelta only); intro bb hbb) | skip)
  refine wpAny_call ?_
  k_dflt cell_enter
  (repeat' (first | (k_unfold; (try dsimp +zetaDelta only)) | (k_end; kc_close) | (walk1; (try dsimp +zetaDelta only)) | (dsimp only; walk1) | (leave1; (try dsimp +zetaDelta only)) | fail "no step"))
  all_goals
    refine end0 ret (by k_asm) (by k_asm) (fun p hp => by k_mem) ⟨_, rfl, ?_⟩
    have inj : ∀ {l l' : List Int}, l.map Dat.int = l'.map Dat.int → l = l' := fun {l l'} h => List.map_inj_right (fun a b e => by injection e) |>.mp h
    refine hbb.trans ⟨fun e => ?_, fun e => by rw [e.1, e.2]⟩
    injection e with e1 e2
    injection e1 with e1
    injection e2 with e2
    injection e2 with e2
    exact ⟨inj e1, e2⟩
end Mine
end

-- CLs
noncomputable section
namespace Mine
noncomputable def lessUp (u v : WSt) (a : Int) (k : Nat) : Prop := ∀ i : Nat, i < k → u.lv (a + (i : Int)) < v.lv (a + (i : Int))
theorem lessUp_succ {u v : WSt} {a : Int} {k : Nat} (h : lessUp u v a k) (h1 : ¬ v.lv (a + (k : Int)) ≤ u.lv (a + (k : Int))) : lessUp u v a (k + 1) := fun i hi => by
  by_cases e : i = k
  · rw [e]; omega
  · exact h i (by omega)
inductive LessIs (u v : WSt) : Bool → Prop
  | short (h : v.n ≤ u.n) : LessIs u v false
  | simple (h : u.n < v.n) (h1 : (u.cnt.length : Int) ≤ 1) (h2 : (v.cnt.length : Int) ≤ 1) : LessIs u v (decide (u.nt ≤ v.nt))
  | no (h : u.n < v.n) (ts : Int) (h2 : 2 ≤ ts) (h3 : ts ≤ max u.long v.long + 1) (h4 : v.lv ts ≤ u.lv ts) : LessIs u v false
  | yes (h : u.n < v.n) (h2 : ∀ ts, 2 ≤ ts → ts ≤ max u.long v.long + 1 → u.lv ts < v.lv ts) : LessIs u v true
theorem c_less (w : World) (news : List (Addr × Obj)) (x y : Addr) (u v : WSt) (W : WsIn w news x u) (W' : WsIn w news y v) :
    Spec w 114 3 200 [.ref x, .ref y] news (fun r _ => ∃ b, r = .bool b ∧ LessIs u v b) := by
  have hkOn := HkOn.mk
  revert w news x y u v W W'
  intro w news x y u v W W'
  have W0 := W
  have W0' := W'
  obtain ⟨W9, q1, q2, q3⟩ := W
  refine exE W9.data ?_
  clear W9
  intro d hd9
  obtain ⟨m1, m2, m3, m4, hI, hl⟩ := hd9
  obtain ⟨W9, q1', q2', q3'⟩ := W'
  refine exE W9.data ?_
  clear W9
  intro d' hd9
  obtain ⟨m1', m2', m3', m4', hI', hl'⟩ := hd9
  have z1 : u.long ≤ 900 := by unfold WSt.long; omega
  have z2 : v.long ≤ 900 := by unfold WSt.long; omega
  have z3 : 0 ≤ u.long := by unfold WSt.long; omega
  refine spec_ctx ?_
  k_fill
  intro cx B F X N T hk hdp hun ret
  k_with_none
  k_with "m eval Name" => (k_here; name_kind "local"; k_dflt (refine' ld (by k_asm) ?_ ?_; (first | exact rfl | (rotate_left; exact rfl)); k_whole))
  k_with "m k_mem" => first | with_reducible assumption | (refine' List.mem_append_left _ ?_; k_mem) | (refine' List.mem_append_right _ ?_; k_mem)
  k_with "m ne" => first | assumption | (rename ∀ p ∈ _, _ ≠ Prod.fst p => hh2; k_extra "m ne1") | (refine ne_of_stored (by assumption) ?_; decide +kernel)
  k_with "m ne1" => (rename ∀ p ∈ _, _ ≠ Prod.fst p => hh2; first | (have hh3 := hh2 _ (List.Mem.head _); exact hh3) | (replace hh2 := ne_tail hh2; k_extra "m ne1"))
  k_with "m nes" => first | exact fa0 | (refine faC ?_ ?_; (k_extra "m ne"); (k_extra "m nes"))
  k_with "m same1" => first | (refine kstB_out ?_ (by assumption); k_extra "m nes") | (refine (if_neg ?_).trans ?_; (k_extra "m ne"); (k_extra "m same1"))
  k_with "m same" => (intro z h1 h2 h3; k_extra "m same1")
  k_with "m sameW" => (intro z h2 h3; k_extra "m same1")
  k_with "m k_all" => first | with_reducible assumption | (refine' List.forall_mem_append.mpr ⟨?_, ?_⟩; (k_all); (k_all))
  k_with "hk on" => fail_if_success (fail_if_success (with_reducible rename HkOn => hkOn))
  k_with "hk ne" => first | exact neAround | exact neShared | exact neWorld | exact neDrawn | exact neGen | exact neSCtx | exact neI | exact Nonempty.intro (by constructor <;> first | exact default | (constructor <;> exact default))
  k_with "m execs cons" => (k_extra "hk on"; (try k_made); (with_reducible refine wpAny_execs_cons ?_); try dsimp only)
  k_with "m execs nil" => (k_extra "hk on"; refine wpAny_execs_nil ?_)
  k_with "hk omega" => ((k_extra "hk on"); dsimp +zetaDelta only; first | lia | omega +splitDisjunctions)
  k_with "hk ne" => exact neWsD
  k_with_none
  k_with "m eval Name" => (k_here; name_kind "local"; k_dflt (refine' ld (by k_asm) ?_ ?_; (first | exact rfl | (rotate_left; exact rfl)); k_whole))
  k_with "m k_mem" => first | with_reducible assumption | (refine' List.mem_append_left _ ?_; k_mem) | (refine' List.mem_append_right _ ?_; k_mem)
  k_with "m ne" => first | assumption | (rename ∀ p ∈ _, _ ≠ Prod.fst p => hh2; k_extra "m ne1") | (refine ne_of_stored (by assumption) ?_; decide +kernel)
  k_with "m ne1" => (rename ∀ p ∈ _, _ ≠ Prod.fst p => hh2; first | (have hh3 := hh2 _ (List.Mem.head _); exact hh3) | (replace hh2 := ne_tail hh2; k_extra "m ne1"))
  k_with "m nes" => first | exact fa0 | (refine faC ?_ ?_; (k_extra "m ne"); (k_extra "m nes"))
  k_with "m same1" => first | (refine kstB_out ?_ (by assumption); k_extra "m nes") | (refine (if_neg ?_).trans ?_; (k_extra "m ne"); (k_extra "m same1"))
  k_with "m same" => (intro z h1 h2 h3; k_extra "m same1")
  k_with "m sameW" => (intro z h2 h3; k_extra "m same1")
  k_with "m k_all" => first | with_reducible assumption | (refine' List.forall_mem_append.mpr ⟨?_, ?_⟩; (k_all); (k_all))
  k_with "hk on" => fail_if_success (fail_if_success (with_reducible rename HkOn => hkOn))
  k_with "hk ne" => first | exact neAround | exact neShared | exact neWorld | exact neDrawn | exact neGen | exact neSCtx | exact neI | exact Nonempty.intro (by constructor <;> first | exact default | (constructor <;> exact default))
  k_with "m execs cons" => (k_extra "hk on"; (try k_made); (with_reducible refine wpAny_execs_cons ?_); try dsimp only)
  k_with "m execs nil" => (k_extra "hk on"; refine wpAny_execs_nil ?_)
  k_with "hk omega" => ((k_extra "hk on"); dsimp +zetaDelta only; first | lia | omega +splitDisjunctions)
  k_with "hk ne" => exact neWsD
  k_with "m call ref" =>
    first | (show wpAny _ _ (call (Value.ref _) [_]) _ _ _) | (show wpAny _ _ (call (Value.ref _) [_, _]) _ _ _) | (show wpAny _ _ (call (Value.ref _) [_, _, _]) _ _ _) | (show wpAny _ _ (call (Value.ref _) [_, _, _, _]) _ _ _) | skip
    rename Fr _ _ _ _ => F3
    rename News _ _ _ _ => N3
    first
    | (with_reducible show wpAny _ _ (call (Value.ref 86) [Value.ref x]) _ _ _
       refine spec_useT (c_longest w _ x u (W0.mono (fun p hp => by k_mem))) (by k_asm) F3 (by k_asm) N3 (by k_asm) rfl (by ktr_room) (by ktr_units) ?_
       ((try dsimp +zetaDelta only); intro t7 h7 tk7 F7 N7; clear F3 N3))
    | (with_reducible show wpAny _ _ (call (Value.ref 86) [Value.ref y]) _ _ _
       refine spec_useT (c_longest w _ y v (W0'.mono (fun p hp => by k_mem))) (by k_asm) F3 (by k_asm) N3 (by k_asm) rfl (by ktr_room) (by ktr_units) ?_
       ((try dsimp +zetaDelta only); intro t7 h7 tk7 F7 N7; clear F3 N3))
    | (with_reducible show wpAny _ _ (call (Value.ref 93) [Value.ref x, _]) _ _ _
       refine spec_useT (c_indent w _ x u.n u.nt u.b _ _ u.cnt (W0.mono (fun p hp => by k_mem)).1 (by omega) (by omega)) (by k_asm) F3 (by k_asm) N3 (by k_asm) rfl (by ktr_room) (by ktr_units) ?_
       ((try dsimp +zetaDelta only); intro t7 h7 tk7 F7 N7; clear F3 N3))
    | (with_reducible show wpAny _ _ (call (Value.ref 93) [Value.ref y, _]) _ _ _
       refine spec_useT (c_indent w _ y v.n v.nt v.b _ _ v.cnt (W0'.mono (fun p hp => by k_mem)).1 (by omega) (by omega)) (by k_asm) F3 (by k_asm) N3 (by k_asm) rfl (by ktr_room) (by ktr_units) ?_
       ((try dsimp +zetaDelta only); intro t7 h7 tk7 F7 N7; clear F3 N3))
  k_with "m pyIter ref" =>
    rename Fr _ _ _ _ => lF'
    rename News _ _ _ _ => lN'
    rename IsRange _ _ _ _ _ _ _ _ => rgX
    obtain ⟨N9, hN9, hN8⟩ : ∃ N9 : Int, N9 = max u.long v.long ∧ (if u.long < v.long then v.long else u.long) = N9 := ⟨_, rfl, by split <;> omega⟩
    rw [hN8] at rgX
    with_unfolding_all refine rngG (σ := Unit) (fun _ => news) (fun c => []) [] (fun i c => lessUp u v 2 i) (by rfl) rgX (small_one (by omega) (by omega) (by omega) (by omega)) (rangeSize_nat _ _) lF' ⟨(), lN', fa0, fun i hi => absurd hi (Nat.not_lt_zero _)⟩ (fun i c t uu h tk own hi hoff hp F' N' => ?_) (fun c uu h tk hp F' N' => ?_)
    all_goals (first | (revert i c t uu h tk own hi hoff hp F' N'; (try dsimp +zetaDelta only); intro i c t uu h tk own hi hoff hp F' N') | (revert c uu h tk hp F' N'; (try dsimp +zetaDelta only); intro c uu h tk hp F' N') | skip)
    all_goals (clear lF' lN'; (try k_fold))
  k_with "m InvEndG" =>
    rename Fr _ _ _ _ => F'
    rename News _ _ _ _ => N'
    refine endG () F' N' (fun p hp => List.mem_append_left _ hp) (fun p hp => List.mem_append_right _ hp) hoff fa0 (by walk_at "m same") ?_
    exact lessUp_succ hp (by with_reducible assumption)
  refine wpAny_call ?_
  k_dflt cell_enter
  (repeat' (first | (k_unfold; (try dsimp +zetaDelta only)) | (k_end; kc_close) | (walk1; (try dsimp +zetaDelta only)) | (dsimp only; walk1) | (leave1; (try dsimp +zetaDelta only)) | fail "no step"))
  all_goals first
    | exact end0 ret (by k_asm) (by k_asm) (fun p hp => by k_mem) ⟨_, rfl, .no (by omega) (2 + (i : Int)) (by omega) (by omega) (by with_reducible assumption)⟩
    | exact end0 ret (by k_asm) (by k_asm) (fun p hp => by k_mem) ⟨_, rfl, .short (by with_reducible assumption)⟩
    | exact end0 ret (by k_asm) (by k_asm) (fun p hp => by k_mem) ⟨_, rfl, .simple (by omega) (by with_reducible assumption) (by with_reducible assumption)⟩
    | exact end0 ret (by k_asm) (by k_asm) (fun p hp => by k_mem) ⟨_, rfl, .yes (by omega) (fun ts h2 h3 => by
        have q := hp (ts - 2).toNat (by omega)
        have e : 2 + ((ts - 2).toNat : Int) = ts := by omega
        rw [e] at q
        exact q)⟩
    | trace_state
end Mine
end

-- CW
noncomputable section
namespace Mine
noncomputable def witTs (u v : WSt) : Nat → List Int
  | 0 => []
  | n + 1 => if u.lv (1 + (n : Int)) = v.lv (1 + (n : Int)) then witTs u v n else witTs u v n ++ [1 + (n : Int)]
noncomputable def witD (u v : WSt) (n : Nat) : List Dat := (witTs u v n).map fun ts => Dat.tuple [.int ts, .int (u.lv ts), .int (v.lv ts)]
theorem witD_eq {u v : WSt} {n : Nat} (h : u.lv (1 + (n : Int)) = v.lv (1 + (n : Int))) : witD u v (n + 1) = witD u v n := by
  unfold witD; rw [witTs, if_pos h]
theorem witD_ne {u v : WSt} {n : Nat} (h : ¬ u.lv (1 + (n : Int)) = v.lv (1 + (n : Int))) : witD u v (n + 1) = witD u v n ++ [Dat.tuple [.int (1 + (n : Int)), .int (u.lv (1 + (n : Int))), .int (v.lv (1 + (n : Int)))]] := by
  unfold witD; rw [witTs, if_neg h, List.map_append]; rfl
theorem witTs_len (u v : WSt) : ∀ n, (witTs u v n).length ≤ n
  | 0 => Nat.le_refl 0
  | n + 1 => by
    have := witTs_len u v n
    rw [witTs]
    split
    · omega
    · rw [List.length_append]; simp; omega
structure FillH where
  vs : List Value
  k : Nat
  tl : List (Addr × Obj)
  ds : List Dat
noncomputable def FillInv (l : Addr) (D : Nat → List Dat) (i : Nat) (c : FillH) : Prop := DatAll c.tl c.vs c.ds ∧ c.ds = D i ∧ (∀ p ∈ c.tl, p.1 ≠ l) ∧ c.vs.length ≤ i
section
variable {prog : Program} {w : World} {A : Around} {E : Value → Shared → Prop} {s : Shared} {env : Env} {h₀ : Heap} {y : Str} {body : List Stmt} {Q : Flow → Shared → Prop}
theorem fillR {l : Addr} {k0 : Nat} {news : List (Addr × Obj)} {r : Addr} {a₀ b₀ : Int} {t₀ u₀ v₀ : Tok} {n : Nat} {m₀ : Str → Option Value} (D : Nat → List Dat) (stored : List Str)
    (hh : A.handled = none) (hr : IsRange s.heap r a₀ b₀ 1 t₀ u₀ v₀) (hsmall : Builtin.Range.small a₀ b₀ 1 = true) (hn : Builtin.Range.rangeSize a₀ b₀ 1 = (n : Int)) (F : Fr h₀ env.locals s.heap m₀)
    (N : News h₀ env.locals s.heap ((l, W.listOf [].toArray k0) :: news)) (hD : D 0 = [])
    (turn : ∀ (i : Nat) (c : FillH) t (uu : Str → Option Value) h tk own, i < n → OwnOff own (((l, W.listOf c.vs.toArray c.k) :: (c.tl ++ news)).map (·.1)) → DatAll c.tl c.vs c.ds → c.ds = D i → (∀ p ∈ c.tl, p.1 ≠ l) → c.vs.length ≤ i →
      Fr h₀ env.locals h (fun z => if z = y then some (.int (a₀ + (i : Int)) t) else kstB (fun z => if stored.contains z then uu z else m₀ z) [] z) → News h₀ env.locals h ((l, W.listOf c.vs.toArray c.k) :: (c.tl ++ (news ++ own))) →
      wpAny (model prog w) A (execs body env) (InvPostG h₀ env.locals (MS (fun c : FillH => (l, W.listOf c.vs.toArray c.k) :: (c.tl ++ news)) (fun _ => []) y stored m₀ (FillInv l D (i + 1))) own { s with heap := h, toks := tk } Q) E { s with heap := h, toks := tk })
    (done : ∀ (c : FillH) (uu : Str → Option Value) h tk, FillInv l D n c → Fr h₀ env.locals h (fun z => if z = y then uu z else kstB (fun z => if stored.contains z then uu z else m₀ z) [] z) → News h₀ env.locals h ((l, W.listOf c.vs.toArray c.k) :: (c.tl ++ news)) → Q .next { s with heap := h, toks := tk }) :
    wpAny (model prog w) A (pyIter (.ref r)) (fun it s₂ => LoopAtV prog w A h₀ env y body Q E it s₂) E s := by
  refine rngG (fun c : FillH => (l, W.listOf c.vs.toArray c.k) :: (c.tl ++ news)) (fun _ => []) stored (FillInv l D) hh hr hsmall hn F ⟨⟨[], k0, [], []⟩, N, fa0, .nil, hD.symm, fa0, Nat.le_refl _⟩ ?_ done
  rintro i c t uu h tk own hi hoff ⟨h1, h2, h3, h4⟩ F' N'
  exact turn i c t uu h tk own hi hoff h1 h2 h3 h4 F' (by simpa only [List.cons_append, List.append_assoc] using N')
end
theorem fillEnd {h₀ : Heap} {y : Str} {news own led add : List (Addr × Obj)} {l L : Addr} {D : Nat → List Dat} {i k' : Nat} {c : FillH} {stored : List Str} {m₀ m' : Str → Option Value} {s₁ : Shared} {h' : Heap} {tk : Nat} (v : Value) (d : Dat)
    (F : Fr h₀ L h' m') (N : News h₀ L h' led) (hled : ∀ p ∈ (l, W.listOf (c.vs ++ [v]).toArray k') :: ((add ++ c.tl) ++ news), p ∈ led) (ho : ∀ p ∈ own, p ∈ led)
    (hoff : OwnOff own (((l, W.listOf c.vs.toArray c.k) :: (c.tl ++ news)).map (·.1))) (ha : ∀ q ∈ add, @LT.lt Nat _ l q.1 ∧ ∀ p ∈ own, @LT.lt Nat _ p.1 q.1) (h1 : DatAll c.tl c.vs c.ds) (h2 : c.ds = D i) (h3 : ∀ p ∈ c.tl, p.1 ≠ l) (h4 : c.vs.length ≤ i)
    (hd : DatIn (add ++ c.tl) v d) (hD : D (i + 1) = D i ++ [d]) (hr : ∀ z, z ≠ y → (∀ p ∈ ([] : List (Str × Value)), z ≠ p.1) → stored.contains z = false → m' z = m₀ z) :
    InvEndG h₀ L (MS (fun c : FillH => (l, W.listOf c.vs.toArray c.k) :: (c.tl ++ news)) (fun _ => []) y stored m₀ (FillInv l D (i + 1))) own s₁ { s₁ with heap := h', toks := tk } := by
  refine endG (⟨c.vs ++ [v], k', add ++ c.tl, c.ds ++ [d]⟩ : FillH) F N hled ho ?_ fa0 hr ⟨.append (h1.mono fun p hp => List.mem_append_right _ hp) (.one hd), by rw [hD, ← h2], ?_, by rw [List.length_append]; exact Nat.succ_le_succ h4⟩
  · intro p hp b hb
    rcases List.mem_cons.mp hb with rfl | hb
    · exact hoff p hp _ (.head _)
    · obtain ⟨q, hq, rfl⟩ := List.mem_map.mp hb
      rcases List.mem_append.mp hq with hq | hq
      · rcases List.mem_append.mp hq with hq | hq
        · exact Nat.ne_of_lt ((ha q hq).2 p hp)
        · exact hoff p hp _ (.tail _ (List.mem_map.mpr ⟨q, List.mem_append_left _ hq, rfl⟩))
      · exact hoff p hp _ (.tail _ (List.mem_map.mpr ⟨q, List.mem_append_right _ hq, rfl⟩))
  · intro p hp
    rcases List.mem_append.mp hp with hp | hp
    · exact Nat.ne_of_gt (ha p hp).1
    · exact h3 p hp
theorem fillSame {h₀ : Heap} {y : Str} {news own led : List (Addr × Obj)} {l L : Addr} {D : Nat → List Dat} {i : Nat} {c : FillH} {stored : List Str} {m₀ m' : Str → Option Value} {s₁ : Shared} {h' : Heap} {tk : Nat}
    (F : Fr h₀ L h' m') (N : News h₀ L h' led) (hled : ∀ p ∈ (l, W.listOf c.vs.toArray c.k) :: (c.tl ++ news), p ∈ led) (ho : ∀ p ∈ own, p ∈ led)
    (hoff : OwnOff own (((l, W.listOf c.vs.toArray c.k) :: (c.tl ++ news)).map (·.1))) (h1 : DatAll c.tl c.vs c.ds) (h2 : c.ds = D i) (h3 : ∀ p ∈ c.tl, p.1 ≠ l) (h4 : c.vs.length ≤ i)
    (hD : D (i + 1) = D i) (hr : ∀ z, z ≠ y → (∀ p ∈ ([] : List (Str × Value)), z ≠ p.1) → stored.contains z = false → m' z = m₀ z) :
    InvEndG h₀ L (MS (fun c : FillH => (l, W.listOf c.vs.toArray c.k) :: (c.tl ++ news)) (fun _ => []) y stored m₀ (FillInv l D (i + 1))) own s₁ { s₁ with heap := h', toks := tk } :=
  endG c F N hled ho hoff fa0 hr ⟨h1, by rw [hD, ← h2], h3, Nat.le_succ_of_le h4⟩
theorem listOf_push {vs : List Value} {v : Value} {k : Nat} : W.listOf (vs.toArray.push v) k = W.listOf (vs ++ [v]).toArray k := by rw [List.push_toArray]
theorem fill_led {a : Addr × Obj} {x : Addr × Obj} {tl news own : List (Addr × Obj)} : ∀ p ∈ x :: (([a] ++ tl) ++ news), p ∈ a :: x :: (tl ++ (news ++ own)) := fun p hp => by
  simp only [List.mem_cons, List.mem_append, List.not_mem_nil, or_false] at hp ⊢
  rcases hp with h | (h | h) | h <;> simp [h]
theorem c_witness (w : World) (news : List (Addr × Obj)) (x y : Addr) (u v : WSt) (W : WsIn w news x u) (W' : WsIn w news y v) :
    Spec w 107 3 200 [.ref x, .ref y] news (fun r tl => ∃ l vs k tl', r = .ref l ∧ tl = (l, PySem.W.listOf vs.toArray k) :: tl' ∧ DatAll tl' vs (witD u v (max u.long v.long + 1).toNat)) := by
  have hkOn := HkOn.mk
  revert w news x y u v W W'
  intro w news x y u v W W'
  have W0 := W
  have W0' := W'
  obtain ⟨W9, q1, q2, q3⟩ := W
  refine exE W9.data ?_
  clear W9
  intro d hd9
  obtain ⟨m1, m2, m3, m4, hI, hl⟩ := hd9
  obtain ⟨W9, q1', q2', q3'⟩ := W'
  refine exE W9.data ?_
  clear W9
  intro d' hd9
  obtain ⟨m1', m2', m3', m4', hI', hl'⟩ := hd9
  have z1 : u.long ≤ 900 := by unfold WSt.long; omega
  have z2 : v.long ≤ 900 := by unfold WSt.long; omega
  have z3 : 0 ≤ u.long := by unfold WSt.long; omega
  refine spec_ctx ?_
  k_fill
  intro cx B F X N T hk hdp hun ret
  k_with_none
  k_with "m eval Name" => (k_here; name_kind "local"; k_dflt (refine' ld (by k_asm) ?_ ?_; (first | exact rfl | (rotate_left; exact rfl)); k_whole))
  k_with "m k_mem" => first | with_reducible assumption | (refine' List.mem_append_left _ ?_; k_mem) | (refine' List.mem_append_right _ ?_; k_mem)
  k_with "m ne" => first | assumption | (rename ∀ p ∈ _, _ ≠ Prod.fst p => hh2; k_extra "m ne1") | (refine ne_of_stored (by assumption) ?_; decide +kernel)
  k_with "m ne1" => (rename ∀ p ∈ _, _ ≠ Prod.fst p => hh2; first | (have hh3 := hh2 _ (List.Mem.head _); exact hh3) | (replace hh2 := ne_tail hh2; k_extra "m ne1"))
  k_with "m nes" => first | exact fa0 | (refine faC ?_ ?_; (k_extra "m ne"); (k_extra "m nes"))
  k_with "m same1" => first | (refine kstB_out ?_ (by assumption); k_extra "m nes") | (refine (if_neg ?_).trans ?_; (k_extra "m ne"); (k_extra "m same1"))
  k_with "m same" => (intro z h1 h2 h3; k_extra "m same1")
  k_with "m sameW" => (intro z h2 h3; k_extra "m same1")
  k_with "m k_all" => first | with_reducible assumption | (refine' List.forall_mem_append.mpr ⟨?_, ?_⟩; (k_all); (k_all))
  k_with "hk on" => fail_if_success (fail_if_success (with_reducible rename HkOn => hkOn))
  k_with "hk ne" => first | exact neAround | exact neShared | exact neWorld | exact neDrawn | exact neGen | exact neSCtx | exact neI | exact Nonempty.intro (by constructor <;> first | exact default | (constructor <;> exact default))
  k_with "m execs cons" => (k_extra "hk on"; (try k_made); (with_reducible refine wpAny_execs_cons ?_); try dsimp only)
  k_with "m execs nil" => (k_extra "hk on"; refine wpAny_execs_nil ?_)
  k_with "hk omega" => ((k_extra "hk on"); dsimp +zetaDelta only; first | lia | omega +splitDisjunctions)
  k_with "hk ne" => exact neWsD
  k_with_none
  k_with "m eval Name" => (k_here; name_kind "local"; k_dflt (refine' ld (by k_asm) ?_ ?_; (first | exact rfl | (rotate_left; exact rfl)); k_whole))
  k_with "m k_mem" => first | with_reducible assumption | (refine' List.mem_append_left _ ?_; k_mem) | (refine' List.mem_append_right _ ?_; k_mem)
  k_with "m ne" => first | assumption | (rename ∀ p ∈ _, _ ≠ Prod.fst p => hh2; k_extra "m ne1") | (refine ne_of_stored (by assumption) ?_; decide +kernel)
  k_with "m ne1" => (rename ∀ p ∈ _, _ ≠ Prod.fst p => hh2; first | (have hh3 := hh2 _ (List.Mem.head _); exact hh3) | (replace hh2 := ne_tail hh2; k_extra "m ne1"))
  k_with "m nes" => first | exact fa0 | (refine faC ?_ ?_; (k_extra "m ne"); (k_extra "m nes"))
  k_with "m same1" => first | (refine kstB_out ?_ (by assumption); k_extra "m nes") | (refine (if_neg ?_).trans ?_; (k_extra "m ne"); (k_extra "m same1"))
  k_with "m same" => (intro z h1 h2 h3; k_extra "m same1")
  k_with "m sameW" => (intro z h2 h3; k_extra "m same1")
  k_with "m k_all" => first | with_reducible assumption | (refine' List.forall_mem_append.mpr ⟨?_, ?_⟩; (k_all); (k_all))
  k_with "hk on" => fail_if_success (fail_if_success (with_reducible rename HkOn => hkOn))
  k_with "hk ne" => first | exact neAround | exact neShared | exact neWorld | exact neDrawn | exact neGen | exact neSCtx | exact neI | exact Nonempty.intro (by constructor <;> first | exact default | (constructor <;> exact default))
  k_with "m execs cons" => (k_extra "hk on"; (try k_made); (with_reducible refine wpAny_execs_cons ?_); try dsimp only)
  k_with "m execs nil" => (k_extra "hk on"; refine wpAny_execs_nil ?_)
  k_with "hk omega" => ((k_extra "hk on"); dsimp +zetaDelta only; first | lia | omega +splitDisjunctions)
  k_with "hk ne" => exact neWsD
  k_with "m call ref" =>
    first | (show wpAny _ _ (call (Value.ref _) [_]) _ _ _) | (show wpAny _ _ (call (Value.ref _) [_, _]) _ _ _) | (show wpAny _ _ (call (Value.ref _) [_, _, _]) _ _ _) | (show wpAny _ _ (call (Value.ref _) [_, _, _, _]) _ _ _) | skip
    rename Fr _ _ _ _ => F3
    rename News _ _ _ _ => N3
    first
    | (with_reducible show wpAny _ _ (call (Value.ref 86) [Value.ref x]) _ _ _
       refine spec_useT (c_longest w _ x u (W0.mono (fun p hp => by k_mem))) (by k_asm) F3 (by k_asm) N3 (by k_asm) rfl (by ktr_room) (by ktr_units) ?_
       ((try dsimp +zetaDelta only); intro t7 h7 tk7 F7 N7; clear F3 N3))
    | (with_reducible show wpAny _ _ (call (Value.ref 86) [Value.ref y]) _ _ _
       refine spec_useT (c_longest w _ y v (W0'.mono (fun p hp => by k_mem))) (by k_asm) F3 (by k_asm) N3 (by k_asm) rfl (by ktr_room) (by ktr_units) ?_
       ((try dsimp +zetaDelta only); intro t7 h7 tk7 F7 N7; clear F3 N3))
    | (with_reducible show wpAny _ _ (call (Value.ref 93) [Value.ref x, _]) _ _ _
       refine spec_useT (c_indent w _ x u.n u.nt u.b _ _ u.cnt (W0.mono (fun p hp => by k_mem)).1 (by omega) (by omega)) (by k_asm) F3 (by k_asm) N3 (by k_asm) rfl (by ktr_room) (by ktr_units) ?_
       ((try dsimp +zetaDelta only); intro t7 h7 tk7 F7 N7; clear F3 N3))
    | (with_reducible show wpAny _ _ (call (Value.ref 93) [Value.ref y, _]) _ _ _
       refine spec_useT (c_indent w _ y v.n v.nt v.b _ _ v.cnt (W0'.mono (fun p hp => by k_mem)).1 (by omega) (by omega)) (by k_asm) F3 (by k_asm) N3 (by k_asm) rfl (by ktr_room) (by ktr_units) ?_
       ((try dsimp +zetaDelta only); intro t7 h7 tk7 F7 N7; clear F3 N3))
  k_with "m pyIter ref" =>
    rename Fr _ _ _ _ => lF'
    rename News _ _ _ _ => lN'
    rename IsRange _ _ _ _ _ _ _ _ => rgX
    obtain ⟨N9, hN9, hN8⟩ : ∃ N9 : Int, N9 = max u.long v.long ∧ (if u.long < v.long then v.long else u.long) = N9 := ⟨_, rfl, by split <;> omega⟩
    rw [hN8] at rgX
    with_unfolding_all refine fillR (witD u v) [] (by rfl) rgX (small_one (by omega) (by omega) (by omega) (by omega)) (rangeSize_nat _ _) lF' lN' rfl (fun i c t uu h tk own hi hoff hp1 hp2 hp3 hp4 F' N' => ?_) (fun c uu h tk hp F' N' => ?_)
    all_goals (first | (revert i c t uu h tk own hi hoff hp1 hp2 hp3 hp4 F' N'; (try dsimp +zetaDelta only); intro i c t uu h tk own hi hoff hp1 hp2 hp3 hp4 F' N') | (revert c uu h tk hp F' N'; (try dsimp +zetaDelta only); intro c uu h tk hp F' N') | skip)
    all_goals (clear lF' lN'; (try k_fold))
  k_with "m InvEndG" =>
    rename Fr _ _ _ _ => F'
    rename News _ _ _ _ => N'
    first
    | (have e := witD_eq (u := u) (v := v) (n := i) (by with_reducible assumption)
       refine fillSame F' N' (fun p hp => ?_) (fun p hp => ?_) hoff hp1 hp2 hp3 hp4 e (by walk_at "m same")
       · simp only [List.mem_cons, List.mem_append] at hp ⊢; rcases hp with hp | hp | hp <;> simp [hp]
       · simp only [List.mem_cons, List.mem_append]; simp [hp])
    | (have e := witD_ne (u := u) (v := v) (n := i) (by with_reducible assumption)
       rename _ ∧ AllLt _ _ => l9
       rw [listOf_push] at N'
       refine fillEnd (add := [(_, tupO [_, _, _] 0)]) _ _ F' N' fill_led (fun p hp => ?_) hoff (fa1 ⟨l9.1, fun p hp => allLt_in l9.2 p (List.mem_append_right _ (List.mem_append_right _ hp))⟩) hp1 hp2 hp3 hp4 (.tuple (.head _) (.cons (.int _ _) (.cons (.int _ _) (.cons (.int _ _) .nil)))) e (by walk_at "m same")
       exact .tail _ (.tail _ (List.mem_append_right _ (List.mem_append_right _ hp))))
  refine wpAny_call ?_
  k_dflt cell_enter
  (repeat' (first | (k_unfold; (try dsimp +zetaDelta only)) | (k_end; kc_close) | (walk1; (try dsimp +zetaDelta only)) | (dsimp only; walk1) | (leave1; (try dsimp +zetaDelta only)) | fail "no step"))
  all_goals
    obtain ⟨g1, g2, g3, g4⟩ := hp
    rename News cx.h₀ _ _ _ => N5
    rename Fr cx.h₀ _ _ _ => F5
    refine ret _ ((_, PySem.W.listOf c.vs.toArray c.k) :: c.tl) _ _ F5 N5 ⟨_, _, _, _, rfl, rfl, ?_⟩
    rw [g2] at g1
    rw [show N9 + 1 + 1 - 1 = max u.long v.long + 1 from by omega] at g1
    exact g1
end Mine
end

-- MK
open PyProof.Rows.LCg
open LCt
namespace Mine
section
variable {prog : Program} {w : World} {A : Around} {E : Value → Shared → Prop} {s : Shared} {h₀ : Heap} {L : Addr} {m : Str → Option Value} {env : Env} {elt ct : Expr} {x : Str} {scope : Scope} {cl : List (Str × Addr)} {S : List (Addr × Obj) → Prop} {P : Nat → Value → Prop} {Fin : List Value → List (Addr × Obj) → Prop} {n : Nat} {NW : List (Addr × Obj)}
theorem compEnd_mono {s₁ s₂ : Shared} {I C D : Addr} {oI oC oD : Obj} {rest rest' : Value → List (Addr × Obj) → Prop} {y : Value} (h : CompEnd h₀ L m s₁ I oI C oC D oD S rest y s₂) (hr : ∀ nw, rest y nw → rest' y nw) : CompEnd h₀ L m s₁ I oI C oC D oD S rest' y s₂ := by
  obtain ⟨h', tk, nw, e, F, N, o, hS, r⟩ := h
  exact ⟨h', tk, nw, e, F, N, o, hS, hr _ r⟩
theorem compU (R : Nat → List Value → Prop)
    (turn : ∀ i ys v I oI C oC D m₂ h tk (E' : Value → Shared → Prop), i < n → R i ys → P i v → NsObj oC m₂ → m₂ x = some v → Fr h₀ L h m → News h₀ L h ((I, oI) :: (C, oC) :: (D, lst ys) :: NW) → Off3 I C D NW → ((@Ne Nat I C) ∧ (@Ne Nat I D) ∧ (@Ne Nat C D)) →
      wpAny (model prog w) A (eval elt (compEnvC scope cl C env)) (CompEnd h₀ L m { s with heap := h, toks := tk } I oI C oC D (lst ys) S (fun y nw' => nw' = NW ∧ R (i + 1) (ys ++ [y]))) E' { s with heap := h, toks := tk })
    (fin : ∀ ys, R n ys → Fin ys NW) (h0 : R 0 []) : CompRest prog w A h₀ L m env elt x scope cl s S P Fin n 0 [] NW := by
  have key : ∀ k i ys, i + k = n → R i ys → CompRest prog w A h₀ L m env elt x scope cl s S P Fin k i ys NW := by
    intro k
    induction k with
    | zero => intro i ys e hR; obtain rfl : i = n := e; exact fin ys hR
    | succ k ih =>
      intro i ys e hR
      refine CompRest.succ fun v I oI C oC D m₂ h tk E' hP hC hx F N off dis => ?_
      refine wpAny_mono (turn i ys v I oI C oC D m₂ h tk E' (by omega) hR hP hC hx F N off dis) (fun y s' hy => ?_) fun _ _ e => e
      refine compEnd_mono hy ?_
      rintro nw ⟨rfl, hR'⟩
      exact ih (i + 1) _ (by omega) hR'
  exact key n 0 [] (Nat.zero_add n) h0
theorem compT (R : Nat → List Value → Prop)
    (turn : ∀ i ys v I oI C oC D m₂ h tk (E' : Value → Shared → Prop), i < n → R i ys → P i v → NsObj oC m₂ → m₂ x = some v → Fr h₀ L h m → News h₀ L h ((I, oI) :: (C, oC) :: (D, lst ys) :: NW) → Off3 I C D NW → ((@Ne Nat I C) ∧ (@Ne Nat I D) ∧ (@Ne Nat C D)) →
      wpAny (model prog w) A (isTrue ct (compEnvC scope cl C env) (eval ct (compEnvC scope cl C env))) (fun ok s' => if ok = true then
        wpAny (model prog w) A (eval elt (compEnvC scope cl C env)) (CompEnd h₀ L m { s with heap := h, toks := tk } I oI C oC D (lst ys) S (fun y nw' => nw' = NW ∧ R (i + 1) (ys ++ [y]))) E' s'
        else CompEnd h₀ L m { s with heap := h, toks := tk } I oI C oC D (lst ys) S (fun _ nw' => nw' = NW ∧ R (i + 1) ys) Value.none s') E' { s with heap := h, toks := tk })
    (fin : ∀ ys, R n ys → Fin ys NW) (h0 : R 0 []) : CompRestT prog w A h₀ L m env ct elt x scope cl s S P Fin n 0 [] NW := by
  have key : ∀ k i ys, i + k = n → R i ys → CompRestT prog w A h₀ L m env ct elt x scope cl s S P Fin k i ys NW := by
    intro k
    induction k with
    | zero => intro i ys e hR; obtain rfl : i = n := e; exact fin ys hR
    | succ k ih =>
      intro i ys e hR
      show ∀ v I oI C oC D m₂ h tk (E' : Value → Shared → Prop), _
      intro v I oI C oC D m₂ h tk E' hP hC hx F N off dis
      refine wpAny_mono (turn i ys v I oI C oC D m₂ h tk E' (by omega) hR hP hC hx F N off dis) (fun ok s' hy => ?_) fun _ _ e => e
      cases ok with
      | true =>
        simp only [if_true] at hy ⊢
        refine wpAny_mono hy (fun y s'' hy' => compEnd_mono hy' ?_) fun _ _ e => e
        rintro nw ⟨rfl, hR'⟩
        exact ih (i + 1) _ (by omega) hR'
      | false =>
        simp only [Bool.false_eq_true, if_false] at hy ⊢
        refine compEnd_mono hy ?_
        rintro nw ⟨rfl, hR'⟩
        exact ih (i + 1) _ (by omega) hR'
  exact key n 0 [] (Nat.zero_add n) h0
theorem compEnd_pure {s₁ : Shared} {I C D : Addr} {oI oC : Obj} {ys : List Value} {R : Value → Prop} {y : Value} {h' : Heap} {tk : Nat} {led : List (Addr × Obj)} (F : Fr h₀ L h' m) (N : News h₀ L h' led) (sub : ∀ p ∈ (I, oI) :: (C, oC) :: (D, lst ys) :: NW, p ∈ led) (off : Off3 I C D NW) (hS : S NW) (r : R y) :
    CompEnd h₀ L m s₁ I oI C oC D (lst ys) S (fun y nw' => nw' = NW ∧ R y) y { s₁ with heap := h', toks := tk } := CompEnd.intro F N NW sub off hS ⟨rfl, r⟩
end
theorem StrsAre_snoc {vs : List Value} {xs : List Str} {x : Str} {t : Tok} (h : StrsAre vs xs) : StrsAre (vs ++ [.str x t]) (xs ++ [x]) := by
  induction h with
  | nil => exact .cons _ _ .nil
  | cons _ _ _ ih => exact .cons _ _ ih
theorem IntsAre_snoc {vs : List Value} {xs : List Int} {x : Int} {t : Tok} (h : IntsAre vs xs) : IntsAre (vs ++ [.int x t]) (xs ++ [x]) := by
  induction h with
  | nil => exact .cons _ _ .nil
  | cons _ _ _ ih => exact .cons _ _ ih
theorem take_map {α β : Type} (f : α → β) {l : List α} {i : Nat} {a : α} (h : l[i]? = some a) : (l.take (i + 1)).map f = (l.take i).map f ++ [f a] := by
  rw [List.take_add_one, h, List.map_append]; rfl
end Mine

-- PS
namespace Mine
noncomputable abbrev tl (x : Str) : List Nat := x.cps.toList
noncomputable abbrev mk (l : List Nat) : Str := ⟨l.toArray⟩
theorem tl_mk (l : List Nat) : tl (mk l) = l := rfl
theorem mk_tl (x : Str) : mk (tl x) = x := rfl
theorem tl_inj {x y : Str} (h : tl x = tl y) : x = y := by rw [← mk_tl x, ← mk_tl y, h]
theorem tl_app (x y : Str) : tl (x ++ y) = tl x ++ tl y := by show (x ++ y).cps.toList = _; rw [Str.cps_append, Array.toList_append]
theorem tl_len (x : Str) : (tl x).length = x.length := rfl
noncomputable def repL (c : Nat) (z l : List Nat) : List Nat := l.flatMap fun d => if d = c then z else [d]
theorem repL_free {c : Nat} {z l : List Nat} (h : c ∉ l) : repL c z l = l := by
  induction l with
  | nil => rfl
  | cons k r ih =>
    have h1 : ¬ k = c := fun e => h (e ▸ .head _)
    show (if k = c then z else [k]) ++ repL c z r = _
    rw [if_neg h1, ih fun m => h (.tail _ m)]; rfl
theorem repL_app (c : Nat) (z a b : List Nat) : repL c z (a ++ b) = repL c z a ++ repL c z b := List.flatMap_append
theorem repL_one (c : Nat) (z : List Nat) : repL c z [c] = z := by simp [repL]
theorem rep_join (c : Nat) (z : Str) : ∀ parts : List Str, (∀ p ∈ parts, c ∉ tl p) → repL c (tl z) (tl (Str.join ⟨#[c]⟩ parts)) = tl (Str.join z parts)
  | [], _ => rfl
  | [p], h => repL_free (h p (List.mem_singleton.mpr rfl))
  | p :: q :: r, h => by
    have ih := rep_join c z (q :: r) fun a ha => h a (List.mem_cons_of_mem _ ha)
    show repL c (tl z) (tl (p ++ ⟨#[c]⟩ ++ Str.join ⟨#[c]⟩ (q :: r))) = tl (p ++ z ++ Str.join z (q :: r))
    rw [tl_app, tl_app, tl_app, tl_app, repL_app, repL_app, ih, repL_free (h p (List.mem_cons_self ..))]
    show tl p ++ repL c (tl z) [c] ++ _ = _
    rw [repL_one]
theorem rep_eq (x z : Str) (c : Nat) : tl (Txt.replace x ⟨#[c]⟩ z) = repL c (tl z) (tl x) := by
  rw [StrLaws.replace_one, ← rep_join c z _ (StrLaws.split_free x c), StrLaws.join_split]
theorem contains_eq (x : Str) (c : Nat) : Txt.contains x ⟨#[c]⟩ = decide (c ∈ tl x) := StrLaws.found_one x c
noncomputable def splitL (c : Nat) : List Nat → List (List Nat)
  | [] => [[]]
  | k :: r => if k = c then [] :: splitL c r else match splitL c r with | [] => [[k]] | p :: q => (k :: p) :: q
theorem splitL_free {c : Nat} {l : List Nat} (h : c ∉ l) : splitL c l = [l] := by
  induction l with
  | nil => rfl
  | cons k r ih =>
    have h1 : ¬ k = c := fun e => h (e ▸ .head _)
    rw [splitL, if_neg h1, ih fun m => h (.tail _ m)]
theorem splitL_cons {c : Nat} {l r : List Nat} (h : c ∉ l) : splitL c (l ++ c :: r) = l :: splitL c r := by
  induction l with
  | nil => show splitL c (c :: r) = _; rw [splitL, if_pos rfl]
  | cons k q ih =>
    have h1 : ¬ k = c := fun e => h (e ▸ .head _)
    show splitL c (k :: (q ++ c :: r)) = _
    rw [splitL, if_neg h1, ih fun m => h (.tail _ m)]
theorem splitL_join (c : Nat) : ∀ parts : List Str, parts ≠ [] → (∀ p ∈ parts, c ∉ tl p) → splitL c (tl (Str.join ⟨#[c]⟩ parts)) = parts.map tl
  | [], h, _ => absurd rfl h
  | [p], _, h => splitL_free (h p (List.mem_singleton.mpr rfl))
  | p :: q :: r, _, h => by
    have ih := splitL_join c (q :: r) (List.cons_ne_nil _ _) fun a ha => h a (List.mem_cons_of_mem _ ha)
    show splitL c (tl (p ++ ⟨#[c]⟩ ++ Str.join ⟨#[c]⟩ (q :: r))) = _
    rw [tl_app, tl_app, List.append_assoc]
    show splitL c (tl p ++ c :: tl (Str.join ⟨#[c]⟩ (q :: r))) = _
    rw [splitL_cons (h p (List.mem_cons_self ..)), ih]; rfl
theorem split_eq (x : Str) (c : Nat) : (Txt.split x ⟨#[c]⟩).map tl = splitL c (tl x) := by
  have hne : Txt.split x ⟨#[c]⟩ ≠ [] := by
    unfold Txt.split
    split
    · exact List.cons_ne_nil _ _
    · split
      · exact List.cons_ne_nil _ _
      · rw [StrLaws.partsBetween_eq]
        obtain ⟨p, r, e⟩ := StrLaws.partsFrom_ne x (⟨#[c]⟩ : Str).length 0 (Builtin.Str.occurrences x ⟨#[c]⟩ 0 x.length (x.length + 1))
        rw [e]; exact List.cons_ne_nil _ _
  rw [← splitL_join c _ hne (StrLaws.split_free x c), StrLaws.join_split]
theorem find3_at {x : Str} {c i k : Nat} {a b : List Nat} (hx : tl x = a ++ c :: b) (hi : i ≤ a.length) (hk : k = a.length) (hf : c ∉ a.drop i) : Txt.find3 x ⟨#[c]⟩ (i : Int) = (k : Int) := by
  have hl : x.length = a.length + (b.length + 1) := by rw [← tl_len, hx, List.length_append, List.length_cons]
  have hfi : PySem.fromIndex x.length (i : Int) = i := by
    unfold PySem.fromIndex
    (repeat' split) <;> omega
  have get : ∀ v, x.cps.getD v 0 = (a ++ c :: b).getD v 0 := fun v => by
    rw [← hx]; show x.cps.getD v 0 = x.cps.toList.getD v 0
    rw [List.getD_eq_getElem?_getD, Array.getElem?_toList, Array.getD_eq_getD_getElem?]
  have hat : x.cps.getD a.length 0 = c := by rw [get]; simp
  rcases StrLaws.find3_spec x c (i : Int) with ⟨h, hn⟩ | ⟨k', h, h1, h2, h3, h4⟩
  · exact absurd hat (hn a.length (by omega) (by omega))
  · rw [h, hk]
    rw [hfi] at h1 h4
    rcases Nat.lt_trichotomy k' a.length with q | q | q
    · exfalso
      rw [get, List.getD_eq_getElem?_getD, List.getElem?_append_left q, List.getElem?_eq_getElem q] at h3
      apply hf
      rw [List.mem_iff_getElem]
      refine ⟨k' - i, by rw [List.length_drop]; omega, ?_⟩
      rw [List.getElem_drop]
      have e : i + (k' - i) = k' := by omega
      simp only [e]
      exact h3
    · rw [q]
    · exact absurd hat (h4 a.length (by omega) q)
theorem find_at {x : Str} {c : Nat} {a b : List Nat} (hx : tl x = a ++ c :: b) (hf : c ∉ a) : Txt.find x ⟨#[c]⟩ = (a.length : Int) := by
  have h := find3_at (i := 0) (k := a.length) hx (Nat.zero_le _) rfl (by simpa using hf)
  rw [← h]
  show Txt.find x _ = Txt.find3 x _ 0
  unfold Txt.find Txt.find3
  have hfi : PySem.fromIndex x.length (0 : Int) = 0 := by
    unfold PySem.fromIndex
    (repeat' split) <;> omega
  rw [hfi]
  rfl
theorem slice_eq {x : Str} {i j : Nat} (h1 : i ≤ j) (h2 : j ≤ (tl x).length) : tl (Txt.slice x (some (i : Int)) (some (j : Int))) = ((tl x).drop i).take (j - i) := by
  have h := StrLaws.sliceText_plain (x := x) (i := (i : Int)) (j := (j : Int)) ⟨by omega, by omega, by show (j : Int) ≤ ((tl x).length : Int); omega⟩
  have e : Txt.slice x (some (i : Int)) (some (j : Int)) = StrLaws.sliceText x (some (i : Int)) (some (j : Int)) := rfl
  rw [e, h]
  show ((tl x).drop (i : Int).toNat).take ((j : Int) - (i : Int)).toNat = _
  rw [show ((i : Int)).toNat = i from by omega, show ((j : Int) - (i : Int)).toNat = j - i from by omega]
theorem slice_to {x : Str} {j : Nat} (h2 : j ≤ (tl x).length) : tl (Txt.slice x none (some (j : Int))) = (tl x).take j := by
  have h := StrLaws.sliceText_to (x := x) (j := (j : Int)) ⟨by omega, by show (j : Int) ≤ ((tl x).length : Int); omega⟩
  have e : Txt.slice x none (some (j : Int)) = StrLaws.sliceText x none (some (j : Int)) := rfl
  rw [e, h]
  show ((tl x).drop 0).take ((j : Int) - 0).toNat = _
  rw [show ((j : Int) - 0).toNat = j from by omega, List.drop_zero]
theorem slice_from {x : Str} {i : Nat} (h2 : i ≤ (tl x).length) : tl (Txt.slice x (some (i : Int)) none) = (tl x).drop i := by
  have h := StrLaws.sliceText_from (x := x) (i := (i : Int)) ⟨by omega, by show (i : Int) ≤ ((tl x).length : Int); omega⟩
  have e : Txt.slice x (some (i : Int)) none = StrLaws.sliceText x (some (i : Int)) none := rfl
  rw [e, h]
  show ((tl x).drop (i : Int).toNat).take (((tl x).length : Int) - (i : Int)).toNat = _
  rw [show ((i : Int)).toNat = i from by omega, show (((tl x).length : Int) - (i : Int)).toNat = (tl x).length - i from by omega]
  exact List.take_of_length_le (by rw [List.length_drop]; exact Nat.le_refl _)
theorem item_eq {x : Str} {k : Nat} {c : Nat} (h : (tl x)[k]? = some c) : Txt.item x (k : Int) = ⟨#[c]⟩ := by
  refine item_meets (by omega) ?_
  rw [show ((k : Int)).toNat = k from by omega, ← Array.getElem?_toList]
  exact h
noncomputable def spell (T : List (Nat × List Nat)) (d : Nat) : List Nat := match T.lookup d with | some r => r | none => [d]
noncomputable def flat (T : List (Nat × List Nat)) (l : List Nat) : List Nat := l.flatMap (spell T)
theorem flat_nil (l : List Nat) : flat [] l = l := by
  induction l with
  | nil => rfl
  | cons a r ih => show [a] ++ flat [] r = _; rw [ih]; rfl
theorem flat_app (T : List (Nat × List Nat)) (a b : List Nat) : flat T (a ++ b) = flat T a ++ flat T b := List.flatMap_append
theorem lookup_snoc {T : List (Nat × List Nat)} {c d : Nat} {z : List Nat} : (T ++ [(c, z)]).lookup d = match T.lookup d with | some r => some r | none => if d = c then some z else none := by
  induction T with
  | nil =>
    by_cases h : d = c
    · subst h; simp [List.lookup]
    · have hb : (d == c) = false := by simpa using h
      simp [List.lookup, hb, h]
  | cons p r ih =>
    obtain ⟨k, v⟩ := p
    by_cases h : d = k
    · subst h; simp [List.lookup]
    · have hb : (d == k) = false := by simpa using h
      simp only [List.cons_append, List.lookup, hb]
      exact ih
theorem lookup_in {T : List (Nat × List Nat)} {d : Nat} {r : List Nat} (h : T.lookup d = some r) : ∃ k, (k, r) ∈ T := by
  induction T with
  | nil => cases h
  | cons p q ih =>
    obtain ⟨k, v⟩ := p
    by_cases e : d = k
    · subst e; simp only [List.lookup, beq_self_eq_true] at h; cases h; exact ⟨_, .head _⟩
    · have hb : (d == k) = false := by simpa using e
      simp only [List.lookup, hb] at h
      obtain ⟨k', hk⟩ := ih h
      exact ⟨k', .tail _ hk⟩
theorem flat_step {T : List (Nat × List Nat)} {c : Nat} {z : List Nat} (h : ∀ p ∈ T, c ∉ p.2) (l : List Nat) : repL c z (flat T l) = flat (T ++ [(c, z)]) l := by
  induction l with
  | nil => rfl
  | cons a r ih =>
    show repL c z (spell T a ++ flat T r) = spell (T ++ [(c, z)]) a ++ flat (T ++ [(c, z)]) r
    rw [repL_app, ih]
    congr 1
    unfold spell
    rw [lookup_snoc]
    cases hq : T.lookup a with
    | some q =>
      obtain ⟨k, hk⟩ := lookup_in hq
      exact repL_free (h _ hk)
    | none =>
      show repL c z [a] = _
      by_cases e : a = c
      · subst e; rw [repL_one, if_pos rfl]
      · rw [repL_free (by simpa using Ne.symm e), if_neg e]
theorem flat_len {T : List (Nat × List Nat)} {B : Nat} (hB : 1 ≤ B) (h : ∀ p ∈ T, p.2.length ≤ B) (l : List Nat) : (flat T l).length ≤ B * l.length := by
  induction l with
  | nil => exact Nat.le_refl 0
  | cons a r ih =>
    show (spell T a ++ flat T r).length ≤ B * (r.length + 1)
    rw [List.length_append, Nat.mul_succ]
    have : (spell T a).length ≤ B := by
      unfold spell
      cases hq : T.lookup a with
      | some q => obtain ⟨k, hk⟩ := lookup_in hq; exact h _ hk
      | none => exact hB
    omega
noncomputable def flatS (T : List (Nat × List Nat)) (x : Str) : Str := mk (flat T (tl x))
theorem flatS_step {T : List (Nat × List Nat)} {c : Nat} {z : Str} (x : Str) (h : ∀ p ∈ T, c ∉ p.2) : Txt.replace (flatS T x) ⟨#[c]⟩ z = flatS (T ++ [(c, tl z)]) x := by
  apply tl_inj
  rw [rep_eq]
  exact flat_step h (tl x)
theorem flatS_skip {T : List (Nat × List Nat)} {c : Nat} {z : Str} (x : Str) (h : ∀ p ∈ T, c ∉ p.2) (hc : Txt.contains (flatS T x) ⟨#[c]⟩ = false) : flatS T x = flatS (T ++ [(c, tl z)]) x := by
  rw [← flatS_step x h]
  apply tl_inj
  rw [rep_eq, repL_free]
  rw [contains_eq] at hc
  simpa using hc
end Mine

-- MT
namespace Mine
theorem iteB {b : Bool} {p q : Prop} (h1 : b = true → p) (h2 : b = false → q) : if b = true then p else q := by
  cases b
  · exact h2 rfl
  · exact h1 rfl
theorem flatS_nil (x : Str) : flatS [] x = x := tl_inj (flat_nil _)
theorem flatS_len {T : List (Nat × List Nat)} {x : Str} (h : ∀ p ∈ T, p.2.length ≤ 6) : (flatS T x).length ≤ 6 * x.length := flat_len (by decide) h (tl x)
section
variable {prog : Program} {w : World} {A : Around} {E : Value → Shared → Prop} {s : Shared} {env : Env} {h₀ : Heap} {L : Addr} {m : Str → Option Value} {news : List (Addr × Obj)} {T : List (Nat × List Nat)} {c : Nat} {x z o : Str} {t : Tok}
noncomputable def TextAt (h₀ : Heap) (L : Addr) (m : Str → Option Value) (news : List (Addr × Obj)) (s : Shared) (X : Str) (s' : Shared) : Prop :=
  ∃ h' tk' t', s' = { s with heap := h', toks := tk' } ∧ 1 ≤ tk' ∧ Fr h₀ L h' (fun y => if y = Str.ofString "text" then some (.str X t') else m y) ∧ News h₀ L h' news
theorem cutText {st : Stmt} {rest : List Stmt} {Q : Flow → Shared → Prop} (c : Nat) (z : Str) (_F : Fr h₀ L s.heap m) (_N : News h₀ L s.heap news) (_hx : m (Str.ofString "text") = some (.str (flatS T x) t))
    (h1 : wpAny (model prog w) A (exec st env) (fun f s' => match f with | .next => TextAt h₀ L m news s (flatS (T ++ [(c, tl z)]) x) s' | f => Q f s') E s)
    (h2 : ∀ h' tk' t', 1 ≤ tk' → Fr h₀ L h' (fun y => if y = Str.ofString "text" then some (.str (flatS (T ++ [(c, tl z)]) x) t') else m y) → News h₀ L h' news → wpAny (model prog w) A (execs rest env) Q E { s with heap := h', toks := tk' }) :
    wpAny (model prog w) A (execs (st :: rest) env) Q E s := by
  refine execs_cut _ h1 ?_
  rintro s' ⟨h', tk', t', rfl, h3, F', N'⟩
  exact h2 h' tk' t' h3 F' N'
theorem textEnd1 {h' : Heap} {tk : Nat} {t' : Tok} (F : Fr h₀ L h' (fun y => if y = Str.ofString "text" then some (.str (Txt.replace (flatS T x) o z) t') else m y)) (N : News h₀ L h' news) (ho : o = ⟨#[c]⟩) (hT : ∀ p ∈ T, c ∉ p.2) (htk : 1 ≤ tk) :
    TextAt h₀ L m news s (flatS (T ++ [(c, tl z)]) x) { s with heap := h', toks := tk } := by
  refine ⟨h', tk, t', rfl, htk, ?_, N⟩
  rw [← flatS_step x hT, ← ho]
  exact F
theorem textEnd2 {h' : Heap} {tk : Nat} (F : Fr h₀ L h' m) (N : News h₀ L h' news) (hx : m (Str.ofString "text") = some (.str (flatS T x) t)) (hc : (!(Builtin.Str.occurrences (flatS T x) o 0 (flatS T x).length 1).isEmpty) = false) (ho : o = ⟨#[c]⟩) (hT : ∀ p ∈ T, c ∉ p.2) (htk : 1 ≤ tk) :
    TextAt h₀ L m news s (flatS (T ++ [(c, tl z)]) x) { s with heap := h', toks := tk } := by
  refine ⟨h', tk, t, rfl, htk, ?_, N⟩
  rw [← flatS_skip x hT (ho ▸ hc)]
  have e : (fun y => if y = Str.ofString "text" then some (.str (flatS T x) t) else m y) = m := by
    funext y
    by_cases h : y = Str.ofString "text"
    · rw [if_pos h, h, hx]
    · rw [if_neg h]
  rw [e]; exact F
end
section
variable {prog : Program} {w : World} {A₀ A : Around} {s : Shared} {base h₀ : Heap} {L : Addr} {m : Str → Option Value} {news : List (Addr × Obj)} {K : Frag} {p : Program} {loose : List Str} {mean : ExcName → Option Value} {mg mb : Str → Option Value}
theorem code_defT {env : Env} {outer : List Env} {R : Result → Shared → Prop} {name qual : Str} {params : Arguments} {body : List Stmt} {scope : Scope} {dV kV doc pm cdv ct oc : Value} {an od : Option Addr} {osl : Array (Option Value)} {f : Addr} {args : Args} {binds : List (Str × Value)}
    (B : Below A₀ base outer h₀) (F : Fr h₀ L s.heap m) (X₀ : K.In h₀) (N : News h₀ L s.heap news) (T : Top p loose mean mg mb h₀) (hA : A.frames = some (env :: outer)) (hf : env.frame = some L) (hke : env.scope.kind = .function)
    (ho : K.lookup f = some ⟨oc, od, .func (fnOf name qual params body scope dV kV doc pm an cdv ct), osl⟩) (hcd : codeIn K cdv qual = true) (hroom : A.depth < recursionLimit)
    (hbind : BindsTo s (fnOf name qual params body scope dV kV doc pm an cdv ct) args binds) (hloc : ∀ y ∈ binds, scope.names.lookup y.1 = some .local)
    (h : ∀ g L' h₁ tk, 1 ≤ tk → Fr h₀ L g m → Fr g L' h₁ (fun y => binds.reverse.lookup y) → News g L' h₁ news → Below A base (env :: outer) g → K.In g → Top p loose mean mg mb g →
      wpAny (model prog w) (A.deeper (envOf qual scope L' f cdv)) (execs body (envOf qual scope L' f cdv))
        (fun fl s' => LeaveK h₀ L m g R (match fl with | .ret v => v | _ => .none) s')
        (fun e s' => wpAny (model prog w) (A.deeper (envOf qual scope L' f cdv)) (leaving (envOf qual scope L' f cdv) e) (fun _ s'' => R (.error e) s'') (fun e' s'' => R (.error e') s'') s')
        { s with heap := h₁, toks := tk })
    (hco : scope.isCoroutine = false) (hgen : scope.isGenerator = false) (hk : scope.kind = .function)
    (hcell : ∀ x ∈ scope.names, x.2 ≠ .cell) (hb : 1 ≤ binds.length) : codeAny (model prog w) A (.call (.ref f) args) R s :=
  code_def B F X₀ N T hA hf hke ho hcd hroom hbind hloc (fun g L' h₁ => h g L' h₁ _ (Nat.le_trans hb (Nat.le_add_left _ _))) hco hgen hk hcell
end
end Mine

-- MCt
namespace Mine
section
variable {prog : Program} {w : World} {A : Around} {E : Value → Shared → Prop} {s : Shared} {h₀ : Heap} {L : Addr} {m : Str → Option Value} {env : Env}
noncomputable def TupAt (ax : Addr) (its : Array Value) (news : List (Addr × Obj)) : Prop := ∃ o, (ax, o) ∈ news ∧ o.cls = .type "tuple" ∧ ∃ n, o.data = .seq its n
noncomputable def TupSrc (prog : Program) (w : World) (A : Around) (h₀ : Heap) (L : Addr) (m : Str → Option Value) (env : Env) (elt : Expr) (x : Str) (scope : Scope) (cl : List (Str × Addr)) (Fin : Shared → List Value → List (Addr × Obj) → Prop) (xv : Value) (s₁ : Shared) : Prop :=
  ∃ ax its news, xv = .ref ax ∧ A.handled = none ∧ Fr h₀ L s₁.heap m ∧ News h₀ L s₁.heap news ∧ TupAt ax its news ∧ its.size ≤ sizeLine ∧
    ∀ s₂ : Shared, (∃ h, s₂ = { s₁ with heap := h }) → CompRest prog w A h₀ L m env elt x scope cl s₂ (TupAt ax its) (fun i v => its[i]? = some v) (Fin s₂) its.size 0 [] news
theorem TupSrc.ledger {elt : Expr} {x : Str} {scope : Scope} {cl : List (Str × Addr)} {Fin : Shared → List Value → List (Addr × Obj) → Prop} {ax : Addr} {its : Array Value} {k : Nat} {news : List (Addr × Obj)} {s₁ : Shared}
    (hh : A.handled = none) (F : Fr h₀ L s₁.heap m) (N : News h₀ L s₁.heap news) (hm : (ax, ({ cls := .type "tuple", data := .seq its k } : Obj)) ∈ news) (hsz : its.size ≤ sizeLine)
    (h : ∀ g, CompRest prog w A h₀ L m env elt x scope cl { s₁ with heap := g } (TupAt ax its) (fun i v => its[i]? = some v) (Fin { s₁ with heap := g }) its.size 0 [] news) :
    TupSrc prog w A h₀ L m env elt x scope cl Fin (.ref ax) s₁ := ⟨ax, its, news, rfl, hh, F, N, ⟨_, hm, rfl, _, rfl⟩, hsz, fun _ ⟨g, e⟩ => e ▸ h g⟩
theorem tup_st {ax I : Addr} {its : Array Value} : ∀ i (h h' : Heap) (o : Obj) (nw : List (Addr × Obj)), (h.IsTupleIter I ax i ∧ h.IsTuple ax its) → h.get? I = some o → h'.get? I = some o → (∀ b o, h₀.get? b = some o → h'.get? b = some o) → News h₀ L h' nw → TupAt ax its nw → (h'.IsTupleIter I ax i ∧ h'.IsTuple ax its) :=
  fun i h h' o nw st e e' _ N S => by
    refine ⟨?_, ?_⟩
    · obtain ⟨o', q, r⟩ := st.1
      rw [e] at q; cases q
      exact ⟨o, e', r⟩
    · obtain ⟨o'', hm, r⟩ := S
      exact ⟨o'', (N _ hm).1, r⟩
theorem Assign_comp_tup {elt iter : Expr} {x y : Str} {px py : Pos} {scope : Scope} {cl : List (Str × Addr)} {pos spos : Pos} {Q : Flow → Shared → Prop} (F₀ : Fr h₀ L s.heap m) (hLe : env.locals = L)
    (hsw : swapsWith (.ListComp elt [⟨.Name x px, iter, [], 0⟩] scope pos) (some (.Name y py)) spos.line env = pure true)
    (hclos : closureFor scope env = pure cl) (hcell : ∀ z ∈ scope.names, z.2 ≠ .cell) (hkind : scope.kind = .function)
    (hnames : ∀ z ∈ scope.names, z.2 = .local → scope.names.lookup z.1 = some .local) (hx : scope.names.lookup x = some .local)
    (hy : env.kindOf y = some .local) (hp : (env.scope.kind == .class || (env.scope.kind == .module && env.locals != env.globals)) = false)
    (h : wpAny (model prog w) A (eval iter env) (TupSrc prog w A h₀ L m env elt x scope cl (fun s₂ => FinA h₀ L m s₂ y Q)) E s)
    (hs : ∀ x, foldedSetIterable iter env x = pure x := by intro _; rfl) :
    wpAny (model prog w) A (exec (.Assign [.Name y py] (.ListComp elt [⟨.Name x px, iter, [], 0⟩] scope pos) spos) env) Q E s := by
  subst hLe
  rw [exec_Assign_Name_used _ _ _ _ hsw]
  refine wpAny_bind (wpAny_standAt (wpAny_bind ?_))
  show wpAny _ A (do let _ ← comprehension (.ListComp elt [⟨.Name x px, iter, [], 0⟩] scope pos) scope env _ (newList []) false (eval iter env) (some (assign (.Name y py) env))) _ _ s
  refine wpAny_bind (wpAny_mono (wpAny_comprehension_free (use := some (assign (.Name y py) env)) (Q := fun _ s' => Q .next s') rfl hs hclos hkind hnames
    (wpAny_mono h (fun xv s₁ h₁ => ?_) fun _ _ e => e)) (fun _ s' hq => wpAny_pure (wpAny_pure hq)) fun _ _ e => e)
  obtain ⟨ax, its, news, rfl, hh, F, N, S, hsz, R⟩ := h₁
  have hl : s₁.heap.IsTuple ax its := by
    obtain ⟨o, hm, r⟩ := S
    exact ⟨o, (N _ hm).1, r⟩
  have hlt : ax < s₁.heap.objs.size := by obtain ⟨_, e, _⟩ := hl; exact Heap.lt_size e
  refine wpAny_pyIter_tuple hl ?_
  have up : ∀ b o, s₁.heap.get? b = some o → (s₁.heap.push { cls := .type "tuple_iterator", data := .fields #[.ref ax, .int 0 0] }).get? b = some o := fun b o e => Heap.get?_push_of_some _ e
  refine block_U (Walks.tuple hh s₁.heap.objs.size ax (Nat.ne_of_lt hlt) its) hsz (fun i h st => by obtain ⟨o, e, _⟩ := st.1; exact ⟨o, e⟩) tup_st hcell hkind hx ⟨⟨_, Heap.get?_push_size _ rfl, rfl, rfl⟩, ?_⟩ (fun b hb => ?_)
    (F.keeps up) (N.grown up) (Nat.ne_of_lt F.ns.lt) (next_is_new F) (fun p hp => Nat.ne_of_lt (Heap.lt_size (N p hp).1)) S (R _ ⟨_, rfl⟩) ?_
  · obtain ⟨o, e, r⟩ := hl
    exact ⟨o, up _ _ e, r⟩
  · show b < (s₁.heap.push _).objs.size
    rw [Heap.size_push]
    rcases List.mem_cons.mp hb with rfl | hb
    · exact Nat.lt_succ_self _
    · rw [List.mem_singleton.mp hb]; exact Nat.lt_succ_of_lt hlt
  · intro D C h' tk m' ys news' F' N' o1 hn hC₀ hD₀ hCL hDL hCD offC fin
    show wpAny _ A (assign (.Name y py) env (.ref D)) _ _ _
    refine wpAny_assign_Name (wpAny_storeName_local hy F'.ns (fun h₂ hn₂ hs₂ => ?_) hp)
    have hL₀ : h₀.get? env.locals = none := Heap.get?_none_of_le F'.above
    have F₂ : Fr h₀ env.locals h₂ (fun z => if z = y then some (.ref D) else m z) := ⟨hn₂, fun b o e => hs₂.extBut b o (fun q => by rw [q, hL₀] at e; cases e) (F'.keep b o e), F'.above⟩
    refine ⟨m', hn.sameBut hs₂ hCL, fun h'' hs'' => fin D h'' _ (F₂.change hs'' hCL hC₀) (fun p hp => ?_) o1⟩
    have z : h₂.get? p.1 = some p.2 := hs₂.extBut _ _ (N' p hp).2.1 (N' p hp).1
    refine ⟨hs''.extBut _ _ ?_ z, (N' p hp).2⟩
    rcases List.mem_cons.mp hp with rfl | hp
    · exact Ne.symm hCD
    · exact offC p hp
end
end Mine

-- MHc
namespace Mine
section
variable {prog : Program} {w : World} {A : Around} {E : Value → Shared → Prop} {s : Shared} {h₀ : Heap} {L : Addr} {m : Str → Option Value} {env : Env} {elt ct : Expr} {x : Str} {scope : Scope} {cl : List (Str × Addr)} {S : List (Addr × Obj) → Prop} {P : Nat → Value → Prop} {Fin : List Value → List (Addr × Obj) → Prop} {n : Nat} {NW : List (Addr × Obj)}
theorem compUE {β : Type} (Ev : β → Value) (K : Nat → β → Prop) (R : Nat → List Value → Prop) (hP : ∀ i v, P i v → ∃ b, v = Ev b ∧ K i b)
    (turn : ∀ i ys b I oI C oC D m₂ h tk (E' : Value → Shared → Prop), i < n → R i ys → K i b → NsObj oC m₂ → m₂ x = some (Ev b) → Fr h₀ L h m → News h₀ L h ((I, oI) :: (C, oC) :: (D, lst ys) :: NW) → Off3 I C D NW → ((@Ne Nat I C) ∧ (@Ne Nat I D) ∧ (@Ne Nat C D)) →
      wpAny (model prog w) A (eval elt (compEnvC scope cl C env)) (CompEnd h₀ L m { s with heap := h, toks := tk } I oI C oC D (lst ys) S (fun y nw' => nw' = NW ∧ R (i + 1) (ys ++ [y]))) E' { s with heap := h, toks := tk })
    (fin : ∀ ys, R n ys → Fin ys NW) (h0 : R 0 []) : CompRest prog w A h₀ L m env elt x scope cl s S P Fin n 0 [] NW :=
  compU R (fun i ys v I oI C oC D m₂ h tk E' hlt hR hPv hC hx F' N' off dis => by
    obtain ⟨b, rfl, hk⟩ := hP i v hPv
    exact turn i ys b I oI C oC D m₂ h tk E' hlt hR hk hC hx F' N' off dis) fin h0
theorem compTE {β : Type} (Ev : β → Value) (K : Nat → β → Prop) (R : Nat → List Value → Prop) (hP : ∀ i v, P i v → ∃ b, v = Ev b ∧ K i b)
    (turn : ∀ i ys b I oI C oC D m₂ h tk (E' : Value → Shared → Prop), i < n → R i ys → K i b → NsObj oC m₂ → m₂ x = some (Ev b) → Fr h₀ L h m → News h₀ L h ((I, oI) :: (C, oC) :: (D, lst ys) :: NW) → Off3 I C D NW → ((@Ne Nat I C) ∧ (@Ne Nat I D) ∧ (@Ne Nat C D)) →
      wpAny (model prog w) A (isTrue ct (compEnvC scope cl C env) (eval ct (compEnvC scope cl C env))) (fun ok s' => if ok = true then
        wpAny (model prog w) A (eval elt (compEnvC scope cl C env)) (CompEnd h₀ L m { s with heap := h, toks := tk } I oI C oC D (lst ys) S (fun y nw' => nw' = NW ∧ R (i + 1) (ys ++ [y]))) E' s'
        else CompEnd h₀ L m { s with heap := h, toks := tk } I oI C oC D (lst ys) S (fun _ nw' => nw' = NW ∧ R (i + 1) ys) Value.none s') E' { s with heap := h, toks := tk })
    (fin : ∀ ys, R n ys → Fin ys NW) (h0 : R 0 []) : CompRestT prog w A h₀ L m env ct elt x scope cl s S P Fin n 0 [] NW :=
  compT R (fun i ys v I oI C oC D m₂ h tk E' hlt hR hPv hC hx F' N' off dis => by
    obtain ⟨b, rfl, hk⟩ := hP i v hPv
    exact turn i ys b I oI C oC D m₂ h tk E' hlt hR hk hC hx F' N' off dis) fin h0
end
end Mine

-- CLd
namespace Mine
noncomputable def leadS (runs : List Int) : Str := Txt.join "\t" (runs.map fun r => Txt.mul " " r)
theorem ints_item {vs : List Value} {ns : List Int} {i : Nat} {v : Value} (hi : IntsAre vs ns) (h : vs.toArray[i]? = some v) : ∃ k u, v = .int k u ∧ ns[i]? = some k := by
  rw [List.getElem?_toArray] at h
  have hlt : i < vs.length := by
    rcases Nat.lt_or_ge i vs.length with q | q
    · exact q
    · rw [List.getElem?_eq_none q] at h; cases h
  have hl : i < ns.length := hi.length ▸ hlt
  obtain ⟨u, hu⟩ := hi.get i ns[i] (List.getElem?_eq_getElem hl)
  rw [h] at hu
  exact ⟨_, u, Option.some.inj hu, List.getElem?_eq_getElem hl⟩
theorem sum_le {l : List Nat} {c : Nat} (h : ∀ x ∈ l, x ≤ c) : l.sum ≤ l.length * c := by
  induction l with
  | nil => simp
  | cons a r ih =>
    have h1 := h a (.head _)
    have h2 := ih fun x hx => h x (.tail _ hx)
    simp only [List.sum_cons, List.length_cons, Nat.succ_mul]
    omega
theorem cLead (w : World) (news : List (Addr × Obj)) (l : Addr) (n : Nat) (vs : List Value) (ns : List Int) (hl : (l, PySem.W.listOf vs.toArray n) ∈ news) (hi : IntsAre vs ns) (hn : ns.length ≤ 64) (hb : ∀ v ∈ ns, 0 ≤ v ∧ v < 100) :
    Spec w 257 1 100 [.ref l] news (fun r _ => ∃ t, r = .str (leadS ns) t) := by
  unfold Spec
  k_fill
  intro mean mg mb dp un gd cn cs ad ccd cl outer A₀ base h₀ L m s Q E B F X N T hk hdp hun ret
  k_with_none
  k_with "m eval Name" => (k_here; name_kind "local"; k_dflt (refine' ld (by k_asm) ?_ ?_; (first | exact rfl | (rotate_left; exact rfl)); k_whole))
  k_with "m k_mem" => first | with_reducible assumption | (refine' List.mem_append_left _ ?_; k_mem) | (refine' List.mem_append_right _ ?_; k_mem)
  k_with "m ne" => first | assumption | (rename ∀ p ∈ _, _ ≠ Prod.fst p => hh2; k_extra "m ne1") | (refine ne_of_stored (by assumption) ?_; decide +kernel)
  k_with "m ne1" => (rename ∀ p ∈ _, _ ≠ Prod.fst p => hh2; first | (have hh3 := hh2 _ (List.Mem.head _); exact hh3) | (replace hh2 := ne_tail hh2; k_extra "m ne1"))
  k_with "m nes" => first | exact fa0 | (refine faC ?_ ?_; (k_extra "m ne"); (k_extra "m nes"))
  k_with "m same1" => first | (refine kstB_out ?_ (by assumption); k_extra "m nes") | (refine (if_neg ?_).trans ?_; (k_extra "m ne"); (k_extra "m same1"))
  k_with "m same" => (intro z h1 h2 h3; k_extra "m same1")
  k_with "m sameW" => (intro z h2 h3; k_extra "m same1")
  k_with "m k_all" => first | with_reducible assumption | (refine' List.forall_mem_append.mpr ⟨?_, ?_⟩; (k_all); (k_all))
  k_with "hk on" => fail_if_success (fail_if_success (with_reducible rename HkOn => hkOn))
  k_with "hk ne" => first | exact neAround | exact neShared | exact neWorld | exact neDrawn | exact neGen | exact neSCtx | exact neI | exact Nonempty.intro (by constructor <;> first | exact default | (constructor <;> exact default))
  k_with "m execs cons" => (k_extra "hk on"; (try k_made); (with_reducible refine wpAny_execs_cons ?_); try dsimp only)
  k_with "m execs nil" => (k_extra "hk on"; refine wpAny_execs_nil ?_)
  k_with "hk omega" => ((k_extra "hk on"); dsimp +zetaDelta only; first | lia | omega +splitDisjunctions)
  k_with "hk ne" => exact neWsD
  k_with_none
  k_with "m eval Name" => (k_here; name_kind "local"; k_dflt (refine' ld (by k_asm) ?_ ?_; (first | exact rfl | (rotate_left; exact rfl)); k_whole))
  k_with "m k_mem" => first | with_reducible assumption | (refine' List.mem_append_left _ ?_; k_mem) | (refine' List.mem_append_right _ ?_; k_mem)
  k_with "m ne" => first | assumption | (rename ∀ p ∈ _, _ ≠ Prod.fst p => hh2; k_extra "m ne1") | (refine ne_of_stored (by assumption) ?_; decide +kernel)
  k_with "m ne1" => (rename ∀ p ∈ _, _ ≠ Prod.fst p => hh2; first | (have hh3 := hh2 _ (List.Mem.head _); exact hh3) | (replace hh2 := ne_tail hh2; k_extra "m ne1"))
  k_with "m nes" => first | exact fa0 | (refine faC ?_ ?_; (k_extra "m ne"); (k_extra "m nes"))
  k_with "m same1" => first | (refine kstB_out ?_ (by assumption); k_extra "m nes") | (refine (if_neg ?_).trans ?_; (k_extra "m ne"); (k_extra "m same1"))
  k_with "m same" => (intro z h1 h2 h3; k_extra "m same1")
  k_with "m sameW" => (intro z h2 h3; k_extra "m same1")
  k_with "m k_all" => first | with_reducible assumption | (refine' List.forall_mem_append.mpr ⟨?_, ?_⟩; (k_all); (k_all))
  k_with "hk on" => fail_if_success (fail_if_success (with_reducible rename HkOn => hkOn))
  k_with "hk ne" => first | exact neAround | exact neShared | exact neWorld | exact neDrawn | exact neGen | exact neSCtx | exact neI | exact Nonempty.intro (by constructor <;> first | exact default | (constructor <;> exact default))
  k_with "m execs cons" => (k_extra "hk on"; (try k_made); (with_reducible refine wpAny_execs_cons ?_); try dsimp only)
  k_with "m execs nil" => (k_extra "hk on"; refine wpAny_execs_nil ?_)
  k_with "hk omega" => ((k_extra "hk on"); dsimp +zetaDelta only; first | lia | omega +splitDisjunctions)
  k_with "hk ne" => exact neWsD
  k_with "m eval ListComp" => (refine LCg.ListComp_U (F₀ := by k_asm) (by with_unfolding_all rfl) (by decide) (by rfl) (by decide) (by rfl) ?_)
  k_with "m TupSrc" =>
    rename Fr _ _ _ _ => lF'
    rename News _ _ _ _ => lN'
    refine CompSrc.ledger (by rfl) lF' lN' hl (by simp [hi.length]; exact Nat.le_trans hn (by decide)) (fun g => compU (fun i ys => StrsAre ys ((ns.take i).map fun r => Txt.mul " " r)) (fun i ys v I oI C oC D m₂ h tk E' hlt hR hP hC hx F' N' off dis => ?_) (fun ys hR => ?_) .nil)
    all_goals (try (obtain ⟨k, u, rfl, hk9⟩ := ints_item hi hP; have hb9 := hb k (List.mem_of_getElem? hk9)))
    all_goals (try k_fold)
  k_with "m binaryOp Mult int int" => (refine SB.mul (mulOk_of 1 100 (by decide +kernel) (by omega) (by omega) (by decide) (by decide)) (fun t' k' => ?_))
  k_with "m CompEnd" =>
    rename Fr _ _ _ _ => F6
    rename News _ _ _ _ => N6
    refine compEnd_pure F6 N6 (fun p hp => hp) off (.inr ⟨_, hl, rfl, _, rfl⟩) ?_
    show StrsAre _ _
    rw [take_map _ hk9]
    exact StrsAre_snoc hR
  k_with "m call builtin:str.join" =>
    rename News _ _ _ _ => N6
    rw [List.take_of_length_le (by simp [hi.length])] at hR
    refine join_listW (News.isList N6 (.head _)) hR (by decide +kernel) ?_ (fun t' k' => ?_)
    · have h1 : (((ns.map fun r => Txt.mul " " r).map (·.length)).sum) ≤ (((ns.map fun r => Txt.mul " " r).map (·.length)).length) * 100 := sum_le fun x hx => by
        obtain ⟨y, hy, rfl⟩ := List.mem_map.mp hx
        obtain ⟨k, hk, rfl⟩ := List.mem_map.mp hy
        have := hb k hk
        exact Nat.le_trans (len_mul_leN (L := 1) (N := 100) (by decide +kernel) (by omega)) (by decide)
      simp only [List.length_map] at h1 ⊢
      omega
  refine wpAny_call ?_
  k_dflt cell_enter
  (repeat' (first | (k_unfold; (try dsimp only)) | (k_end; kc_close) | (walk1; (try dsimp only)) | (dsimp only; walk1) | (leave1; (try dsimp only)) | fail "no step"))
  all_goals
    rename News h₀ _ _ _ => N5
    rename Fr h₀ _ _ _ => F5
    exact end0 ret F5 N5 (fun p hp => .tail _ hp) ⟨_, rfl⟩
end Mine

-- CWo
noncomputable section
namespace Mine
noncomputable def szOf (a b : Int) (t : Int) : Bool := (decide (0 < a) && (Int.fmod a t == 0)) != (Int.fmod b t == 0)
noncomputable def szT (a b : Int) : Nat → List Int
  | 0 => []
  | n + 1 => if szOf a b (1 + (n : Int)) then szT a b n ++ [1 + (n : Int)] else szT a b n
noncomputable def wordOf (t : Int) : Str := Str.ofString (toString t)
theorem wordOf_len {t : Int} (h0 : 0 ≤ t) (h1 : t ≤ 100) : (wordOf t).length ≤ 3 := by
  obtain ⟨n, rfl⟩ := Int.eq_ofNat_of_zero_le h0
  have key : ∀ n : Nat, n < 101 → (wordOf (n : Int)).length ≤ 3 := by decide +kernel
  exact key n (by omega)
theorem words_fit {x : Str} {l : List Int} (h : ((l.map wordOf).map (·.length)).sum ≤ l.length * 3) (hl : l.length ≤ 100) (hx : x.length ≤ 40 := by decide +kernel) : x.length + (Txt.join (Str.ofString ", ") (l.map wordOf)).length ≤ sizeLine := by
  have h1 := StrLaws.join_length_le (Str.ofString ", ") (l.map wordOf)
  have e : (Txt.join (Str.ofString ", ") (l.map wordOf)) = Str.join (Str.ofString ", ") (l.map wordOf) := StrLaws.glued_eq_join _ _
  have e2 : (Str.ofString ", ").length = 2 := by decide +kernel
  rw [e, sizeLine_eq]
  rw [e2, List.length_map] at h1
  have : (40 + 500 : Nat) ≤ 16777216 := by decide
  omega
theorem szT_yes {a b : Int} {i : Nat} (h : szOf a b (1 + (i : Int)) = true) : szT a b (i + 1) = szT a b i ++ [1 + (i : Int)] := by rw [szT, if_pos h]
theorem szT_no {a b : Int} {i : Nat} (h : szOf a b (1 + (i : Int)) = false) : szT a b (i + 1) = szT a b i := by rw [szT, if_neg (by rw [h]; exact Bool.false_ne_true)]
theorem szOf_pos {a b t : Int} (h : 0 < a) : szOf a b t = ((Int.fmod a t == 0) != (Int.fmod b t == 0)) := by unfold szOf; rw [decide_eq_true h]; rfl
theorem szOf_neg {a b t : Int} (h : ¬ 0 < a) : szOf a b t = (decide (0 < a) != (Int.fmod b t == 0)) := by unfold szOf; rw [decide_eq_false h]; rfl
theorem szT_len (a b : Int) : ∀ n, (szT a b n).length ≤ n
  | 0 => Nat.le_refl 0
  | n + 1 => by
    have := szT_len a b n
    rw [szT]
    split
    · rw [List.length_append]; simp; omega
    · omega
theorem szT_mem (a b : Int) : ∀ n, ∀ t ∈ szT a b n, 1 ≤ t ∧ t ≤ n
  | 0, t, h => nomatch h
  | n + 1, t, h => by
    have := szT_mem a b n
    rw [szT] at h
    split at h
    · rcases List.mem_append.mp h with h | h
      · have := this t h; omega
      · obtain rfl := List.mem_singleton.mp h; omega
    · have := this t h; omega
noncomputable def wordsS (a b : Int) : Str :=
  if (szT a b (max a b).toNat).length = 0 then Str.ofString "" else
  (if 1 < ((szT a b (max a b).toNat).length : Int) then Str.ofString "indent not equal e.g. at tab sizes" else Str.ofString "indent not equal e.g. at tab size") ++ Str.ofString " " ++ Txt.join (Str.ofString ", ") ((szT a b (max a b).toNat).map wordOf)
theorem words_0 {a b : Int} {n : Nat} (e : n = (max a b).toNat) (h : ((szT a b n).length : Int) = 0) : wordsS a b = Str.ofString "" := by subst e; unfold wordsS; rw [if_pos (by omega)]
theorem words_1 {a b : Int} {n : Nat} (e : n = (max a b).toNat) (h : ((szT a b n).length : Int) ≠ 0) (h1 : ¬ 1 < ((szT a b n).length : Int)) : wordsS a b = Str.ofString "indent not equal e.g. at tab size" ++ Str.ofString " " ++ Txt.join (Str.ofString ", ") ((szT a b n).map wordOf) := by
  subst e; unfold wordsS; rw [if_neg (by omega), if_neg h1]
theorem words_2 {a b : Int} {n : Nat} (e : n = (max a b).toNat) (h1 : 1 < ((szT a b n).length : Int)) : wordsS a b = Str.ofString "indent not equal e.g. at tab sizes" ++ Str.ofString " " ++ Txt.join (Str.ofString ", ") ((szT a b n).map wordOf) := by
  subst e; unfold wordsS; rw [if_neg (by omega), if_pos h1]
theorem str_end {a b : Str} (e : a = b) {t : Tok} : ∃ u, Value.str b t = .str a u := ⟨t, by rw [e]⟩
section
variable {prog : Program} {w : World} {A : Around} {E : Value → Shared → Prop} {s : Shared} {h₀ : Heap} {L : Addr} {m : Str → Option Value} {env : Env} {elt ct : Expr} {x : Str} {scope : Scope} {cl : List (Str × Addr)} {S : List (Addr × Obj) → Prop} {P : Nat → Value → Prop} {Fin : List Value → List (Addr × Obj) → Prop} {n : Nat} {NW : List (Addr × Obj)}
theorem compTI {β : Type} (Ev : Nat → β → Value) (K : Nat → β → Prop) (R : Nat → List Value → Prop) (hP : ∀ i v, P i v → ∃ b, v = Ev i b ∧ K i b)
    (turn : ∀ i ys b I oI C oC D m₂ h tk (E' : Value → Shared → Prop), i < n → R i ys → K i b → NsObj oC m₂ → m₂ x = some (Ev i b) → Fr h₀ L h m → News h₀ L h ((I, oI) :: (C, oC) :: (D, lst ys) :: NW) → Off3 I C D NW → ((@Ne Nat I C) ∧ (@Ne Nat I D) ∧ (@Ne Nat C D)) →
      wpAny (model prog w) A (isTrue ct (compEnvC scope cl C env) (eval ct (compEnvC scope cl C env))) (fun ok s' => if ok = true then
        wpAny (model prog w) A (eval elt (compEnvC scope cl C env)) (CompEnd h₀ L m { s with heap := h, toks := tk } I oI C oC D (lst ys) S (fun y nw' => nw' = NW ∧ R (i + 1) (ys ++ [y]))) E' s'
        else CompEnd h₀ L m { s with heap := h, toks := tk } I oI C oC D (lst ys) S (fun _ nw' => nw' = NW ∧ R (i + 1) ys) Value.none s') E' { s with heap := h, toks := tk })
    (fin : ∀ ys, R n ys → Fin ys NW) (h0 : R 0 []) : CompRestT prog w A h₀ L m env ct elt x scope cl s S P Fin n 0 [] NW :=
  compT R (fun i ys v I oI C oC D m₂ h tk E' hlt hR hPv hC hx F' N' off dis => by
    obtain ⟨b, rfl, hk⟩ := hP i v hPv
    exact turn i ys b I oI C oC D m₂ h tk E' hlt hR hk hC hx F' N' off dis) fin h0
end
theorem cWords (w : World) (news : List (Addr × Obj)) (a b : Int) (t u : Tok) (h0 : 0 ≤ a) (h1 : a < 100) (h2 : 0 ≤ b) (h3 : b < 100) :
    Spec w 262 1 100 [.int a t, .int b u] news (fun r _ => ∃ u, r = .str (wordsS a b) u) := by
  have hkOn := HkOn.mk
  revert w news a b t u
  intro w news a b t u h0 h1 h2 h3
  refine spec_ctx ?_
  k_fill
  intro cx B F X N T hk hdp hun ret
  k_with_none
  k_with "m eval Name" => (k_here; name_kind "local"; k_dflt (refine' ld (by k_asm) ?_ ?_; (first | exact rfl | (rotate_left; exact rfl)); k_whole))
  k_with "m k_mem" => first | with_reducible assumption | (refine' List.mem_append_left _ ?_; k_mem) | (refine' List.mem_append_right _ ?_; k_mem)
  k_with "m ne" => first | assumption | (rename ∀ p ∈ _, _ ≠ Prod.fst p => hh2; k_extra "m ne1") | (refine ne_of_stored (by assumption) ?_; decide +kernel)
  k_with "m ne1" => (rename ∀ p ∈ _, _ ≠ Prod.fst p => hh2; first | (have hh3 := hh2 _ (List.Mem.head _); exact hh3) | (replace hh2 := ne_tail hh2; k_extra "m ne1"))
  k_with "m nes" => first | exact fa0 | (refine faC ?_ ?_; (k_extra "m ne"); (k_extra "m nes"))
  k_with "m same1" => first | (refine kstB_out ?_ (by assumption); k_extra "m nes") | (refine (if_neg ?_).trans ?_; (k_extra "m ne"); (k_extra "m same1"))
  k_with "m same" => (intro z h1 h2 h3; k_extra "m same1")
  k_with "m sameW" => (intro z h2 h3; k_extra "m same1")
  k_with "m k_all" => first | with_reducible assumption | (refine' List.forall_mem_append.mpr ⟨?_, ?_⟩; (k_all); (k_all))
  k_with "hk on" => fail_if_success (fail_if_success (with_reducible rename HkOn => hkOn))
  k_with "hk ne" => first | exact neAround | exact neShared | exact neWorld | exact neDrawn | exact neGen | exact neSCtx | exact neI | exact Nonempty.intro (by constructor <;> first | exact default | (constructor <;> exact default))
  k_with "m execs cons" => (k_extra "hk on"; (try k_made); (with_reducible refine wpAny_execs_cons ?_); try dsimp only)
  k_with "m execs nil" => (k_extra "hk on"; refine wpAny_execs_nil ?_)
  k_with "hk omega" => ((k_extra "hk on"); dsimp +zetaDelta only; first | lia | omega +splitDisjunctions)
  k_with "hk ne" => exact neWsD
  k_with_none
  k_with "m eval Name" => (k_here; name_kind "local"; k_dflt (refine' ld (by k_asm) ?_ ?_; (first | exact rfl | (rotate_left; exact rfl)); k_whole))
  k_with "m k_mem" => first | with_reducible assumption | (refine' List.mem_append_left _ ?_; k_mem) | (refine' List.mem_append_right _ ?_; k_mem)
  k_with "m ne" => first | assumption | (rename ∀ p ∈ _, _ ≠ Prod.fst p => hh2; k_extra "m ne1") | (refine ne_of_stored (by assumption) ?_; decide +kernel)
  k_with "m ne1" => (rename ∀ p ∈ _, _ ≠ Prod.fst p => hh2; first | (have hh3 := hh2 _ (List.Mem.head _); exact hh3) | (replace hh2 := ne_tail hh2; k_extra "m ne1"))
  k_with "m nes" => first | exact fa0 | (refine faC ?_ ?_; (k_extra "m ne"); (k_extra "m nes"))
  k_with "m same1" => first | (refine kstB_out ?_ (by assumption); k_extra "m nes") | (refine (if_neg ?_).trans ?_; (k_extra "m ne"); (k_extra "m same1"))
  k_with "m same" => (intro z h1 h2 h3; k_extra "m same1")
  k_with "m sameW" => (intro z h2 h3; k_extra "m same1")
  k_with "m k_all" => first | with_reducible assumption | (refine' List.forall_mem_append.mpr ⟨?_, ?_⟩; (k_all); (k_all))
  k_with "hk on" => fail_if_success (fail_if_success (with_reducible rename HkOn => hkOn))
  k_with "hk ne" => first | exact neAround | exact neShared | exact neWorld | exact neDrawn | exact neGen | exact neSCtx | exact neI | exact Nonempty.intro (by constructor <;> first | exact default | (constructor <;> exact default))
  k_with "m execs cons" => (k_extra "hk on"; (try k_made); (with_reducible refine wpAny_execs_cons ?_); try dsimp only)
  k_with "m execs nil" => (k_extra "hk on"; refine wpAny_execs_nil ?_)
  k_with "hk omega" => ((k_extra "hk on"); dsimp +zetaDelta only; first | lia | omega +splitDisjunctions)
  k_with "hk ne" => exact neWsD
  k_with "m exec Assign cons ListComp" => (refine LCt.Assign_ListComp_T (F₀ := by k_asm) (by rfl) (by with_unfolding_all rfl) (by with_unfolding_all rfl) (by decide) (by rfl) (by decide) (by rfl) (by rfl) (by rfl) ?_)
  k_with "m eval ListComp" => (refine LCg.ListComp_U (F₀ := by k_asm) (by with_unfolding_all rfl) (by decide) (by rfl) (by decide) (by rfl) ?_)
  k_with "m TupSrc" =>
    rename Fr _ _ _ _ => lF'
    rename News _ _ _ _ => lN'
    first
    | (rename IsRange _ _ _ _ _ _ _ _ => rgX
       (try dsimp +zetaDelta only at rgX)
       have hN7 : ∃ N9 : Int, N9 = max a b ∧ (if a < b then b else a) = N9 := ⟨_, rfl, by intros; split <;> omega⟩
       refine exE hN7 ?_
       (try dsimp +zetaDelta only)
       intro N9 hN6
       (try dsimp +zetaDelta only at hN6)
       obtain ⟨hN9, hN8⟩ := hN6
       rw [hN8] at rgX
       (try dsimp +zetaDelta only at hN9 hN8 rgX)
       refine CompSrcT.range (by rfl) lF' lN' rgX (small_one (by omega) (by omega) (by omega) (by omega)) (rangeSize_nat _ _) (Nat.le_trans (by omega : _ ≤ 1000) (by rw [sizeLine_eq]; decide)) ?_
       (try dsimp +zetaDelta only)
       intro g
       refine compTI (fun i (u : Tok) => Value.int (1 + (i : Int)) u) (fun _ _ => True) (fun i ys => IntsAre ys (szT a b i)) (fun i v hP => let ⟨u, e⟩ := hP; ⟨u, e, trivial⟩) ?_ ?_ .nil
       (try dsimp +zetaDelta only)
       intro i ys u9 I oI C oC D m₂ h tk E' hlt hR hK9 hC hx F' N' off dis
       rotate_left
       (try dsimp +zetaDelta only)
       intro ys hR
       rotate_left)
    | (refine CompSrc.ledger (by rfl) lF' lN' (.head _) (by simp [hR.length]; exact Nat.le_trans (szT_len a b _) (Nat.le_trans (by omega : _ ≤ 1000) (by rw [sizeLine_eq]; decide))) ?_
       (try dsimp +zetaDelta only)
       intro g
       refine compUE (fun p : Int × Tok => Value.int p.1 p.2) (fun i p => (szT a b (N9 + 1 - 1).toNat)[i]? = some p.1) (fun i ys' => StrsAre ys' (((szT a b (N9 + 1 - 1).toNat).take i).map wordOf)) (fun i v hP => let ⟨k, u, e, hk⟩ := ints_item hR hP; ⟨(k, u), e, hk⟩) ?_ ?_ .nil
       (try dsimp +zetaDelta only)
       intro i ys' p9 I oI C oC D m₂ h tk E' hlt hR' hk9 hC hx F' N' off dis
       have hb9 := szT_mem a b _ p9.1 (List.mem_of_getElem? hk9)
       (try dsimp +zetaDelta only at hb9)
       rotate_left
       (try dsimp +zetaDelta only)
       intro ys' hR'
       rotate_left)
  k_with "m CompEnd" =>
    rename Fr _ _ _ _ => F6
    rename News _ _ _ _ => N6
    first
    | (refine compEnd_pure F6 N6 (fun p hp => hp) (by assumption) (.inr ⟨_, .head _, rfl, _, rfl⟩) ?_
       show StrsAre _ _
       rw [take_map _ hk9]
       exact StrsAre_snoc hR')
    | refine compEnd_pure F6 N6 (fun p hp => hp) (by assumption) trivial ?_
    try first
    | (rw [szT_yes ((szOf_pos (by with_reducible assumption)).trans (by with_reducible assumption))]; exact IntsAre_snoc hR)
    | (rw [szT_yes ((szOf_neg (by with_reducible assumption)).trans (by with_reducible assumption))]; exact IntsAre_snoc hR)
    | (rw [szT_no ((szOf_pos (by with_reducible assumption)).trans (by with_reducible assumption))]; exact hR)
    | (rw [szT_no ((szOf_neg (by with_reducible assumption)).trans (by with_reducible assumption))]; exact hR)
  k_with "m call builtin:len" =>
    rename News _ _ _ _ => N6
    have hlen := szT_len a b (N9 + 1 - 1).toNat
    (try dsimp +zetaDelta only at hlen)
    refine kst_len N6 (.head _) hR.length (by omega) ?_
  k_with "m call builtin:str.join" =>
    rename News _ _ _ _ => N6
    (try dsimp +zetaDelta only at hR hR')
    rw [List.take_of_length_le (by simp [hR.length])] at hR'
    have hl9 := szT_len a b (N9 + 1 - 1).toNat
    (try dsimp +zetaDelta only at hl9)
    have h1 : (((szT a b (N9 + 1 - 1).toNat).map wordOf).map (·.length)).sum ≤ (((szT a b (N9 + 1 - 1).toNat).map wordOf).map (·.length)).length * 3 := sum_le fun x hx => by
        obtain ⟨y, hy, rfl⟩ := List.mem_map.mp hx
        obtain ⟨k, hk, rfl⟩ := List.mem_map.mp hy
        have := szT_mem a b _ k hk
        exact wordOf_len (by omega) (by omega)
    simp only [List.length_map] at h1
    (try dsimp +zetaDelta only at h1)
    have hjl := fun (x : Str) (hx : x.length ≤ 40) => words_fit (x := x) h1 (by omega) hx
    refine join_listW (News.isList N6 (.head _)) hR' (by decide +kernel) (by simp only [List.length_map]; omega) ?_
    intro t' k'
  k_with "m binaryOp Add str str" => (refine SB.add ?_ (hjl _ (by decide +kernel)); intro t' k')
  refine wpAny_call ?_
  k_dflt (refine' code_defC ?k1 ?k2 ?k3 ?k4 ?k5 ?kA ?kF ?kK ?k6 ?k7 ?k8 ?k9 ?kB ?kD ?_ ?c2 ?c3 ?c4; (case kA => exact rfl); (case kF => exact rfl); (case kK => assumption); (case k1 => k_asm); (case k2 => k_asm); (case k3 => k_asm); (case k4 => k_asm); (case k5 => k_asm); (case k6 => k_is); (case k7 => k_is); (case k8 => ktr_room); (case k9 => exact BindsTo.of_eq rfl); (case kB => exact rfl); (case kD => decide +kernel); (case c2 => exact rfl); (case c3 => exact rfl); (case c4 => exact rfl); k_whole; intro g' L' h' tk'; intros cells' FG' F' N' Y' B' X' T' l1; (try k_lt l1); k_cells Y'; (rename_i oA oB dA dB; revert dA dB; revert N'; revert oA oB; intro oA oB N' dA dB); (try simp only [List.cons_append, List.nil_append] at N'); (try dsimp only); (try k_lift B'); (try k_fold))
  (repeat' (first | (k_unfold; (try dsimp +zetaDelta only)) | (k_end; kc_close) | (walk1; (try dsimp +zetaDelta only)) | (dsimp only; walk1) | (leave1; (try dsimp +zetaDelta only)) | fail "no step"))
  all_goals first
    | exact Str.ofString ""
    | exact Value.none
    | exact (0 : Addr)
    | (have e9 : (N9 + 1 - 1).toNat = (max a b).toNat := by omega
       (try dsimp +zetaDelta only at e9)
       rename News cx.h₀ _ _ _ => N5
       rename Fr cx.h₀ _ _ _ => F5
       first
       | exact end0 ret F5 N5 (fun p hp => by first | exact .tail _ (.tail _ (.tail _ hp)) | exact .tail _ (.tail _ hp) | exact .tail _ (.tail _ (.tail _ (.tail _ hp))) | k_mem) (str_end (words_2 e9 (by with_reducible assumption)).symm)
       | exact end0 ret F5 N5 (fun p hp => by first | exact .tail _ (.tail _ (.tail _ hp)) | exact .tail _ (.tail _ hp) | exact .tail _ (.tail _ (.tail _ (.tail _ hp))) | k_mem) (str_end (words_1 e9 (by with_reducible assumption) (by with_reducible assumption)).symm)
       | exact end0 ret F5 N5 (fun p hp => by first | exact .tail _ (.tail _ (.tail _ hp)) | exact .tail _ (.tail _ hp) | exact .tail _ (.tail _ (.tail _ (.tail _ hp))) | k_mem) (str_end (words_0 e9 (by with_reducible assumption)).symm)
       | exact end0 ret F5 N5 (fun p hp => by first | exact .tail _ (.tail _ (.tail _ hp)) | exact .tail _ (.tail _ hp) | exact .tail _ (.tail _ (.tail _ (.tail _ hp))) | k_mem) (str_end (words_2 e9 (by with_reducible assumption)))
       | exact end0 ret F5 N5 (fun p hp => by first | exact .tail _ (.tail _ (.tail _ hp)) | exact .tail _ (.tail _ hp) | exact .tail _ (.tail _ (.tail _ (.tail _ hp))) | k_mem) (str_end (words_1 e9 (by with_reducible assumption) (by with_reducible assumption)))
       | exact end0 ret F5 N5 (fun p hp => by first | exact .tail _ (.tail _ (.tail _ hp)) | exact .tail _ (.tail _ hp) | exact .tail _ (.tail _ (.tail _ (.tail _ hp))) | k_mem) (str_end (words_0 e9 (by with_reducible assumption))))
end Mine
end

-- CCe
namespace Mine
noncomputable def ListIn (news : List (Addr × Obj)) (l : Addr) (vs : List Value) : Prop := ∃ o k, (l, o) ∈ news ∧ o.cls = .type "list" ∧ o.data = .seq vs.toArray k
theorem ListIn.at {news : List (Addr × Obj)} {l : Addr} {vs : List Value} {h₀ h : Heap} {L : Addr} (H : ListIn news l vs) (N : News h₀ L h news) : h.IsList l vs.toArray := by
  obtain ⟨o, k, h1, h2, h3⟩ := H
  exact ⟨o, (N _ h1).1, h2, k, h3⟩
theorem ListIn.mono {news news' : List (Addr × Obj)} {l : Addr} {vs : List Value} (H : ListIn news l vs) (hs : ∀ p ∈ news, p ∈ news') : ListIn news' l vs := by
  obtain ⟨o, k, h1, h2⟩ := H
  exact ⟨o, k, hs _ h1, h2⟩
section
variable {prog : Program} {w : World} {A : Around} {E : Value → Shared → Prop} {s : Shared} {h₀ : Heap} {L : Addr} {news led : List (Addr × Obj)} {l : Addr} {vs : List Value} {ns : List Int}
theorem len_in {Q : Value → Shared → Prop} (H : ListIn news l vs) (N : News h₀ L s.heap led) (hs : ∀ p ∈ news, p ∈ led) (hn : vs.length ≤ 1000)
    (h : Q (.int (vs.length : Int) (s.toks + 1)) { s with toks := s.toks + 1 + 1 }) : wpAny (model prog w) A (call (.builtin "len") [.ref l]) Q E s := by
  refine len_list ((H.mono hs).at N) ?_ ?_
  · rw [List.size_toArray]; omega
  · rw [List.size_toArray]; exact h
theorem item_in {Q : Value → Shared → Prop} {value slice : Expr} {k : Int} {u : Tok} {v : Value} (H : ListIn news l vs) (N : News h₀ L s.heap led) (hs : ∀ p ∈ news, p ∈ led) (h0 : 0 ≤ k) (hk : k < 1000) (hx : vs[k.toNat]? = some v) (h : Q v s)
    (hs' : subscripted slice false (.ref l) (.int k u) = operate [.ref l, .int k u] (getItem (.ref l) (.int k u)) := by with_unfolding_all rfl) (hg : ∀ r, letTemporaryGo value (.ref l) r = pure () := by intro _; with_unfolding_all rfl) :
    wpAny (model prog w) A (subscriptTail value slice (.ref l) (.int k u)) Q E s :=
  item_list ((H.mono hs).at N) h0 (by omega) (by rw [List.getElem?_toArray]; exact hx) h hs' hg
end
theorem ints_at {vs : List Value} {ns : List Int} (hi : IntsAre vs ns) {k : Int} (h0 : 0 ≤ k) (h : k < vs.length) : ∃ n u, vs[k.toNat]? = some (.int n u) ∧ ns[k.toNat]? = some n := by
  have e := hi.length
  have hl : k.toNat < ns.length := by omega
  obtain ⟨u, hu⟩ := hi.get k.toNat ns[k.toNat] (List.getElem?_eq_getElem hl)
  exact ⟨_, u, hu, List.getElem?_eq_getElem hl⟩
theorem min63 (n : Nat) : ∃ N9 : Int, (0 ≤ N9 ∧ N9 ≤ 63 ∧ N9 ≤ n) ∧ (if 63 < (n : Int) then 63 else (n : Int)) = N9 := by
  refine ⟨_, ?_, rfl⟩
  split <;> omega
theorem led_l {x : Addr × Obj} {news own : List (Addr × Obj)} : ∀ p ∈ x :: news, p ∈ x :: (news ++ own) := fun p hp => (List.mem_cons.mp hp).elim (fun e => e ▸ .head _) fun e => .tail _ (List.mem_append_left _ e)
theorem led_r {x : Addr × Obj} {news own : List (Addr × Obj)} : ∀ p ∈ own, p ∈ x :: (news ++ own) := fun p hp => .tail _ (List.mem_append_right _ hp)
structure CellH where
  vs : List Value
  k : Nat
  ns : List Int
section
variable {prog : Program} {w : World} {A : Around} {E : Value → Shared → Prop} {s : Shared} {env : Env} {h₀ : Heap} {y : Str} {body : List Stmt} {Q : Flow → Shared → Prop}
noncomputable def CellInv (c : CellH) : Prop := IntsAre c.vs c.ns ∧ c.ns.length = 6
theorem cellR {l : Addr} {vs0 : List Value} {ns0 : List Int} {k0 : Nat} {news : List (Addr × Obj)} {r : Addr} {a₀ b₀ : Int} {t₀ u₀ v₀ : Tok} {n : Nat} {m₀ : Str → Option Value}
    (hh : A.handled = none) (hr : IsRange s.heap r a₀ b₀ 1 t₀ u₀ v₀) (hsmall : Builtin.Range.small a₀ b₀ 1 = true) (hn : Builtin.Range.rangeSize a₀ b₀ 1 = (n : Int)) (F : Fr h₀ env.locals s.heap m₀)
    (N : News h₀ env.locals s.heap ((l, W.listOf vs0.toArray k0) :: news)) (h0 : IntsAre vs0 ns0) (h1 : ns0.length = 6)
    (turn : ∀ (i : Nat) (c : CellH) t (uu : Str → Option Value) h tk own, i < n → OwnOff own (((l, W.listOf c.vs.toArray c.k) :: news).map (·.1)) → IntsAre c.vs c.ns → c.ns.length = 6 →
      Fr h₀ env.locals h (fun z => if z = y then some (.int (a₀ + (i : Int)) t) else kstB (fun z => if ([] : List Str).contains z then uu z else m₀ z) [] z) → News h₀ env.locals h ((l, W.listOf c.vs.toArray c.k) :: (news ++ own)) →
      wpAny (model prog w) A (execs body env) (InvPostG h₀ env.locals (MS (fun c : CellH => (l, W.listOf c.vs.toArray c.k) :: news) (fun _ => []) y [] m₀ CellInv) own { s with heap := h, toks := tk } Q) E { s with heap := h, toks := tk })
    (done : ∀ (c : CellH) (uu : Str → Option Value) h tk, IntsAre c.vs c.ns → c.ns.length = 6 → Fr h₀ env.locals h (fun z => if z = y then uu z else kstB (fun z => if ([] : List Str).contains z then uu z else m₀ z) [] z) → News h₀ env.locals h ((l, W.listOf c.vs.toArray c.k) :: news) → Q .next { s with heap := h, toks := tk }) :
    wpAny (model prog w) A (pyIter (.ref r)) (fun it s₂ => LoopAtV prog w A h₀ env y body Q E it s₂) E s := by
  refine rngG (fun c : CellH => (l, W.listOf c.vs.toArray c.k) :: news) (fun _ => []) [] (fun _ => CellInv) hh hr hsmall hn F ⟨⟨vs0, k0, ns0⟩, N, fa0, h0, h1⟩ ?_ ?_
  · rintro i c t uu h tk own hi hoff ⟨h1, h2⟩ F' N'
    exact turn i c t uu h tk own hi hoff h1 h2 F' N'
  · rintro c uu h tk ⟨h1, h2⟩ F' N'
    exact done c uu h tk h1 h2 F' N'
end
theorem cCells (w : World) (news : List (Addr × Obj)) (l : Addr) (vs : List Value) (ns : List Int) (hl : ListIn news l vs) (hi : IntsAre vs ns) (hn : ns.length ≤ 63) :
    Spec w 233 1 100 [.ref l] news (fun r tl => ∃ a vs' cs, r = .ref a ∧ (a, lst vs') ∈ tl ∧ IntsAre vs' cs ∧ cs.length = 6 ∧ ∀ c ∈ cs, 0 ≤ c ∧ c < 100000000) := by
  have hvl : vs.length ≤ 63 := by rw [hi.length]; exact hn
  have hvn := hi.length
  unfold Spec
  k_fill
  intro mean mg mb dp un gd cn cs ad ccd cl outer A₀ base h₀ L m s Q E B F X N T hk hdp hun ret
  k_with_none
  k_with "m eval Name" => (k_here; name_kind "local"; k_dflt (refine' ld (by k_asm) ?_ ?_; (first | exact rfl | (rotate_left; exact rfl)); k_whole))
  k_with "m k_mem" => first | with_reducible assumption | (refine' List.mem_append_left _ ?_; k_mem) | (refine' List.mem_append_right _ ?_; k_mem)
  k_with "m ne" => first | assumption | (rename ∀ p ∈ _, _ ≠ Prod.fst p => hh2; k_extra "m ne1") | (refine ne_of_stored (by assumption) ?_; decide +kernel)
  k_with "m ne1" => (rename ∀ p ∈ _, _ ≠ Prod.fst p => hh2; first | (have hh3 := hh2 _ (List.Mem.head _); exact hh3) | (replace hh2 := ne_tail hh2; k_extra "m ne1"))
  k_with "m nes" => first | exact fa0 | (refine faC ?_ ?_; (k_extra "m ne"); (k_extra "m nes"))
  k_with "m same1" => first | (refine kstB_out ?_ (by assumption); k_extra "m nes") | (refine (if_neg ?_).trans ?_; (k_extra "m ne"); (k_extra "m same1"))
  k_with "m same" => (intro z h1 h2 h3; k_extra "m same1")
  k_with "m sameW" => (intro z h2 h3; k_extra "m same1")
  k_with "m k_all" => first | with_reducible assumption | (refine' List.forall_mem_append.mpr ⟨?_, ?_⟩; (k_all); (k_all))
  k_with "hk on" => fail_if_success (fail_if_success (with_reducible rename HkOn => hkOn))
  k_with "hk ne" => first | exact neAround | exact neShared | exact neWorld | exact neDrawn | exact neGen | exact neSCtx | exact neI | exact Nonempty.intro (by constructor <;> first | exact default | (constructor <;> exact default))
  k_with "m execs cons" => (k_extra "hk on"; (try k_made); (with_reducible refine wpAny_execs_cons ?_); try dsimp only)
  k_with "m execs nil" => (k_extra "hk on"; refine wpAny_execs_nil ?_)
  k_with "hk omega" => ((k_extra "hk on"); dsimp +zetaDelta only; first | lia | omega +splitDisjunctions)
  k_with "hk ne" => exact neWsD
  k_with_none
  k_with "m eval Name" => (k_here; name_kind "local"; k_dflt (refine' ld (by k_asm) ?_ ?_; (first | exact rfl | (rotate_left; exact rfl)); k_whole))
  k_with "m k_mem" => first | with_reducible assumption | (refine' List.mem_append_left _ ?_; k_mem) | (refine' List.mem_append_right _ ?_; k_mem)
  k_with "m ne" => first | assumption | (rename ∀ p ∈ _, _ ≠ Prod.fst p => hh2; k_extra "m ne1") | (refine ne_of_stored (by assumption) ?_; decide +kernel)
  k_with "m ne1" => (rename ∀ p ∈ _, _ ≠ Prod.fst p => hh2; first | (have hh3 := hh2 _ (List.Mem.head _); exact hh3) | (replace hh2 := ne_tail hh2; k_extra "m ne1"))
  k_with "m nes" => first | exact fa0 | (refine faC ?_ ?_; (k_extra "m ne"); (k_extra "m nes"))
  k_with "m same1" => first | (refine kstB_out ?_ (by assumption); k_extra "m nes") | (refine (if_neg ?_).trans ?_; (k_extra "m ne"); (k_extra "m same1"))
  k_with "m same" => (intro z h1 h2 h3; k_extra "m same1")
  k_with "m sameW" => (intro z h2 h3; k_extra "m same1")
  k_with "m k_all" => first | with_reducible assumption | (refine' List.forall_mem_append.mpr ⟨?_, ?_⟩; (k_all); (k_all))
  k_with "hk on" => fail_if_success (fail_if_success (with_reducible rename HkOn => hkOn))
  k_with "hk ne" => first | exact neAround | exact neShared | exact neWorld | exact neDrawn | exact neGen | exact neSCtx | exact neI | exact Nonempty.intro (by constructor <;> first | exact default | (constructor <;> exact default))
  k_with "m execs cons" => (k_extra "hk on"; (try k_made); (with_reducible refine wpAny_execs_cons ?_); try dsimp only)
  k_with "m execs nil" => (k_extra "hk on"; refine wpAny_execs_nil ?_)
  k_with "hk omega" => ((k_extra "hk on"); dsimp +zetaDelta only; first | lia | omega +splitDisjunctions)
  k_with "hk ne" => exact neWsD
  k_with "m call builtin:len" =>
    (with_reducible show wpAny _ _ (call (Value.builtin "len") [Value.ref l]) _ _ _)
    rename News _ _ _ _ => N6
    refine len_in hl N6 (fun p hp => by first | exact .tail _ hp | k_mem) (by omega) ?_
  k_with "m subscriptTail" =>
    (with_reducible show wpAny _ _ (subscriptTail _ _ (Value.ref l) _) _ _ _)
    rename News _ _ _ _ => N6
    have hi5 : IntsAre vs ns := by assumption
    obtain ⟨v9, n9, hv9, hn9⟩ := ints_at hi5 (k := 0 + (i : Int)) (by omega) (by omega)
    refine item_in hl N6 (fun p hp => by first | exact .tail _ (List.mem_append_left _ hp) | exact .tail _ hp | k_mem) (by omega) (by omega) hv9 ?_
  k_with "m pyIter ref" =>
    rename Fr _ _ _ _ => lF'
    rename News _ _ _ _ => lN'
    rename IsRange _ _ _ _ _ _ _ _ => rgX
    obtain ⟨N9, hN9, hN8⟩ := min63 ns.length
    rw [hN8] at rgX
    with_unfolding_all refine cellR (by rfl) rgX (small_one (by omega) (by omega) (by omega) (by omega)) (rangeSize_nat _ _) lF' lN' (.cons _ _ (.cons _ _ (.cons _ _ (.cons _ _ (.cons _ _ (.cons _ _ .nil)))))) rfl (fun i c t uu h tk own hi9 hoff hp1 hp2 F' N' => ?_) (fun c uu h tk hp1 hp2 F' N' => ?_)
    all_goals (clear lF' lN'; (try k_fold))
  k_with "m eval ListComp" => (refine LCg.ListComp_U (F₀ := by k_asm) (by with_unfolding_all rfl) (by decide) (by rfl) (by decide) (by rfl) ?_)
  k_with "m TupSrc" =>
    rename Fr _ _ _ _ => lF'
    rename News _ _ _ _ => lN'
    have hi6 : IntsAre c.vs c.ns := by assumption
    refine CompSrc.ledger (by rfl) lF' lN' (.head _) (by simp [hi6.length, hp2]; rw [sizeLine_eq]; decide) (fun g => compU (fun i ys => IntsAre ys ((c.ns.take i).map fun r => Int.fmod r 100000000)) (fun i ys v I oI C oC D m₂ h tk E' hlt hR hP hC hx F' N' off dis => ?_) (fun ys hR => ?_) .nil)
    all_goals (try (obtain ⟨k, u, rfl, hk9⟩ := ints_item hi6 hP))
    all_goals (try k_fold)
  k_with "m CompEnd" =>
    rename Fr _ _ _ _ => F6
    rename News _ _ _ _ => N6
    refine compEnd_pure F6 N6 (fun p hp => hp) (by assumption) (.inr ⟨_, .head _, rfl, _, rfl⟩) ?_
    show IntsAre _ _
    rw [take_map _ hk9]
    exact IntsAre_snoc hR
  k_with "m InvEndG" =>
    rename Fr _ _ _ _ => F'
    rename News _ _ _ _ => N'
    rename IntsAre (List.set _ _ _) _ => hi7
    refine endG (⟨_, _, _⟩ : CellH) F' N' led_l led_r ?_ fa0 (by walk_at "m same") ⟨hi7, by rw [List.length_set]; exact hp2⟩
    exact hoff
  refine wpAny_call ?_
  k_dflt cell_enter
  (repeat' (first | (k_unfold; (try dsimp only)) | (k_end; kc_close) | (walk1; (try dsimp only)) | (dsimp only; walk1) | (leave1; (try dsimp only)) | fail "no step"))
  all_goals
    rw [List.take_of_length_le (by simp [hi6.length])] at hR
    rename News h₀ _ _ _ => N5
    rename Fr h₀ _ _ _ => F5
    refine ret _ [_] _ _ F5 (news_sub N5 ?_) ⟨_, ys, _, rfl, .head _, hR, by rw [List.length_map]; exact hp2, ?_⟩
    · intro p hp
      rcases List.mem_cons.mp hp with rfl | hp
      · exact .head _
      · exact .tail _ (.tail _ hp)
    · intro x hx
      obtain ⟨y, _, rfl⟩ := List.mem_map.mp hx
      exact ⟨Int.fmod_nonneg_of_pos _ (by decide), Int.fmod_lt_of_pos _ (by decide)⟩
end Mine

-- CX
namespace Mine
noncomputable def TCdata : List (Nat × List Nat) := [(38, [38, 97, 109, 112, 59]), (60, [38, 108, 116, 59]), (62, [38, 103, 116, 59])]
theorem Cdata (w : World) (news : List (Addr × Obj)) (x : Str) (t : Tok) (hx : x.length ≤ 1000) :
    Spec w 200 1 100 [.str x t] news (fun r _ => ∃ u, r = .str (flatS TCdata x) u) := by
  suffices H : Spec w 200 1 100 [.str (flatS [] x) t] news (fun r _ => ∃ u, r = .str (flatS TCdata x) u) by rwa [flatS_nil] at H
  unfold Spec
  k_fill
  intro mean mg mb dp un gd cn cs ad ccd cl outer A₀ base h₀ L m s Q E B F X N T hk hdp hun ret
  k_with_none
  k_with "m eval Name" => (k_here; name_kind "local"; k_dflt (refine' ld (by k_asm) ?_ ?_; (first | exact rfl | (rotate_left; exact rfl)); k_whole))
  k_with "m k_mem" => first | with_reducible assumption | (refine' List.mem_append_left _ ?_; k_mem) | (refine' List.mem_append_right _ ?_; k_mem)
  k_with "m ne" => first | assumption | (rename ∀ p ∈ _, _ ≠ Prod.fst p => hh2; k_extra "m ne1") | (refine ne_of_stored (by assumption) ?_; decide +kernel)
  k_with "m ne1" => (rename ∀ p ∈ _, _ ≠ Prod.fst p => hh2; first | (have hh3 := hh2 _ (List.Mem.head _); exact hh3) | (replace hh2 := ne_tail hh2; k_extra "m ne1"))
  k_with "m nes" => first | exact fa0 | (refine faC ?_ ?_; (k_extra "m ne"); (k_extra "m nes"))
  k_with "m same1" => first | (refine kstB_out ?_ (by assumption); k_extra "m nes") | (refine (if_neg ?_).trans ?_; (k_extra "m ne"); (k_extra "m same1"))
  k_with "m same" => (intro z h1 h2 h3; k_extra "m same1")
  k_with "m sameW" => (intro z h2 h3; k_extra "m same1")
  k_with "m k_all" => first | with_reducible assumption | (refine' List.forall_mem_append.mpr ⟨?_, ?_⟩; (k_all); (k_all))
  k_with "hk on" => fail_if_success (fail_if_success (with_reducible rename HkOn => hkOn))
  k_with "hk ne" => first | exact neAround | exact neShared | exact neWorld | exact neDrawn | exact neGen | exact neSCtx | exact neI | exact Nonempty.intro (by constructor <;> first | exact default | (constructor <;> exact default))
  k_with "m execs cons" => (k_extra "hk on"; (try k_made); (with_reducible refine wpAny_execs_cons ?_); try dsimp only)
  k_with "m execs nil" => (k_extra "hk on"; refine wpAny_execs_nil ?_)
  k_with "hk omega" => ((k_extra "hk on"); dsimp +zetaDelta only; first | lia | omega +splitDisjunctions)
  k_with "hk ne" => exact neWsD
  k_with_none
  k_with "m eval Name" => (k_here; name_kind "local"; k_dflt (refine' ld (by k_asm) ?_ ?_; (first | exact rfl | (rotate_left; exact rfl)); k_whole))
  k_with "m k_mem" => first | with_reducible assumption | (refine' List.mem_append_left _ ?_; k_mem) | (refine' List.mem_append_right _ ?_; k_mem)
  k_with "m ne" => first | assumption | (rename ∀ p ∈ _, _ ≠ Prod.fst p => hh2; k_extra "m ne1") | (refine ne_of_stored (by assumption) ?_; decide +kernel)
  k_with "m ne1" => (rename ∀ p ∈ _, _ ≠ Prod.fst p => hh2; first | (have hh3 := hh2 _ (List.Mem.head _); exact hh3) | (replace hh2 := ne_tail hh2; k_extra "m ne1"))
  k_with "m nes" => first | exact fa0 | (refine faC ?_ ?_; (k_extra "m ne"); (k_extra "m nes"))
  k_with "m same1" => first | (refine kstB_out ?_ (by assumption); k_extra "m nes") | (refine (if_neg ?_).trans ?_; (k_extra "m ne"); (k_extra "m same1"))
  k_with "m same" => (intro z h1 h2 h3; k_extra "m same1")
  k_with "m sameW" => (intro z h2 h3; k_extra "m same1")
  k_with "m k_all" => first | with_reducible assumption | (refine' List.forall_mem_append.mpr ⟨?_, ?_⟩; (k_all); (k_all))
  k_with "hk on" => fail_if_success (fail_if_success (with_reducible rename HkOn => hkOn))
  k_with "hk ne" => first | exact neAround | exact neShared | exact neWorld | exact neDrawn | exact neGen | exact neSCtx | exact neI | exact Nonempty.intro (by constructor <;> first | exact default | (constructor <;> exact default))
  k_with "m execs cons" => (k_extra "hk on"; (try k_made); (with_reducible refine wpAny_execs_cons ?_); try dsimp only)
  k_with "m execs nil" => (k_extra "hk on"; refine wpAny_execs_nil ?_)
  k_with "hk omega" => ((k_extra "hk on"); dsimp +zetaDelta only; first | lia | omega +splitDisjunctions)
  k_with "hk ne" => exact neWsD
  k_with "m execs cons If" =>
    rename Fr _ _ _ _ => F5
    rename News _ _ _ _ => N5
    first
    | (with_reducible show wpAny _ _ (execs (Stmt.If (Expr.Compare (Expr.Constant (Const.str (Str.ofString "&")) _ _) _ _ _) _ _ _ :: _) _) _ _ _
       refine cutText 38 (Str.ofString "&amp;") F5 N5 (by exact rfl) ?_ (fun h' tk' t' htk F6 N6 => ?_))
    | (with_reducible show wpAny _ _ (execs (Stmt.If (Expr.Compare (Expr.Constant (Const.str (Str.ofString "<")) _ _) _ _ _) _ _ _ :: _) _) _ _ _
       refine cutText 60 (Str.ofString "&lt;") F5 N5 (by exact rfl) ?_ (fun h' tk' t' htk F6 N6 => ?_))
    | (with_reducible show wpAny _ _ (execs (Stmt.If (Expr.Compare (Expr.Constant (Const.str (Str.ofString ">")) _ _) _ _ _) _ _ _ :: _) _) _ _ _
       refine cutText 62 (Str.ofString "&gt;") F5 N5 (by exact rfl) ?_ (fun h' tk' t' htk F6 N6 => ?_))
    all_goals (first | (have hh := F6; clear hh F5 N5) | skip)
    all_goals (try k_fold)
  k_with "m ite" => (with_reducible refine iteB (fun hc9 => ?_) (fun hc9 => ?_))
  k_with "m execs cons" => ((with_reducible refine wpAny_execs_cons ?_); try dsimp only)
  k_with "m execs nil" => (refine wpAny_execs_nil ?_)
  k_with "m call builtin:str.replace" => (refine SC.replaceW (by show @Ne Nat _ _; omega) (by show @Ne Nat _ _; omega) (by show @Ne Nat _ _; omega) (by decide +kernel) (Nat.le_trans (flatS_len (by decide +kernel)) (by omega)) (by decide +kernel) (fun t' k' => ?_))
  k_with "m TextAt" =>
    rename Fr _ _ _ _ => F5
    rename News _ _ _ _ => N5
    first
    | ((with_reducible show TextAt _ _ _ _ _ (flatS (_ ++ [(38, _)]) _) _); first | (have h9 : (!_) = false := hc9; exact textEnd2 (c := 38) F5 N5 (by exact rfl) hc9 (by decide +kernel) (by decide +kernel) (by omega)) | exact textEnd1 (c := 38) F5 N5 (by decide +kernel) (by decide +kernel) (by omega))
    | ((with_reducible show TextAt _ _ _ _ _ (flatS (_ ++ [(60, _)]) _) _); first | (have h9 : (!_) = false := hc9; exact textEnd2 (c := 60) F5 N5 (by exact rfl) hc9 (by decide +kernel) (by decide +kernel) (by omega)) | exact textEnd1 (c := 60) F5 N5 (by decide +kernel) (by decide +kernel) (by omega))
    | ((with_reducible show TextAt _ _ _ _ _ (flatS (_ ++ [(62, _)]) _) _); first | (have h9 : (!_) = false := hc9; exact textEnd2 (c := 62) F5 N5 (by exact rfl) hc9 (by decide +kernel) (by decide +kernel) (by omega)) | exact textEnd1 (c := 62) F5 N5 (by decide +kernel) (by decide +kernel) (by omega))
  refine wpAny_call ?_
  k_dflt (refine' code_defT ?k1 ?k2 ?k3 ?k4 ?k5 ?kA ?kF ?kK ?k6 ?k7 ?k8 ?k9 ?kB ?_ ?c2 ?c3 ?c4 ?c5 ?hb; (case kA => exact rfl); (case kF => exact rfl); (case kK => assumption); (case k1 => k_asm); (case k2 => k_asm); (case k3 => k_asm); (case k4 => k_asm); (case k5 => k_asm); (case k6 => k_is); (case k7 => k_is); (case k8 => ktr_room); (case k9 => exact BindsTo.of_eq rfl); (case c5 => decide); (case kB => exact locs rfl); (case c2 => exact rfl); (case c3 => exact rfl); (case c4 => exact rfl); (case hb => exact Nat.le_of_ble_eq_true rfl); k_whole; intro g' L' h' tk9 htk9 FG' F' N' B' X' T'; (try dsimp only); (try k_lift B'); (try k_fold))
  (repeat' (first | (k_unfold; (try dsimp only)) | (k_end; kc_close) | (walk1; (try dsimp only)) | (dsimp only; walk1) | (leave1; (try dsimp only)) | fail "no step"))
  all_goals
    rename News h₀ _ _ _ => N5
    rename Fr h₀ _ _ _ => F5
    exact end0 ret F5 N5 (fun p hp => hp) ⟨_, rfl⟩
noncomputable def TAttrib : List (Nat × List Nat) := [(38, [38, 97, 109, 112, 59]), (60, [38, 108, 116, 59]), (62, [38, 103, 116, 59]), (34, [38, 113, 117, 111, 116, 59]), (13, [38, 35, 49, 51, 59]), (10, [38, 35, 49, 48, 59]), (9, [38, 35, 48, 57, 59])]
theorem Attrib (w : World) (news : List (Addr × Obj)) (x : Str) (t : Tok) (hx : x.length ≤ 1000) :
    Spec w 207 1 100 [.str x t] news (fun r _ => ∃ u, r = .str (flatS TAttrib x) u) := by
  suffices H : Spec w 207 1 100 [.str (flatS [] x) t] news (fun r _ => ∃ u, r = .str (flatS TAttrib x) u) by rwa [flatS_nil] at H
  unfold Spec
  k_fill
  intro mean mg mb dp un gd cn cs ad ccd cl outer A₀ base h₀ L m s Q E B F X N T hk hdp hun ret
  k_with_none
  k_with "m eval Name" => (k_here; name_kind "local"; k_dflt (refine' ld (by k_asm) ?_ ?_; (first | exact rfl | (rotate_left; exact rfl)); k_whole))
  k_with "m k_mem" => first | with_reducible assumption | (refine' List.mem_append_left _ ?_; k_mem) | (refine' List.mem_append_right _ ?_; k_mem)
  k_with "m ne" => first | assumption | (rename ∀ p ∈ _, _ ≠ Prod.fst p => hh2; k_extra "m ne1") | (refine ne_of_stored (by assumption) ?_; decide +kernel)
  k_with "m ne1" => (rename ∀ p ∈ _, _ ≠ Prod.fst p => hh2; first | (have hh3 := hh2 _ (List.Mem.head _); exact hh3) | (replace hh2 := ne_tail hh2; k_extra "m ne1"))
  k_with "m nes" => first | exact fa0 | (refine faC ?_ ?_; (k_extra "m ne"); (k_extra "m nes"))
  k_with "m same1" => first | (refine kstB_out ?_ (by assumption); k_extra "m nes") | (refine (if_neg ?_).trans ?_; (k_extra "m ne"); (k_extra "m same1"))
  k_with "m same" => (intro z h1 h2 h3; k_extra "m same1")
  k_with "m sameW" => (intro z h2 h3; k_extra "m same1")
  k_with "m k_all" => first | with_reducible assumption | (refine' List.forall_mem_append.mpr ⟨?_, ?_⟩; (k_all); (k_all))
  k_with "hk on" => fail_if_success (fail_if_success (with_reducible rename HkOn => hkOn))
  k_with "hk ne" => first | exact neAround | exact neShared | exact neWorld | exact neDrawn | exact neGen | exact neSCtx | exact neI | exact Nonempty.intro (by constructor <;> first | exact default | (constructor <;> exact default))
  k_with "m execs cons" => (k_extra "hk on"; (try k_made); (with_reducible refine wpAny_execs_cons ?_); try dsimp only)
  k_with "m execs nil" => (k_extra "hk on"; refine wpAny_execs_nil ?_)
  k_with "hk omega" => ((k_extra "hk on"); dsimp +zetaDelta only; first | lia | omega +splitDisjunctions)
  k_with "hk ne" => exact neWsD
  k_with_none
  k_with "m eval Name" => (k_here; name_kind "local"; k_dflt (refine' ld (by k_asm) ?_ ?_; (first | exact rfl | (rotate_left; exact rfl)); k_whole))
  k_with "m k_mem" => first | with_reducible assumption | (refine' List.mem_append_left _ ?_; k_mem) | (refine' List.mem_append_right _ ?_; k_mem)
  k_with "m ne" => first | assumption | (rename ∀ p ∈ _, _ ≠ Prod.fst p => hh2; k_extra "m ne1") | (refine ne_of_stored (by assumption) ?_; decide +kernel)
  k_with "m ne1" => (rename ∀ p ∈ _, _ ≠ Prod.fst p => hh2; first | (have hh3 := hh2 _ (List.Mem.head _); exact hh3) | (replace hh2 := ne_tail hh2; k_extra "m ne1"))
  k_with "m nes" => first | exact fa0 | (refine faC ?_ ?_; (k_extra "m ne"); (k_extra "m nes"))
  k_with "m same1" => first | (refine kstB_out ?_ (by assumption); k_extra "m nes") | (refine (if_neg ?_).trans ?_; (k_extra "m ne"); (k_extra "m same1"))
  k_with "m same" => (intro z h1 h2 h3; k_extra "m same1")
  k_with "m sameW" => (intro z h2 h3; k_extra "m same1")
  k_with "m k_all" => first | with_reducible assumption | (refine' List.forall_mem_append.mpr ⟨?_, ?_⟩; (k_all); (k_all))
  k_with "hk on" => fail_if_success (fail_if_success (with_reducible rename HkOn => hkOn))
  k_with "hk ne" => first | exact neAround | exact neShared | exact neWorld | exact neDrawn | exact neGen | exact neSCtx | exact neI | exact Nonempty.intro (by constructor <;> first | exact default | (constructor <;> exact default))
  k_with "m execs cons" => (k_extra "hk on"; (try k_made); (with_reducible refine wpAny_execs_cons ?_); try dsimp only)
  k_with "m execs nil" => (k_extra "hk on"; refine wpAny_execs_nil ?_)
  k_with "hk omega" => ((k_extra "hk on"); dsimp +zetaDelta only; first | lia | omega +splitDisjunctions)
  k_with "hk ne" => exact neWsD
  k_with "m execs cons If" =>
    rename Fr _ _ _ _ => F5
    rename News _ _ _ _ => N5
    first
    | (with_reducible show wpAny _ _ (execs (Stmt.If (Expr.Compare (Expr.Constant (Const.str (Str.ofString "&")) _ _) _ _ _) _ _ _ :: _) _) _ _ _
       refine cutText 38 (Str.ofString "&amp;") F5 N5 (by exact rfl) ?_ (fun h' tk' t' htk F6 N6 => ?_))
    | (with_reducible show wpAny _ _ (execs (Stmt.If (Expr.Compare (Expr.Constant (Const.str (Str.ofString "<")) _ _) _ _ _) _ _ _ :: _) _) _ _ _
       refine cutText 60 (Str.ofString "&lt;") F5 N5 (by exact rfl) ?_ (fun h' tk' t' htk F6 N6 => ?_))
    | (with_reducible show wpAny _ _ (execs (Stmt.If (Expr.Compare (Expr.Constant (Const.str (Str.ofString ">")) _ _) _ _ _) _ _ _ :: _) _) _ _ _
       refine cutText 62 (Str.ofString "&gt;") F5 N5 (by exact rfl) ?_ (fun h' tk' t' htk F6 N6 => ?_))
    | (with_reducible show wpAny _ _ (execs (Stmt.If (Expr.Compare (Expr.Constant (Const.str (Str.ofString "\"")) _ _) _ _ _) _ _ _ :: _) _) _ _ _
       refine cutText 34 (Str.ofString "&quot;") F5 N5 (by exact rfl) ?_ (fun h' tk' t' htk F6 N6 => ?_))
    | (with_reducible show wpAny _ _ (execs (Stmt.If (Expr.Compare (Expr.Constant (Const.str (Str.ofString "\r")) _ _) _ _ _) _ _ _ :: _) _) _ _ _
       refine cutText 13 (Str.ofString "&#13;") F5 N5 (by exact rfl) ?_ (fun h' tk' t' htk F6 N6 => ?_))
    | (with_reducible show wpAny _ _ (execs (Stmt.If (Expr.Compare (Expr.Constant (Const.str (Str.ofString "\n")) _ _) _ _ _) _ _ _ :: _) _) _ _ _
       refine cutText 10 (Str.ofString "&#10;") F5 N5 (by exact rfl) ?_ (fun h' tk' t' htk F6 N6 => ?_))
    | (with_reducible show wpAny _ _ (execs (Stmt.If (Expr.Compare (Expr.Constant (Const.str (Str.ofString "\t")) _ _) _ _ _) _ _ _ :: _) _) _ _ _
       refine cutText 9 (Str.ofString "&#09;") F5 N5 (by exact rfl) ?_ (fun h' tk' t' htk F6 N6 => ?_))
    all_goals (first | (have hh := F6; clear hh F5 N5) | skip)
    all_goals (try k_fold)
  k_with "m ite" => (with_reducible refine iteB (fun hc9 => ?_) (fun hc9 => ?_))
  k_with "m execs cons" => ((with_reducible refine wpAny_execs_cons ?_); try dsimp only)
  k_with "m execs nil" => (refine wpAny_execs_nil ?_)
  k_with "m call builtin:str.replace" => (refine SC.replaceW (by show @Ne Nat _ _; omega) (by show @Ne Nat _ _; omega) (by show @Ne Nat _ _; omega) (by decide +kernel) (Nat.le_trans (flatS_len (by decide +kernel)) (by omega)) (by decide +kernel) (fun t' k' => ?_))
  k_with "m TextAt" =>
    rename Fr _ _ _ _ => F5
    rename News _ _ _ _ => N5
    first
    | ((with_reducible show TextAt _ _ _ _ _ (flatS (_ ++ [(38, _)]) _) _); first | (have h9 : (!_) = false := hc9; exact textEnd2 (c := 38) F5 N5 (by exact rfl) hc9 (by decide +kernel) (by decide +kernel) (by omega)) | exact textEnd1 (c := 38) F5 N5 (by decide +kernel) (by decide +kernel) (by omega))
    | ((with_reducible show TextAt _ _ _ _ _ (flatS (_ ++ [(60, _)]) _) _); first | (have h9 : (!_) = false := hc9; exact textEnd2 (c := 60) F5 N5 (by exact rfl) hc9 (by decide +kernel) (by decide +kernel) (by omega)) | exact textEnd1 (c := 60) F5 N5 (by decide +kernel) (by decide +kernel) (by omega))
    | ((with_reducible show TextAt _ _ _ _ _ (flatS (_ ++ [(62, _)]) _) _); first | (have h9 : (!_) = false := hc9; exact textEnd2 (c := 62) F5 N5 (by exact rfl) hc9 (by decide +kernel) (by decide +kernel) (by omega)) | exact textEnd1 (c := 62) F5 N5 (by decide +kernel) (by decide +kernel) (by omega))
    | ((with_reducible show TextAt _ _ _ _ _ (flatS (_ ++ [(34, _)]) _) _); first | (have h9 : (!_) = false := hc9; exact textEnd2 (c := 34) F5 N5 (by exact rfl) hc9 (by decide +kernel) (by decide +kernel) (by omega)) | exact textEnd1 (c := 34) F5 N5 (by decide +kernel) (by decide +kernel) (by omega))
    | ((with_reducible show TextAt _ _ _ _ _ (flatS (_ ++ [(13, _)]) _) _); first | (have h9 : (!_) = false := hc9; exact textEnd2 (c := 13) F5 N5 (by exact rfl) hc9 (by decide +kernel) (by decide +kernel) (by omega)) | exact textEnd1 (c := 13) F5 N5 (by decide +kernel) (by decide +kernel) (by omega))
    | ((with_reducible show TextAt _ _ _ _ _ (flatS (_ ++ [(10, _)]) _) _); first | (have h9 : (!_) = false := hc9; exact textEnd2 (c := 10) F5 N5 (by exact rfl) hc9 (by decide +kernel) (by decide +kernel) (by omega)) | exact textEnd1 (c := 10) F5 N5 (by decide +kernel) (by decide +kernel) (by omega))
    | ((with_reducible show TextAt _ _ _ _ _ (flatS (_ ++ [(9, _)]) _) _); first | (have h9 : (!_) = false := hc9; exact textEnd2 (c := 9) F5 N5 (by exact rfl) hc9 (by decide +kernel) (by decide +kernel) (by omega)) | exact textEnd1 (c := 9) F5 N5 (by decide +kernel) (by decide +kernel) (by omega))
  refine wpAny_call ?_
  k_dflt (refine' code_defT ?k1 ?k2 ?k3 ?k4 ?k5 ?kA ?kF ?kK ?k6 ?k7 ?k8 ?k9 ?kB ?_ ?c2 ?c3 ?c4 ?c5 ?hb; (case kA => exact rfl); (case kF => exact rfl); (case kK => assumption); (case k1 => k_asm); (case k2 => k_asm); (case k3 => k_asm); (case k4 => k_asm); (case k5 => k_asm); (case k6 => k_is); (case k7 => k_is); (case k8 => ktr_room); (case k9 => exact BindsTo.of_eq rfl); (case c5 => decide); (case kB => exact locs rfl); (case c2 => exact rfl); (case c3 => exact rfl); (case c4 => exact rfl); (case hb => exact Nat.le_of_ble_eq_true rfl); k_whole; intro g' L' h' tk9 htk9 FG' F' N' B' X' T'; (try dsimp only); (try k_lift B'); (try k_fold))
  (repeat' (first | (k_unfold; (try dsimp only)) | (k_end; kc_close) | (walk1; (try dsimp only)) | (dsimp only; walk1) | (leave1; (try dsimp only)) | fail "no step"))
  all_goals
    rename News h₀ _ _ _ => N5
    rename Fr h₀ _ _ _ => F5
    exact end0 ret F5 N5 (fun p hp => hp) ⟨_, rfl⟩
noncomputable def THtml : List (Nat × List Nat) := [(38, [38, 97, 109, 112, 59]), (62, [38, 103, 116, 59]), (34, [38, 113, 117, 111, 116, 59])]
theorem Html (w : World) (news : List (Addr × Obj)) (x : Str) (t : Tok) (hx : x.length ≤ 1000) :
    Spec w 214 1 100 [.str x t] news (fun r _ => ∃ u, r = .str (flatS THtml x) u) := by
  suffices H : Spec w 214 1 100 [.str (flatS [] x) t] news (fun r _ => ∃ u, r = .str (flatS THtml x) u) by rwa [flatS_nil] at H
  unfold Spec
  k_fill
  intro mean mg mb dp un gd cn cs ad ccd cl outer A₀ base h₀ L m s Q E B F X N T hk hdp hun ret
  k_with_none
  k_with "m eval Name" => (k_here; name_kind "local"; k_dflt (refine' ld (by k_asm) ?_ ?_; (first | exact rfl | (rotate_left; exact rfl)); k_whole))
  k_with "m k_mem" => first | with_reducible assumption | (refine' List.mem_append_left _ ?_; k_mem) | (refine' List.mem_append_right _ ?_; k_mem)
  k_with "m ne" => first | assumption | (rename ∀ p ∈ _, _ ≠ Prod.fst p => hh2; k_extra "m ne1") | (refine ne_of_stored (by assumption) ?_; decide +kernel)
  k_with "m ne1" => (rename ∀ p ∈ _, _ ≠ Prod.fst p => hh2; first | (have hh3 := hh2 _ (List.Mem.head _); exact hh3) | (replace hh2 := ne_tail hh2; k_extra "m ne1"))
  k_with "m nes" => first | exact fa0 | (refine faC ?_ ?_; (k_extra "m ne"); (k_extra "m nes"))
  k_with "m same1" => first | (refine kstB_out ?_ (by assumption); k_extra "m nes") | (refine (if_neg ?_).trans ?_; (k_extra "m ne"); (k_extra "m same1"))
  k_with "m same" => (intro z h1 h2 h3; k_extra "m same1")
  k_with "m sameW" => (intro z h2 h3; k_extra "m same1")
  k_with "m k_all" => first | with_reducible assumption | (refine' List.forall_mem_append.mpr ⟨?_, ?_⟩; (k_all); (k_all))
  k_with "hk on" => fail_if_success (fail_if_success (with_reducible rename HkOn => hkOn))
  k_with "hk ne" => first | exact neAround | exact neShared | exact neWorld | exact neDrawn | exact neGen | exact neSCtx | exact neI | exact Nonempty.intro (by constructor <;> first | exact default | (constructor <;> exact default))
  k_with "m execs cons" => (k_extra "hk on"; (try k_made); (with_reducible refine wpAny_execs_cons ?_); try dsimp only)
  k_with "m execs nil" => (k_extra "hk on"; refine wpAny_execs_nil ?_)
  k_with "hk omega" => ((k_extra "hk on"); dsimp +zetaDelta only; first | lia | omega +splitDisjunctions)
  k_with "hk ne" => exact neWsD
  k_with_none
  k_with "m eval Name" => (k_here; name_kind "local"; k_dflt (refine' ld (by k_asm) ?_ ?_; (first | exact rfl | (rotate_left; exact rfl)); k_whole))
  k_with "m k_mem" => first | with_reducible assumption | (refine' List.mem_append_left _ ?_; k_mem) | (refine' List.mem_append_right _ ?_; k_mem)
  k_with "m ne" => first | assumption | (rename ∀ p ∈ _, _ ≠ Prod.fst p => hh2; k_extra "m ne1") | (refine ne_of_stored (by assumption) ?_; decide +kernel)
  k_with "m ne1" => (rename ∀ p ∈ _, _ ≠ Prod.fst p => hh2; first | (have hh3 := hh2 _ (List.Mem.head _); exact hh3) | (replace hh2 := ne_tail hh2; k_extra "m ne1"))
  k_with "m nes" => first | exact fa0 | (refine faC ?_ ?_; (k_extra "m ne"); (k_extra "m nes"))
  k_with "m same1" => first | (refine kstB_out ?_ (by assumption); k_extra "m nes") | (refine (if_neg ?_).trans ?_; (k_extra "m ne"); (k_extra "m same1"))
  k_with "m same" => (intro z h1 h2 h3; k_extra "m same1")
  k_with "m sameW" => (intro z h2 h3; k_extra "m same1")
  k_with "m k_all" => first | with_reducible assumption | (refine' List.forall_mem_append.mpr ⟨?_, ?_⟩; (k_all); (k_all))
  k_with "hk on" => fail_if_success (fail_if_success (with_reducible rename HkOn => hkOn))
  k_with "hk ne" => first | exact neAround | exact neShared | exact neWorld | exact neDrawn | exact neGen | exact neSCtx | exact neI | exact Nonempty.intro (by constructor <;> first | exact default | (constructor <;> exact default))
  k_with "m execs cons" => (k_extra "hk on"; (try k_made); (with_reducible refine wpAny_execs_cons ?_); try dsimp only)
  k_with "m execs nil" => (k_extra "hk on"; refine wpAny_execs_nil ?_)
  k_with "hk omega" => ((k_extra "hk on"); dsimp +zetaDelta only; first | lia | omega +splitDisjunctions)
  k_with "hk ne" => exact neWsD
  k_with "m execs cons If" =>
    rename Fr _ _ _ _ => F5
    rename News _ _ _ _ => N5
    first
    | (with_reducible show wpAny _ _ (execs (Stmt.If (Expr.Compare (Expr.Constant (Const.str (Str.ofString "&")) _ _) _ _ _) _ _ _ :: _) _) _ _ _
       refine cutText 38 (Str.ofString "&amp;") F5 N5 (by exact rfl) ?_ (fun h' tk' t' htk F6 N6 => ?_))
    | (with_reducible show wpAny _ _ (execs (Stmt.If (Expr.Compare (Expr.Constant (Const.str (Str.ofString ">")) _ _) _ _ _) _ _ _ :: _) _) _ _ _
       refine cutText 62 (Str.ofString "&gt;") F5 N5 (by exact rfl) ?_ (fun h' tk' t' htk F6 N6 => ?_))
    | (with_reducible show wpAny _ _ (execs (Stmt.If (Expr.Compare (Expr.Constant (Const.str (Str.ofString "\"")) _ _) _ _ _) _ _ _ :: _) _) _ _ _
       refine cutText 34 (Str.ofString "&quot;") F5 N5 (by exact rfl) ?_ (fun h' tk' t' htk F6 N6 => ?_))
    all_goals (first | (have hh := F6; clear hh F5 N5) | skip)
    all_goals (try k_fold)
  k_with "m ite" => (with_reducible refine iteB (fun hc9 => ?_) (fun hc9 => ?_))
  k_with "m execs cons" => ((with_reducible refine wpAny_execs_cons ?_); try dsimp only)
  k_with "m execs nil" => (refine wpAny_execs_nil ?_)
  k_with "m call builtin:str.replace" => (refine SC.replaceW (by show @Ne Nat _ _; omega) (by show @Ne Nat _ _; omega) (by show @Ne Nat _ _; omega) (by decide +kernel) (Nat.le_trans (flatS_len (by decide +kernel)) (by omega)) (by decide +kernel) (fun t' k' => ?_))
  k_with "m TextAt" =>
    rename Fr _ _ _ _ => F5
    rename News _ _ _ _ => N5
    first
    | ((with_reducible show TextAt _ _ _ _ _ (flatS (_ ++ [(38, _)]) _) _); first | (have h9 : (!_) = false := hc9; exact textEnd2 (c := 38) F5 N5 (by exact rfl) hc9 (by decide +kernel) (by decide +kernel) (by omega)) | exact textEnd1 (c := 38) F5 N5 (by decide +kernel) (by decide +kernel) (by omega))
    | ((with_reducible show TextAt _ _ _ _ _ (flatS (_ ++ [(62, _)]) _) _); first | (have h9 : (!_) = false := hc9; exact textEnd2 (c := 62) F5 N5 (by exact rfl) hc9 (by decide +kernel) (by decide +kernel) (by omega)) | exact textEnd1 (c := 62) F5 N5 (by decide +kernel) (by decide +kernel) (by omega))
    | ((with_reducible show TextAt _ _ _ _ _ (flatS (_ ++ [(34, _)]) _) _); first | (have h9 : (!_) = false := hc9; exact textEnd2 (c := 34) F5 N5 (by exact rfl) hc9 (by decide +kernel) (by decide +kernel) (by omega)) | exact textEnd1 (c := 34) F5 N5 (by decide +kernel) (by decide +kernel) (by omega))
  refine wpAny_call ?_
  k_dflt (refine' code_defT ?k1 ?k2 ?k3 ?k4 ?k5 ?kA ?kF ?kK ?k6 ?k7 ?k8 ?k9 ?kB ?_ ?c2 ?c3 ?c4 ?c5 ?hb; (case kA => exact rfl); (case kF => exact rfl); (case kK => assumption); (case k1 => k_asm); (case k2 => k_asm); (case k3 => k_asm); (case k4 => k_asm); (case k5 => k_asm); (case k6 => k_is); (case k7 => k_is); (case k8 => ktr_room); (case k9 => exact BindsTo.of_eq rfl); (case c5 => decide); (case kB => exact locs rfl); (case c2 => exact rfl); (case c3 => exact rfl); (case c4 => exact rfl); (case hb => exact Nat.le_of_ble_eq_true rfl); k_whole; intro g' L' h' tk9 htk9 FG' F' N' B' X' T'; (try dsimp only); (try k_lift B'); (try k_fold))
  (repeat' (first | (k_unfold; (try dsimp only)) | (k_end; kc_close) | (walk1; (try dsimp only)) | (dsimp only; walk1) | (leave1; (try dsimp only)) | fail "no step"))
  all_goals
    rename News h₀ _ _ _ => N5
    rename Fr h₀ _ _ _ => F5
    exact end0 ret F5 N5 (fun p hp => hp) ⟨_, rfl⟩
noncomputable def TC14n : List (Nat × List Nat) := [(38, [38, 97, 109, 112, 59]), (60, [38, 108, 116, 59]), (62, [38, 103, 116, 59]), (13, [38, 35, 120, 68, 59])]
theorem C14n (w : World) (news : List (Addr × Obj)) (x : Str) (t : Tok) (hx : x.length ≤ 1000) :
    Spec w 221 1 100 [.str x t] news (fun r _ => ∃ u, r = .str (flatS TC14n x) u) := by
  suffices H : Spec w 221 1 100 [.str (flatS [] x) t] news (fun r _ => ∃ u, r = .str (flatS TC14n x) u) by rwa [flatS_nil] at H
  unfold Spec
  k_fill
  intro mean mg mb dp un gd cn cs ad ccd cl outer A₀ base h₀ L m s Q E B F X N T hk hdp hun ret
  k_with_none
  k_with "m eval Name" => (k_here; name_kind "local"; k_dflt (refine' ld (by k_asm) ?_ ?_; (first | exact rfl | (rotate_left; exact rfl)); k_whole))
  k_with "m k_mem" => first | with_reducible assumption | (refine' List.mem_append_left _ ?_; k_mem) | (refine' List.mem_append_right _ ?_; k_mem)
  k_with "m ne" => first | assumption | (rename ∀ p ∈ _, _ ≠ Prod.fst p => hh2; k_extra "m ne1") | (refine ne_of_stored (by assumption) ?_; decide +kernel)
  k_with "m ne1" => (rename ∀ p ∈ _, _ ≠ Prod.fst p => hh2; first | (have hh3 := hh2 _ (List.Mem.head _); exact hh3) | (replace hh2 := ne_tail hh2; k_extra "m ne1"))
  k_with "m nes" => first | exact fa0 | (refine faC ?_ ?_; (k_extra "m ne"); (k_extra "m nes"))
  k_with "m same1" => first | (refine kstB_out ?_ (by assumption); k_extra "m nes") | (refine (if_neg ?_).trans ?_; (k_extra "m ne"); (k_extra "m same1"))
  k_with "m same" => (intro z h1 h2 h3; k_extra "m same1")
  k_with "m sameW" => (intro z h2 h3; k_extra "m same1")
  k_with "m k_all" => first | with_reducible assumption | (refine' List.forall_mem_append.mpr ⟨?_, ?_⟩; (k_all); (k_all))
  k_with "hk on" => fail_if_success (fail_if_success (with_reducible rename HkOn => hkOn))
  k_with "hk ne" => first | exact neAround | exact neShared | exact neWorld | exact neDrawn | exact neGen | exact neSCtx | exact neI | exact Nonempty.intro (by constructor <;> first | exact default | (constructor <;> exact default))
  k_with "m execs cons" => (k_extra "hk on"; (try k_made); (with_reducible refine wpAny_execs_cons ?_); try dsimp only)
  k_with "m execs nil" => (k_extra "hk on"; refine wpAny_execs_nil ?_)
  k_with "hk omega" => ((k_extra "hk on"); dsimp +zetaDelta only; first | lia | omega +splitDisjunctions)
  k_with "hk ne" => exact neWsD
  k_with_none
  k_with "m eval Name" => (k_here; name_kind "local"; k_dflt (refine' ld (by k_asm) ?_ ?_; (first | exact rfl | (rotate_left; exact rfl)); k_whole))
  k_with "m k_mem" => first | with_reducible assumption | (refine' List.mem_append_left _ ?_; k_mem) | (refine' List.mem_append_right _ ?_; k_mem)
  k_with "m ne" => first | assumption | (rename ∀ p ∈ _, _ ≠ Prod.fst p => hh2; k_extra "m ne1") | (refine ne_of_stored (by assumption) ?_; decide +kernel)
  k_with "m ne1" => (rename ∀ p ∈ _, _ ≠ Prod.fst p => hh2; first | (have hh3 := hh2 _ (List.Mem.head _); exact hh3) | (replace hh2 := ne_tail hh2; k_extra "m ne1"))
  k_with "m nes" => first | exact fa0 | (refine faC ?_ ?_; (k_extra "m ne"); (k_extra "m nes"))
  k_with "m same1" => first | (refine kstB_out ?_ (by assumption); k_extra "m nes") | (refine (if_neg ?_).trans ?_; (k_extra "m ne"); (k_extra "m same1"))
  k_with "m same" => (intro z h1 h2 h3; k_extra "m same1")
  k_with "m sameW" => (intro z h2 h3; k_extra "m same1")
  k_with "m k_all" => first | with_reducible assumption | (refine' List.forall_mem_append.mpr ⟨?_, ?_⟩; (k_all); (k_all))
  k_with "hk on" => fail_if_success (fail_if_success (with_reducible rename HkOn => hkOn))
  k_with "hk ne" => first | exact neAround | exact neShared | exact neWorld | exact neDrawn | exact neGen | exact neSCtx | exact neI | exact Nonempty.intro (by constructor <;> first | exact default | (constructor <;> exact default))
  k_with "m execs cons" => (k_extra "hk on"; (try k_made); (with_reducible refine wpAny_execs_cons ?_); try dsimp only)
  k_with "m execs nil" => (k_extra "hk on"; refine wpAny_execs_nil ?_)
  k_with "hk omega" => ((k_extra "hk on"); dsimp +zetaDelta only; first | lia | omega +splitDisjunctions)
  k_with "hk ne" => exact neWsD
  k_with "m execs cons If" =>
    rename Fr _ _ _ _ => F5
    rename News _ _ _ _ => N5
    first
    | (with_reducible show wpAny _ _ (execs (Stmt.If (Expr.Compare (Expr.Constant (Const.str (Str.ofString "&")) _ _) _ _ _) _ _ _ :: _) _) _ _ _
       refine cutText 38 (Str.ofString "&amp;") F5 N5 (by exact rfl) ?_ (fun h' tk' t' htk F6 N6 => ?_))
    | (with_reducible show wpAny _ _ (execs (Stmt.If (Expr.Compare (Expr.Constant (Const.str (Str.ofString "<")) _ _) _ _ _) _ _ _ :: _) _) _ _ _
       refine cutText 60 (Str.ofString "&lt;") F5 N5 (by exact rfl) ?_ (fun h' tk' t' htk F6 N6 => ?_))
    | (with_reducible show wpAny _ _ (execs (Stmt.If (Expr.Compare (Expr.Constant (Const.str (Str.ofString ">")) _ _) _ _ _) _ _ _ :: _) _) _ _ _
       refine cutText 62 (Str.ofString "&gt;") F5 N5 (by exact rfl) ?_ (fun h' tk' t' htk F6 N6 => ?_))
    | (with_reducible show wpAny _ _ (execs (Stmt.If (Expr.Compare (Expr.Constant (Const.str (Str.ofString "\r")) _ _) _ _ _) _ _ _ :: _) _) _ _ _
       refine cutText 13 (Str.ofString "&#xD;") F5 N5 (by exact rfl) ?_ (fun h' tk' t' htk F6 N6 => ?_))
    all_goals (first | (have hh := F6; clear hh F5 N5) | skip)
    all_goals (try k_fold)
  k_with "m ite" => (with_reducible refine iteB (fun hc9 => ?_) (fun hc9 => ?_))
  k_with "m execs cons" => ((with_reducible refine wpAny_execs_cons ?_); try dsimp only)
  k_with "m execs nil" => (refine wpAny_execs_nil ?_)
  k_with "m call builtin:str.replace" => (refine SC.replaceW (by show @Ne Nat _ _; omega) (by show @Ne Nat _ _; omega) (by show @Ne Nat _ _; omega) (by decide +kernel) (Nat.le_trans (flatS_len (by decide +kernel)) (by omega)) (by decide +kernel) (fun t' k' => ?_))
  k_with "m TextAt" =>
    rename Fr _ _ _ _ => F5
    rename News _ _ _ _ => N5
    first
    | ((with_reducible show TextAt _ _ _ _ _ (flatS (_ ++ [(38, _)]) _) _); first | (have h9 : (!_) = false := hc9; exact textEnd2 (c := 38) F5 N5 (by exact rfl) hc9 (by decide +kernel) (by decide +kernel) (by omega)) | exact textEnd1 (c := 38) F5 N5 (by decide +kernel) (by decide +kernel) (by omega))
    | ((with_reducible show TextAt _ _ _ _ _ (flatS (_ ++ [(60, _)]) _) _); first | (have h9 : (!_) = false := hc9; exact textEnd2 (c := 60) F5 N5 (by exact rfl) hc9 (by decide +kernel) (by decide +kernel) (by omega)) | exact textEnd1 (c := 60) F5 N5 (by decide +kernel) (by decide +kernel) (by omega))
    | ((with_reducible show TextAt _ _ _ _ _ (flatS (_ ++ [(62, _)]) _) _); first | (have h9 : (!_) = false := hc9; exact textEnd2 (c := 62) F5 N5 (by exact rfl) hc9 (by decide +kernel) (by decide +kernel) (by omega)) | exact textEnd1 (c := 62) F5 N5 (by decide +kernel) (by decide +kernel) (by omega))
    | ((with_reducible show TextAt _ _ _ _ _ (flatS (_ ++ [(13, _)]) _) _); first | (have h9 : (!_) = false := hc9; exact textEnd2 (c := 13) F5 N5 (by exact rfl) hc9 (by decide +kernel) (by decide +kernel) (by omega)) | exact textEnd1 (c := 13) F5 N5 (by decide +kernel) (by decide +kernel) (by omega))
  refine wpAny_call ?_
  k_dflt (refine' code_defT ?k1 ?k2 ?k3 ?k4 ?k5 ?kA ?kF ?kK ?k6 ?k7 ?k8 ?k9 ?kB ?_ ?c2 ?c3 ?c4 ?c5 ?hb; (case kA => exact rfl); (case kF => exact rfl); (case kK => assumption); (case k1 => k_asm); (case k2 => k_asm); (case k3 => k_asm); (case k4 => k_asm); (case k5 => k_asm); (case k6 => k_is); (case k7 => k_is); (case k8 => ktr_room); (case k9 => exact BindsTo.of_eq rfl); (case c5 => decide); (case kB => exact locs rfl); (case c2 => exact rfl); (case c3 => exact rfl); (case c4 => exact rfl); (case hb => exact Nat.le_of_ble_eq_true rfl); k_whole; intro g' L' h' tk9 htk9 FG' F' N' B' X' T'; (try dsimp only); (try k_lift B'); (try k_fold))
  (repeat' (first | (k_unfold; (try dsimp only)) | (k_end; kc_close) | (walk1; (try dsimp only)) | (dsimp only; walk1) | (leave1; (try dsimp only)) | fail "no step"))
  all_goals
    rename News h₀ _ _ _ => N5
    rename Fr h₀ _ _ _ => F5
    exact end0 ret F5 N5 (fun p hp => hp) ⟨_, rfl⟩
noncomputable def TAc14n : List (Nat × List Nat) := [(38, [38, 97, 109, 112, 59]), (60, [38, 108, 116, 59]), (34, [38, 113, 117, 111, 116, 59]), (9, [38, 35, 120, 57, 59]), (10, [38, 35, 120, 65, 59]), (13, [38, 35, 120, 68, 59])]
theorem Ac14n (w : World) (news : List (Addr × Obj)) (x : Str) (t : Tok) (hx : x.length ≤ 1000) :
    Spec w 228 1 100 [.str x t] news (fun r _ => ∃ u, r = .str (flatS TAc14n x) u) := by
  suffices H : Spec w 228 1 100 [.str (flatS [] x) t] news (fun r _ => ∃ u, r = .str (flatS TAc14n x) u) by rwa [flatS_nil] at H
  unfold Spec
  k_fill
  intro mean mg mb dp un gd cn cs ad ccd cl outer A₀ base h₀ L m s Q E B F X N T hk hdp hun ret
  k_with_none
  k_with "m eval Name" => (k_here; name_kind "local"; k_dflt (refine' ld (by k_asm) ?_ ?_; (first | exact rfl | (rotate_left; exact rfl)); k_whole))
  k_with "m k_mem" => first | with_reducible assumption | (refine' List.mem_append_left _ ?_; k_mem) | (refine' List.mem_append_right _ ?_; k_mem)
  k_with "m ne" => first | assumption | (rename ∀ p ∈ _, _ ≠ Prod.fst p => hh2; k_extra "m ne1") | (refine ne_of_stored (by assumption) ?_; decide +kernel)
  k_with "m ne1" => (rename ∀ p ∈ _, _ ≠ Prod.fst p => hh2; first | (have hh3 := hh2 _ (List.Mem.head _); exact hh3) | (replace hh2 := ne_tail hh2; k_extra "m ne1"))
  k_with "m nes" => first | exact fa0 | (refine faC ?_ ?_; (k_extra "m ne"); (k_extra "m nes"))
  k_with "m same1" => first | (refine kstB_out ?_ (by assumption); k_extra "m nes") | (refine (if_neg ?_).trans ?_; (k_extra "m ne"); (k_extra "m same1"))
  k_with "m same" => (intro z h1 h2 h3; k_extra "m same1")
  k_with "m sameW" => (intro z h2 h3; k_extra "m same1")
  k_with "m k_all" => first | with_reducible assumption | (refine' List.forall_mem_append.mpr ⟨?_, ?_⟩; (k_all); (k_all))
  k_with "hk on" => fail_if_success (fail_if_success (with_reducible rename HkOn => hkOn))
  k_with "hk ne" => first | exact neAround | exact neShared | exact neWorld | exact neDrawn | exact neGen | exact neSCtx | exact neI | exact Nonempty.intro (by constructor <;> first | exact default | (constructor <;> exact default))
  k_with "m execs cons" => (k_extra "hk on"; (try k_made); (with_reducible refine wpAny_execs_cons ?_); try dsimp only)
  k_with "m execs nil" => (k_extra "hk on"; refine wpAny_execs_nil ?_)
  k_with "hk omega" => ((k_extra "hk on"); dsimp +zetaDelta only; first | lia | omega +splitDisjunctions)
  k_with "hk ne" => exact neWsD
  k_with_none
  k_with "m eval Name" => (k_here; name_kind "local"; k_dflt (refine' ld (by k_asm) ?_ ?_; (first | exact rfl | (rotate_left; exact rfl)); k_whole))
  k_with "m k_mem" => first | with_reducible assumption | (refine' List.mem_append_left _ ?_; k_mem) | (refine' List.mem_append_right _ ?_; k_mem)
  k_with "m ne" => first | assumption | (rename ∀ p ∈ _, _ ≠ Prod.fst p => hh2; k_extra "m ne1") | (refine ne_of_stored (by assumption) ?_; decide +kernel)
  k_with "m ne1" => (rename ∀ p ∈ _, _ ≠ Prod.fst p => hh2; first | (have hh3 := hh2 _ (List.Mem.head _); exact hh3) | (replace hh2 := ne_tail hh2; k_extra "m ne1"))
  k_with "m nes" => first | exact fa0 | (refine faC ?_ ?_; (k_extra "m ne"); (k_extra "m nes"))
  k_with "m same1" => first | (refine kstB_out ?_ (by assumption); k_extra "m nes") | (refine (if_neg ?_).trans ?_; (k_extra "m ne"); (k_extra "m same1"))
  k_with "m same" => (intro z h1 h2 h3; k_extra "m same1")
  k_with "m sameW" => (intro z h2 h3; k_extra "m same1")
  k_with "m k_all" => first | with_reducible assumption | (refine' List.forall_mem_append.mpr ⟨?_, ?_⟩; (k_all); (k_all))
  k_with "hk on" => fail_if_success (fail_if_success (with_reducible rename HkOn => hkOn))
  k_with "hk ne" => first | exact neAround | exact neShared | exact neWorld | exact neDrawn | exact neGen | exact neSCtx | exact neI | exact Nonempty.intro (by constructor <;> first | exact default | (constructor <;> exact default))
  k_with "m execs cons" => (k_extra "hk on"; (try k_made); (with_reducible refine wpAny_execs_cons ?_); try dsimp only)
  k_with "m execs nil" => (k_extra "hk on"; refine wpAny_execs_nil ?_)
  k_with "hk omega" => ((k_extra "hk on"); dsimp +zetaDelta only; first | lia | omega +splitDisjunctions)
  k_with "hk ne" => exact neWsD
  k_with "m execs cons If" =>
    rename Fr _ _ _ _ => F5
    rename News _ _ _ _ => N5
    first
    | (with_reducible show wpAny _ _ (execs (Stmt.If (Expr.Compare (Expr.Constant (Const.str (Str.ofString "&")) _ _) _ _ _) _ _ _ :: _) _) _ _ _
       refine cutText 38 (Str.ofString "&amp;") F5 N5 (by exact rfl) ?_ (fun h' tk' t' htk F6 N6 => ?_))
    | (with_reducible show wpAny _ _ (execs (Stmt.If (Expr.Compare (Expr.Constant (Const.str (Str.ofString "<")) _ _) _ _ _) _ _ _ :: _) _) _ _ _
       refine cutText 60 (Str.ofString "&lt;") F5 N5 (by exact rfl) ?_ (fun h' tk' t' htk F6 N6 => ?_))
    | (with_reducible show wpAny _ _ (execs (Stmt.If (Expr.Compare (Expr.Constant (Const.str (Str.ofString "\"")) _ _) _ _ _) _ _ _ :: _) _) _ _ _
       refine cutText 34 (Str.ofString "&quot;") F5 N5 (by exact rfl) ?_ (fun h' tk' t' htk F6 N6 => ?_))
    | (with_reducible show wpAny _ _ (execs (Stmt.If (Expr.Compare (Expr.Constant (Const.str (Str.ofString "\t")) _ _) _ _ _) _ _ _ :: _) _) _ _ _
       refine cutText 9 (Str.ofString "&#x9;") F5 N5 (by exact rfl) ?_ (fun h' tk' t' htk F6 N6 => ?_))
    | (with_reducible show wpAny _ _ (execs (Stmt.If (Expr.Compare (Expr.Constant (Const.str (Str.ofString "\n")) _ _) _ _ _) _ _ _ :: _) _) _ _ _
       refine cutText 10 (Str.ofString "&#xA;") F5 N5 (by exact rfl) ?_ (fun h' tk' t' htk F6 N6 => ?_))
    | (with_reducible show wpAny _ _ (execs (Stmt.If (Expr.Compare (Expr.Constant (Const.str (Str.ofString "\r")) _ _) _ _ _) _ _ _ :: _) _) _ _ _
       refine cutText 13 (Str.ofString "&#xD;") F5 N5 (by exact rfl) ?_ (fun h' tk' t' htk F6 N6 => ?_))
    all_goals (first | (have hh := F6; clear hh F5 N5) | skip)
    all_goals (try k_fold)
  k_with "m ite" => (with_reducible refine iteB (fun hc9 => ?_) (fun hc9 => ?_))
  k_with "m execs cons" => ((with_reducible refine wpAny_execs_cons ?_); try dsimp only)
  k_with "m execs nil" => (refine wpAny_execs_nil ?_)
  k_with "m call builtin:str.replace" => (refine SC.replaceW (by show @Ne Nat _ _; omega) (by show @Ne Nat _ _; omega) (by show @Ne Nat _ _; omega) (by decide +kernel) (Nat.le_trans (flatS_len (by decide +kernel)) (by omega)) (by decide +kernel) (fun t' k' => ?_))
  k_with "m TextAt" =>
    rename Fr _ _ _ _ => F5
    rename News _ _ _ _ => N5
    first
    | ((with_reducible show TextAt _ _ _ _ _ (flatS (_ ++ [(38, _)]) _) _); first | (have h9 : (!_) = false := hc9; exact textEnd2 (c := 38) F5 N5 (by exact rfl) hc9 (by decide +kernel) (by decide +kernel) (by omega)) | exact textEnd1 (c := 38) F5 N5 (by decide +kernel) (by decide +kernel) (by omega))
    | ((with_reducible show TextAt _ _ _ _ _ (flatS (_ ++ [(60, _)]) _) _); first | (have h9 : (!_) = false := hc9; exact textEnd2 (c := 60) F5 N5 (by exact rfl) hc9 (by decide +kernel) (by decide +kernel) (by omega)) | exact textEnd1 (c := 60) F5 N5 (by decide +kernel) (by decide +kernel) (by omega))
    | ((with_reducible show TextAt _ _ _ _ _ (flatS (_ ++ [(34, _)]) _) _); first | (have h9 : (!_) = false := hc9; exact textEnd2 (c := 34) F5 N5 (by exact rfl) hc9 (by decide +kernel) (by decide +kernel) (by omega)) | exact textEnd1 (c := 34) F5 N5 (by decide +kernel) (by decide +kernel) (by omega))
    | ((with_reducible show TextAt _ _ _ _ _ (flatS (_ ++ [(9, _)]) _) _); first | (have h9 : (!_) = false := hc9; exact textEnd2 (c := 9) F5 N5 (by exact rfl) hc9 (by decide +kernel) (by decide +kernel) (by omega)) | exact textEnd1 (c := 9) F5 N5 (by decide +kernel) (by decide +kernel) (by omega))
    | ((with_reducible show TextAt _ _ _ _ _ (flatS (_ ++ [(10, _)]) _) _); first | (have h9 : (!_) = false := hc9; exact textEnd2 (c := 10) F5 N5 (by exact rfl) hc9 (by decide +kernel) (by decide +kernel) (by omega)) | exact textEnd1 (c := 10) F5 N5 (by decide +kernel) (by decide +kernel) (by omega))
    | ((with_reducible show TextAt _ _ _ _ _ (flatS (_ ++ [(13, _)]) _) _); first | (have h9 : (!_) = false := hc9; exact textEnd2 (c := 13) F5 N5 (by exact rfl) hc9 (by decide +kernel) (by decide +kernel) (by omega)) | exact textEnd1 (c := 13) F5 N5 (by decide +kernel) (by decide +kernel) (by omega))
  refine wpAny_call ?_
  k_dflt (refine' code_defT ?k1 ?k2 ?k3 ?k4 ?k5 ?kA ?kF ?kK ?k6 ?k7 ?k8 ?k9 ?kB ?_ ?c2 ?c3 ?c4 ?c5 ?hb; (case kA => exact rfl); (case kF => exact rfl); (case kK => assumption); (case k1 => k_asm); (case k2 => k_asm); (case k3 => k_asm); (case k4 => k_asm); (case k5 => k_asm); (case k6 => k_is); (case k7 => k_is); (case k8 => ktr_room); (case k9 => exact BindsTo.of_eq rfl); (case c5 => decide); (case kB => exact locs rfl); (case c2 => exact rfl); (case c3 => exact rfl); (case c4 => exact rfl); (case hb => exact Nat.le_of_ble_eq_true rfl); k_whole; intro g' L' h' tk9 htk9 FG' F' N' B' X' T'; (try dsimp only); (try k_lift B'); (try k_fold))
  (repeat' (first | (k_unfold; (try dsimp only)) | (k_end; kc_close) | (walk1; (try dsimp only)) | (dsimp only; walk1) | (leave1; (try dsimp only)) | fail "no step"))
  all_goals
    rename News h₀ _ _ _ => N5
    rename Fr h₀ _ _ _ => F5
    exact end0 ret F5 N5 (fun p hp => hp) ⟨_, rfl⟩
end Mine

-- CTb
namespace Mine
noncomputable def tabOf (i : Int) : List (Str × Str) :=
  if i = 0 then [(Str.ofString "&", Str.ofString "&amp;"), (Str.ofString "<", Str.ofString "&lt;")] else
  if i = 1 then [(Str.ofString "&", Str.ofString "&amp;"), (Str.ofString "<", Str.ofString "&lt;"), (Str.ofString "\r", Str.ofString "&#xD;")] else
  if i = 2 then [(Str.ofString "&", Str.ofString "&amp;"), (Str.ofString "<", Str.ofString "&lt;"), (Str.ofString "\"", Str.ofString "&quot;"), (Str.ofString "\t", Str.ofString "&#09;"), (Str.ofString "\r", Str.ofString "&#13;")] else
  if i = 3 then [(Str.ofString "&", Str.ofString "&amp;"), (Str.ofString "<", Str.ofString "&lt;"), (Str.ofString "\"", Str.ofString "&quot;"), (Str.ofString "\t", Str.ofString "&#x9;"), (Str.ofString "\r", Str.ofString "&#xD;")] else
  [(Str.ofString "&", Str.ofString "&amp;"), (Str.ofString "\"", Str.ofString "&quot;")]
inductive KvsAre : List (Str × Value) → List (Str × Str) → Prop
  | nil : KvsAre [] []
  | cons (k v : Str) (t : Tok) {kvs : List (Str × Value)} {T : List (Str × Str)} : KvsAre kvs T → KvsAre ((k, .str v t) :: kvs) ((k, v) :: T)
theorem KvsAre.value {kvs : List (Str × Value)} {T : List (Str × Str)} (h : KvsAre kvs T) (k : Str) : (T.lookup k = none ∧ valueAt kvs k = none) ∨ ∃ v t, T.lookup k = some v ∧ valueAt kvs k = some (.str v t) := by
  induction h with
  | nil => exact .inl ⟨rfl, rfl⟩
  | cons k' v t _ ih =>
    by_cases e : k = k'
    · subst e
      exact .inr ⟨v, t, by simp [List.lookup], by simp [valueAt]⟩
    · have hb : (k == k') = false := by simpa using e
      have hv : ∀ kvs : List (Str × Value), valueAt ((k', .str v t) :: kvs) k = valueAt kvs k := fun kvs => by
        unfold valueAt
        rw [List.find?_cons_of_neg (by simpa using Ne.symm e)]
      rw [hv]
      simp only [List.lookup, hb]
      exact ih
noncomputable def TabIs (w : World) (news : List (Addr × Obj)) (d : Addr) (T : List (Str × Str)) : Prop :=
  ∃ o kvs, (d, o) ∈ news ∧ o.IsDictOf (PySem.strKind PySem.Challenge.rw_wn0113_01.row.prog w) kvs ∧ (d == sysModules) = false ∧ KvsAre kvs T
theorem TabIs.mono {w : World} {news news' : List (Addr × Obj)} {d : Addr} {T : List (Str × Str)} (h : TabIs w news d T) (hs : ∀ p ∈ news, p ∈ news') : TabIs w news' d T := by
  obtain ⟨o, kvs, h1, r⟩ := h
  exact ⟨o, kvs, hs _ h1, r⟩
theorem tab_end {kvs : List (Str × Value)} {T T' : List (Str × Str)} (h : KvsAre kvs T) (e : T' = T) : KvsAre kvs T' := e ▸ h
theorem cTable (w : World) (news : List (Addr × Obj)) (i : Int) (t : Tok) (h0 : 0 ≤ i) (h1 : i < 5) :
    Spec w 240 1 100 [.int i t] news (fun r tl => ∃ d, r = .ref d ∧ TabIs w tl d (tabOf i)) := by
  unfold Spec
  k_fill
  intro mean mg mb dp un gd cn cs ad ccd cl outer A₀ base h₀ L m s Q E B F X N T hk hdp hun ret
  k_with_none
  k_with "m eval Name" => (k_here; name_kind "local"; k_dflt (refine' ld (by k_asm) ?_ ?_; (first | exact rfl | (rotate_left; exact rfl)); k_whole))
  k_with "m k_mem" => first | with_reducible assumption | (refine' List.mem_append_left _ ?_; k_mem) | (refine' List.mem_append_right _ ?_; k_mem)
  k_with "m ne" => first | assumption | (rename ∀ p ∈ _, _ ≠ Prod.fst p => hh2; k_extra "m ne1") | (refine ne_of_stored (by assumption) ?_; decide +kernel)
  k_with "m ne1" => (rename ∀ p ∈ _, _ ≠ Prod.fst p => hh2; first | (have hh3 := hh2 _ (List.Mem.head _); exact hh3) | (replace hh2 := ne_tail hh2; k_extra "m ne1"))
  k_with "m nes" => first | exact fa0 | (refine faC ?_ ?_; (k_extra "m ne"); (k_extra "m nes"))
  k_with "m same1" => first | (refine kstB_out ?_ (by assumption); k_extra "m nes") | (refine (if_neg ?_).trans ?_; (k_extra "m ne"); (k_extra "m same1"))
  k_with "m same" => (intro z h1 h2 h3; k_extra "m same1")
  k_with "m sameW" => (intro z h2 h3; k_extra "m same1")
  k_with "m k_all" => first | with_reducible assumption | (refine' List.forall_mem_append.mpr ⟨?_, ?_⟩; (k_all); (k_all))
  k_with "hk on" => fail_if_success (fail_if_success (with_reducible rename HkOn => hkOn))
  k_with "hk ne" => first | exact neAround | exact neShared | exact neWorld | exact neDrawn | exact neGen | exact neSCtx | exact neI | exact Nonempty.intro (by constructor <;> first | exact default | (constructor <;> exact default))
  k_with "m execs cons" => (k_extra "hk on"; (try k_made); (with_reducible refine wpAny_execs_cons ?_); try dsimp only)
  k_with "m execs nil" => (k_extra "hk on"; refine wpAny_execs_nil ?_)
  k_with "hk omega" => ((k_extra "hk on"); dsimp +zetaDelta only; first | lia | omega +splitDisjunctions)
  k_with "hk ne" => exact neWsD
  refine wpAny_call ?_
  k_dflt cell_enter
  (repeat' (first | (k_unfold; (try dsimp only)) | (k_end; kc_close) | (walk1; (try dsimp only)) | (dsimp only; walk1) | (leave1; (try dsimp only)) | fail "no step"))
  all_goals
    rename News h₀ _ _ _ => N5
    rename Fr h₀ _ _ _ => F5
    rename Obj.IsDictOf _ _ _ => hd9
    rename (_ == sysModules) = false => lo9
    refine ret _ [_] _ _ F5 N5 ⟨_, rfl, _, _, .head _, hd9, lo9, ?_⟩
    first
    | exact tab_end (.cons _ _ _ (.cons _ _ _ .nil)) (by subst i; rfl)
    | exact tab_end (.cons _ _ _ (.cons _ _ _ (.cons _ _ _ .nil))) (by subst i; rfl)
    | exact tab_end (.cons _ _ _ (.cons _ _ _ (.cons _ _ _ (.cons _ _ _ (.cons _ _ _ .nil))))) (by subst i; rfl)
    | exact tab_end (.cons _ _ _ (.cons _ _ _ .nil)) (by rw [show i = 4 from by omega]; rfl)
end Mine

-- CWr
namespace Mine
noncomputable def spOf (i : Int) : List (Nat × List Nat) := if i = 0 then TCdata else if i = 1 then TC14n else if i = 2 then TAttrib else if i = 3 then TAc14n else THtml
theorem wr_end {i : Int} {x : Str} {T : List (Nat × List Nat)} {t : Tok} (e : spOf i = T) : ∃ u, Value.str (flatS T x) t = .str (flatS (spOf i) x) u := ⟨t, by rw [e]⟩
theorem cWritten (w : World) (news : List (Addr × Obj)) (x : Str) (t : Tok) (i : Int) (u : Tok) (hx : x.length ≤ 1000) (h0 : 0 ≤ i) (h1 : i < 5) :
    Spec w 247 2 200 [.str x t, .int i u] news (fun r tl => ∃ u, r = .str (flatS (spOf i) x) u) := by
  unfold Spec
  k_fill
  intro mean mg mb dp un gd cn cs ad ccd cl outer A₀ base h₀ L m s Q E B F X N T hk hdp hun ret
  k_with_none
  k_with "m eval Name" => (k_here; name_kind "local"; k_dflt (refine' ld (by k_asm) ?_ ?_; (first | exact rfl | (rotate_left; exact rfl)); k_whole))
  k_with "m k_mem" => first | with_reducible assumption | (refine' List.mem_append_left _ ?_; k_mem) | (refine' List.mem_append_right _ ?_; k_mem)
  k_with "m ne" => first | assumption | (rename ∀ p ∈ _, _ ≠ Prod.fst p => hh2; k_extra "m ne1") | (refine ne_of_stored (by assumption) ?_; decide +kernel)
  k_with "m ne1" => (rename ∀ p ∈ _, _ ≠ Prod.fst p => hh2; first | (have hh3 := hh2 _ (List.Mem.head _); exact hh3) | (replace hh2 := ne_tail hh2; k_extra "m ne1"))
  k_with "m nes" => first | exact fa0 | (refine faC ?_ ?_; (k_extra "m ne"); (k_extra "m nes"))
  k_with "m same1" => first | (refine kstB_out ?_ (by assumption); k_extra "m nes") | (refine (if_neg ?_).trans ?_; (k_extra "m ne"); (k_extra "m same1"))
  k_with "m same" => (intro z h1 h2 h3; k_extra "m same1")
  k_with "m sameW" => (intro z h2 h3; k_extra "m same1")
  k_with "m k_all" => first | with_reducible assumption | (refine' List.forall_mem_append.mpr ⟨?_, ?_⟩; (k_all); (k_all))
  k_with "hk on" => fail_if_success (fail_if_success (with_reducible rename HkOn => hkOn))
  k_with "hk ne" => first | exact neAround | exact neShared | exact neWorld | exact neDrawn | exact neGen | exact neSCtx | exact neI | exact Nonempty.intro (by constructor <;> first | exact default | (constructor <;> exact default))
  k_with "m execs cons" => (k_extra "hk on"; (try k_made); (with_reducible refine wpAny_execs_cons ?_); try dsimp only)
  k_with "m execs nil" => (k_extra "hk on"; refine wpAny_execs_nil ?_)
  k_with "hk omega" => ((k_extra "hk on"); dsimp +zetaDelta only; first | lia | omega +splitDisjunctions)
  k_with "hk ne" => exact neWsD
  k_with_none
  k_with "m eval Name" => (k_here; name_kind "local"; k_dflt (refine' ld (by k_asm) ?_ ?_; (first | exact rfl | (rotate_left; exact rfl)); k_whole))
  k_with "m k_mem" => first | with_reducible assumption | (refine' List.mem_append_left _ ?_; k_mem) | (refine' List.mem_append_right _ ?_; k_mem)
  k_with "m ne" => first | assumption | (rename ∀ p ∈ _, _ ≠ Prod.fst p => hh2; k_extra "m ne1") | (refine ne_of_stored (by assumption) ?_; decide +kernel)
  k_with "m ne1" => (rename ∀ p ∈ _, _ ≠ Prod.fst p => hh2; first | (have hh3 := hh2 _ (List.Mem.head _); exact hh3) | (replace hh2 := ne_tail hh2; k_extra "m ne1"))
  k_with "m nes" => first | exact fa0 | (refine faC ?_ ?_; (k_extra "m ne"); (k_extra "m nes"))
  k_with "m same1" => first | (refine kstB_out ?_ (by assumption); k_extra "m nes") | (refine (if_neg ?_).trans ?_; (k_extra "m ne"); (k_extra "m same1"))
  k_with "m same" => (intro z h1 h2 h3; k_extra "m same1")
  k_with "m sameW" => (intro z h2 h3; k_extra "m same1")
  k_with "m k_all" => first | with_reducible assumption | (refine' List.forall_mem_append.mpr ⟨?_, ?_⟩; (k_all); (k_all))
  k_with "hk on" => fail_if_success (fail_if_success (with_reducible rename HkOn => hkOn))
  k_with "hk ne" => first | exact neAround | exact neShared | exact neWorld | exact neDrawn | exact neGen | exact neSCtx | exact neI | exact Nonempty.intro (by constructor <;> first | exact default | (constructor <;> exact default))
  k_with "m execs cons" => (k_extra "hk on"; (try k_made); (with_reducible refine wpAny_execs_cons ?_); try dsimp only)
  k_with "m execs nil" => (k_extra "hk on"; refine wpAny_execs_nil ?_)
  k_with "hk omega" => ((k_extra "hk on"); dsimp +zetaDelta only; first | lia | omega +splitDisjunctions)
  k_with "hk ne" => exact neWsD
  k_with "m call ref" =>
    first | (show wpAny _ _ (call (Value.ref _) [_]) _ _ _) | (show wpAny _ _ (call (Value.ref _) [_, _]) _ _ _) | (show wpAny _ _ (call (Value.ref _) [_, _, _]) _ _ _) | (show wpAny _ _ (call (Value.ref _) [_, _, _, _]) _ _ _) | skip
    rename Fr _ _ _ _ => F3
    rename News _ _ _ _ => N3
    first
    | (with_reducible show wpAny _ _ (call (Value.ref 200) [_]) _ _ _
       refine spec_use (Cdata w _ x _ hx) (by k_asm) F3 (by k_asm) N3 (by k_asm) rfl (by ktr_room) (by ktr_units) (fun r7 tl7 h7 tk7 F7 N7' hp7 => ?_)
       (obtain ⟨t7, rfl⟩ := hp7; have N7 := news_sub N7' (fun p hp => List.mem_append_right _ hp); clear N7' F3 N3))
    | (with_reducible show wpAny _ _ (call (Value.ref 207) [_]) _ _ _
       refine spec_use (Attrib w _ x _ hx) (by k_asm) F3 (by k_asm) N3 (by k_asm) rfl (by ktr_room) (by ktr_units) (fun r7 tl7 h7 tk7 F7 N7' hp7 => ?_)
       (obtain ⟨t7, rfl⟩ := hp7; have N7 := news_sub N7' (fun p hp => List.mem_append_right _ hp); clear N7' F3 N3))
    | (with_reducible show wpAny _ _ (call (Value.ref 214) [_]) _ _ _
       refine spec_use (Html w _ x _ hx) (by k_asm) F3 (by k_asm) N3 (by k_asm) rfl (by ktr_room) (by ktr_units) (fun r7 tl7 h7 tk7 F7 N7' hp7 => ?_)
       (obtain ⟨t7, rfl⟩ := hp7; have N7 := news_sub N7' (fun p hp => List.mem_append_right _ hp); clear N7' F3 N3))
    | (with_reducible show wpAny _ _ (call (Value.ref 221) [_]) _ _ _
       refine spec_use (C14n w _ x _ hx) (by k_asm) F3 (by k_asm) N3 (by k_asm) rfl (by ktr_room) (by ktr_units) (fun r7 tl7 h7 tk7 F7 N7' hp7 => ?_)
       (obtain ⟨t7, rfl⟩ := hp7; have N7 := news_sub N7' (fun p hp => List.mem_append_right _ hp); clear N7' F3 N3))
    | (with_reducible show wpAny _ _ (call (Value.ref 228) [_]) _ _ _
       refine spec_use (Ac14n w _ x _ hx) (by k_asm) F3 (by k_asm) N3 (by k_asm) rfl (by ktr_room) (by ktr_units) (fun r7 tl7 h7 tk7 F7 N7' hp7 => ?_)
       (obtain ⟨t7, rfl⟩ := hp7; have N7 := news_sub N7' (fun p hp => List.mem_append_right _ hp); clear N7' F3 N3))
  refine wpAny_call ?_
  k_dflt cell_enter
  (repeat' (first | (k_unfold; (try dsimp only)) | (k_end; kc_close) | (walk1; (try dsimp only)) | (dsimp only; walk1) | (leave1; (try dsimp only)) | fail "no step"))
  all_goals
    rename News h₀ _ _ _ => N5
    rename Fr h₀ _ _ _ => F5
    refine end0 ret F5 N5 (fun p hp => hp) (wr_end ?_)
    first
    | (subst i; rfl)
    | (rw [show i = 4 from by omega]; rfl)
end Mine

-- CR
noncomputable section
namespace Mine
section
variable {prog : Program} {w : World} {A : Around} {E : Value → Shared → Prop} {s : Shared} {h₀ : Heap} {L : Addr} {led : List (Addr × Obj)}
theorem strs_item {vs : List Value} {ns : List Str} {i : Nat} {v : Value} (hi : StrsAre vs ns) (h : vs.toArray[i]? = some v) : ∃ k u, v = .str k u ∧ ns[i]? = some k := by
  rw [List.getElem?_toArray] at h
  induction hi generalizing i with
  | nil => cases h
  | cons y t _ ih =>
    cases i with
    | zero => cases h; exact ⟨_, _, rfl, rfl⟩
    | succ i => exact ih h
theorem item_strs {Q : Value → Shared → Prop} {value slice : Expr} {l : Addr} {vs : List Value} {n : Nat} {ss : List Str} {k : Int} {u : Tok} (N : News h₀ L s.heap led) (hm : (l, W.listOf vs.toArray n) ∈ led) (hi : StrsAre vs ss) (h0 : 0 ≤ k) (h1 : k < ss.length) (hs : ss.length ≤ 1000)
    (h : ∀ u', Q (.str (ss.getD k.toNat Str.empty) u') s)
    (hs' : subscripted slice false (.ref l) (.int k u) = operate [.ref l, .int k u] (getItem (.ref l) (.int k u)) := by with_unfolding_all rfl) (hg : ∀ r, letTemporaryGo value (.ref l) r = pure () := by intro _; with_unfolding_all rfl) :
    wpAny (model prog w) A (subscriptTail value slice (.ref l) (.int k u)) Q E s := by
  have key : ∀ {vs : List Value} {ss : List Str}, StrsAre vs ss → ∀ j, j < ss.length → ∃ u', vs[j]? = some (.str (ss.getD j Str.empty) u') := by
    intro vs ss hi
    induction hi with
    | nil => intro j hj; exact absurd hj (Nat.not_lt_zero _)
    | cons y t _ ih =>
      intro j hj
      cases j with
      | zero => exact ⟨t, rfl⟩
      | succ j => exact ih j (Nat.lt_of_succ_lt_succ hj)
  obtain ⟨u', hu⟩ := key hi k.toNat (by omega)
  exact item_list (News.isList N hm) h0 (by omega) (by rw [List.getElem?_toArray]; exact hu) (h u') hs' hg
theorem join_ge {Q : Value → Shared → Prop} {x : Str} {t : Tok} {D : Addr} {vs : List Value} {n : Nat} {ys : List Str} (N : News h₀ L s.heap led) (hm : (D, W.listOf vs.toArray n) ∈ led) (hi : StrsAre vs ys) (hok : (ys.map (·.length)).sum + ys.length * x.length ≤ 16777216)
    (h : ∀ t' k, s.toks ≤ k → Q (.str (Txt.join x ys) t') { s with toks := k }) : wpAny (model prog w) A (call (.builtin "str.join") [.str x t, .ref D]) Q E s := by
  obtain ⟨l, hv, ht⟩ := strsAre_values hi
  have hl : s.heap.IsList D (strValues l).toArray := hv ▸ News.isList N hm
  subst ht
  have hok' := joinOk_of hok
  unfold JoinOk at hok'
  rw [Bool.not_eq_true'] at hok'
  refine call_meets F.slot_str_join (typeIs_str _ _ _) F.entry_str_join (F.args_str_join_2 _ _) (meets_str_join_list x t D l hok') ⟨hl, ?_⟩
  have hf := joinFit_length hok'
  cases l with
  | nil => exact ⟨hf, h _ _ (Nat.le_succ _)⟩
  | cons p r =>
    cases r with
    | nil => exact h p.2 s.toks (Nat.le_refl _)
    | cons q r => exact ⟨hf, h _ _ (Nat.le_succ _)⟩
end
theorem mod_in (x : Int) {m : Int} (h : 0 < m) : 0 ≤ Int.fmod x m ∧ Int.fmod x m < m := ⟨Int.fmod_nonneg_of_pos _ h, Int.fmod_lt_of_pos _ h⟩
noncomputable def whites : List Str := [Str.ofString "", Str.ofString " ", Str.ofString "\t", Str.ofString "\r"]
noncomputable def others : List Str := [Str.ofString "257", Str.ofString "257 ", Str.ofString "257\"a\"", Str.ofString "257  \"a\""]
noncomputable def hasT (T : List (Str × Str)) (k : Str) : Bool := (T.lookup k).isSome
noncomputable def getT (T : List (Str × Str)) (k : Str) : Str := (T.lookup k).getD k
theorem KvsAre.isSome {kvs : List (Str × Value)} {T : List (Str × Str)} (h : KvsAre kvs T) (k : Str) : (valueAt kvs k).isSome = hasT T k := by
  unfold hasT
  rcases h.value k with ⟨h1, h2⟩ | ⟨v, t, h1, h2⟩ <;> rw [h1, h2] <;> rfl
theorem KvsAre.got {kvs : List (Str × Value)} {T : List (Str × Str)} (h : KvsAre kvs T) (k : Str) (t : Tok) : ∃ u, (valueAt kvs k).getD (.str k t) = .str (getT T k) u := by
  unfold getT
  rcases h.value k with ⟨h1, h2⟩ | ⟨v, t, h1, h2⟩ <;> rw [h1, h2]
  · exact ⟨_, rfl⟩
  · exact ⟨_, rfl⟩
section
variable {prog : Program} {w : World} {A : Around} {E : Value → Shared → Prop} {s : Shared} {h₀ : Heap} {L : Addr} {led : List (Addr × Obj)} {tb : Addr} {o : Obj} {kvs : List (Str × Value)} {T : List (Str × Str)} {x : Str} {t u : Tok} {Q : Value → Shared → Prop}
theorem is_str (x : Str) (t : Tok) : (PySem.strKind prog w).is x (.str x t) = true := by
  show (x == x) = true
  simp
theorem in_tab (N : News h₀ L s.heap led) (hm : (tb, o) ∈ led) (hd : o.IsDictOf (PySem.strKind prog w) kvs) (lo : (tb == sysModules) = false) (hk : KvsAre kvs T) (h : Q (.bool (hasT T x)) { s with toks := s.toks + 1 }) :
    wpAny (model prog w) A (compareOp .In (.str x t) (.ref tb)) Q E s := by
  refine wpAny_in_of (is_str x t) lo (kda_dict N hm hd).mapOf ?_
  rw [hk.isSome]; exact h
theorem get_tab (N : News h₀ L s.heap led) (hm : (tb, o) ∈ led) (hd : o.IsDictOf (PySem.strKind prog w) kvs) (lo : (tb == sysModules) = false) (hk : KvsAre kvs T) (h : ∀ u', Q (.str (getT T x) u') { s with toks := s.toks + 1 }) :
    wpAny (model prog w) A (call (.builtin "dict.get") [.ref tb, .str x t, .str x u]) Q E s := by
  refine kdg_get2 N hm hd lo (is_str x t) _ rfl ?_
  obtain ⟨u', e⟩ := hk.got x u
  rw [e]; exact h u'
end
noncomputable def markS (d : Int) : Str := Txt.item (Str.ofString "|;\"<&!") (Int.fmod d 6)
noncomputable def whiteS (d : Int) : Str := whites.getD (Int.fmod (Int.fdiv d 6) 4).toNat Str.empty
noncomputable def signOf (d st : Int) : Str := Txt.item (Str.ofString "a\"& <\t") (Int.fmod (Int.fdiv d st) 6)
noncomputable def signsS (d : Int) : List Str := ([1, 6, 36] : List Int).map (signOf d)
noncomputable def R0 (d : Int) : Str := Str.ofString "257 \"" ++ Txt.replace (Txt.join (Str.ofString "") (signsS d)) (Str.ofString "\"") (Str.ofString "\"\"") ++ Str.ofString "\" made"
noncomputable def R1 (d : Int) : Str := Str.ofString "229 (" ++ Txt.mul (markS d) 3 ++ whiteS d ++ wordOf (Int.fdiv d 24) ++ markS d ++ Str.ofString ")"
noncomputable def R2 (d : Int) : Str := Str.ofString "229 (" ++ Txt.mul (markS d) 2 ++ wordOf (Int.fdiv d 24) ++ markS d ++ Str.ofString ")"
noncomputable def R4 (d : Int) : Str := others.getD (Int.fmod d 4).toNat Str.empty
noncomputable def replyD (kind d : Int) (T : List (Str × Str)) (host : Str) : Str × Dat :=
  if kind = 0 then (R0 d, if hasT T (Str.ofString "\"") = true then .str (Str.ofString "") else .str (Txt.join (Str.ofString "") ((signsS d).map (getT T)))) else
  if kind = 1 then (R1 d, if hasT T (markS d) = true ∨ (markS d = Str.ofString ";" ∧ hasT T (whiteS d) = true) then .int 1 else if hasT T (whiteS d) = true then .int 2 else .tuple [.str host, .int (Int.fdiv d 24)]) else
  if kind = 2 then (R2 d, .int 1) else
  if kind = 3 then (Str.ofString "250 \"a\" (|||1|)", .int 0) else
  (R4 d, .str (Str.ofString ""))
theorem white_len (k : Nat) : (whites.getD k Str.empty).length ≤ 1 := by
  have h : ∀ x ∈ whites, x.length ≤ 1 := by decide +kernel
  rw [List.getD_eq_getElem?_getD]
  cases e : whites[k]? with
  | none => decide +kernel
  | some x => exact h x (List.mem_of_getElem? e)
theorem sign_len (d st : Int) : (signOf d st).length = 1 := rfl
theorem join_signs_len (d : Int) : (Txt.join (Str.ofString "") (signsS d)).length ≤ 3 := by
  have e : Txt.join (Str.ofString "") (signsS d) = Str.join (Str.ofString "") (signsS d) := StrLaws.glued_eq_join _ _
  have h := StrLaws.join_length_le (Str.ofString "") (signsS d)
  have e2 : (Str.ofString "").length = 0 := by decide +kernel
  rw [e]
  rw [e2] at h
  exact h
theorem rep_len (x : Str) : (Txt.replace x (Str.ofString "\"") (Str.ofString "\"\"")).length ≤ 2 * x.length := by
  have h := flatS_step (T := []) (c := 34) (z := Str.ofString "\"\"") x (fun p hp => nomatch hp)
  rw [flatS_nil] at h
  have e : Str.ofString "\"" = (⟨#[34]⟩ : Str) := by decide +kernel
  rw [e, h]
  exact flat_len (by decide) (by decide +kernel) (tl x)
theorem got_len {T : List (Str × Str)} (hT : ∀ p ∈ T, p.2.length ≤ 6) {d : Int} : ∀ n ∈ (((signsS d).map (getT T)).map (·.length)), n ≤ 6 := by
  intro n hn
  obtain ⟨x, hx, rfl⟩ := List.mem_map.mp hn
  obtain ⟨y, hy, rfl⟩ := List.mem_map.mp hx
  have hy1 : y.length = 1 := by
    obtain ⟨st, _, rfl⟩ := List.mem_map.mp hy
    rfl
  unfold getT
  cases e : T.lookup y with
  | none => show y.length ≤ 6; omega
  | some v =>
    have key : ∀ {T : List (Str × Str)}, T.lookup y = some v → ∃ k, (k, v) ∈ T := by
      intro T
      induction T with
      | nil => intro h; cases h
      | cons p q ih =>
        obtain ⟨k, w⟩ := p
        intro h
        by_cases hk : y = k
        · subst hk; simp only [List.lookup, beq_self_eq_true] at h; cases h; exact ⟨_, .head _⟩
        · have hb : (y == k) = false := by simpa using hk
          simp only [List.lookup, hb] at h
          obtain ⟨k', hk'⟩ := ih h
          exact ⟨k', .tail _ hk'⟩
    obtain ⟨k, hk⟩ := key e
    exact hT _ hk
section
variable {kind d : Int} {T : List (Str × Str)} {host : Str}
theorem ff {b : Bool} (h : b = false) : ¬ b = true := by rw [h]; exact Bool.false_ne_true
theorem rep0a (h : kind = 0) (h2 : hasT T (Str.ofString "\"") = true) : replyD kind d T host = (R0 d, .str (Str.ofString "")) := by unfold replyD; rw [if_pos h, if_pos h2]
theorem rep0b (h : kind = 0) (h2 : hasT T (Str.ofString "\"") = false) : replyD kind d T host = (R0 d, .str (Txt.join (Str.ofString "") ((signsS d).map (getT T)))) := by unfold replyD; rw [if_pos h, if_neg (ff h2)]
theorem rep1a (h : kind = 1) (h2 : hasT T (markS d) = true) : replyD kind d T host = (R1 d, .int 1) := by unfold replyD; rw [if_neg (by omega), if_pos h, if_pos (.inl h2)]
theorem rep1b (h : kind = 1) (h3 : (markS d == Str.ofString ";") = true) (h4 : hasT T (whiteS d) = true) : replyD kind d T host = (R1 d, .int 1) := by unfold replyD; rw [if_neg (by omega), if_pos h, if_pos (.inr ⟨eq_of_beq h3, h4⟩)]
theorem rep1c (h : kind = 1) (h2 : hasT T (markS d) = false) (h4 : hasT T (whiteS d) = false) : replyD kind d T host = (R1 d, .tuple [.str host, .int (Int.fdiv d 24)]) := by
  unfold replyD; rw [if_neg (by omega), if_pos h, if_neg (fun q => q.elim (ff h2) fun q => ff h4 q.2), if_neg (ff h4)]
theorem rep1d (h : kind = 1) (h2 : hasT T (markS d) = false) (h3 : (markS d == Str.ofString ";") = false) (h4 : hasT T (whiteS d) = true) : replyD kind d T host = (R1 d, .int 2) := by
  unfold replyD; rw [if_neg (by omega), if_pos h, if_neg (fun q => q.elim (ff h2) fun q => absurd (beq_iff_eq.mpr q.1) (ff h3)), if_pos h4]
theorem rep2 (h : kind = 2) : replyD kind d T host = (R2 d, .int 1) := by unfold replyD; rw [if_neg (by omega), if_neg (by omega), if_pos h]
theorem rep3 (h : kind = 3) : replyD kind d T host = (Str.ofString "250 \"a\" (|||1|)", .int 0) := by unfold replyD; rw [if_neg (by omega), if_neg (by omega), if_neg (by omega), if_pos h]
theorem rep4 (h0 : kind ≠ 0) (h1 : kind ≠ 1) (h2 : kind ≠ 2) (h3 : kind ≠ 3) : replyD kind d T host = (R4 d, .str (Str.ofString "")) := by unfold replyD; rw [if_neg h0, if_neg h1, if_neg h2, if_neg h3]
theorem in_led1 {a : Addr × Obj} {l news : List (Addr × Obj)} (h : ∀ p ∈ news, p ∈ l) : ∀ p ∈ [a] ++ news, p ∈ a :: l := fun p hp => by
  rcases List.mem_cons.mp hp with rfl | hp
  · exact .head _
  · exact .tail _ (h p hp)
theorem rep_post {tl : List (Addr × Obj)} {r : Value} {R : Str} {A : Dat} (e : replyD kind d T host = (R, A)) (h : DatIn tl r (.tuple [.str R, A])) : DatIn tl r (.tuple [.str (replyD kind d T host).1, (replyD kind d T host).2]) := by rw [e]; exact h
end
section
variable {h₀ h' : Heap} {L D D2 : Addr} {m : Str → Option Value} {news led : List (Addr × Obj)} {vs ws : List Value} {n n2 tk' : Nat} {s : Shared} {Q : Value → Shared → Prop} {R : Str} {A : Dat} {P : Value → List (Addr × Obj) → Prop} {d : Dat}
theorem tup_end (ret : ∀ r tl h' tk', Fr h₀ L h' m → News h₀ L h' (tl ++ news) → P r tl → Q r { s with heap := h', toks := tk' }) (F : Fr h₀ L h' m)
    (N : News h₀ L h' ((D, ({ cls := .type "tuple", data := .seq vs.toArray n } : Obj)) :: led)) (hs : ∀ p ∈ news, p ∈ led) (hd : ∀ l, DatAll l vs [.str R, A]) (hP : ∀ tl r, DatIn tl r (.tuple [.str R, A]) → P r tl) : Q (.ref D) { s with heap := h', toks := tk' } :=
  ret _ [(D, _)] _ _ F (news_sub N (in_led1 hs)) (hP _ _ (.tuple (.head _) (hd _)))
theorem tup_end2 (ret : ∀ r tl h' tk', Fr h₀ L h' m → News h₀ L h' (tl ++ news) → P r tl → Q r { s with heap := h', toks := tk' }) (F : Fr h₀ L h' m)
    (N : News h₀ L h' ((D, ({ cls := .type "tuple", data := .seq vs.toArray n } : Obj)) :: (D2, ({ cls := .type "tuple", data := .seq ws.toArray n2 } : Obj)) :: led)) (hs : ∀ p ∈ news, p ∈ led) (ds : List Dat) (hw : ∀ l, DatAll l ws ds) (hd : ∀ l, DatIn l (.ref D2) (.tuple ds) → DatAll l vs [.str R, .tuple ds]) (hP : ∀ tl r, DatIn tl r (.tuple [.str R, .tuple ds]) → P r tl) :
    Q (.ref D) { s with heap := h', toks := tk' } :=
  ret _ [(D, _), (D2, _)] _ _ F (news_sub N (in_led1 (in_led1 hs))) (hP _ _ (.tuple (.head _) (hd _ (.tuple (.tail _ (.head _)) (hw _)))))
end
theorem sign_in {i : Nat} {k : Int} (h : ([1, 6, 36] : List Int)[i]? = some k) : 1 ≤ k ∧ k ≤ 36 := by
  have q := List.mem_of_getElem? h
  simp at q
  omega
theorem cReply (w : World) (news : List (Addr × Obj)) (kind d : Int) (t u : Tok) (tb : Addr) (T : List (Str × Str)) (hT : TabIs w news tb T) (host : Str) (v : Tok) (h0 : 0 ≤ kind) (h1 : kind < 5) (h2 : 0 ≤ d) (h3 : d < 1000000) (hTl : ∀ p ∈ T, p.2.length ≤ 6) :
    Spec w 252 1 100 [.int kind t, .int d u, .ref tb, .str host v] news (fun r tl => DatIn tl r (.tuple [.str (replyD kind d T host).1, (replyD kind d T host).2])) := by
  obtain ⟨o9, kvs, ho9, hd9, lo9, hk9⟩ := hT
  have hm3 : (Txt.mul (Txt.item (Str.ofString "|;\"<&!") (Int.fmod d 6)) 3).length ≤ 3 := len_mul_leN (L := 1) (N := 3) (Nat.le_refl 1) (by decide)
  have hm2 : (Txt.mul (Txt.item (Str.ofString "|;\"<&!") (Int.fmod d 6)) 2).length ≤ 2 := len_mul_leN (L := 1) (N := 2) (Nat.le_refl 1) (by decide)
  have hm1 : (Txt.item (Str.ofString "|;\"<&!") (Int.fmod d 6)).length = 1 := rfl
  have hw1 : (([Str.ofString "", Str.ofString " ", Str.ofString "\t", Str.ofString "\r"] : List Str).getD (Int.fmod (Int.fdiv d 6) 4).toNat Str.empty).length ≤ 1 := white_len (Int.fmod (Int.fdiv d 6) 4).toNat
  have le1 : (Str.ofString "257 \"").length = 5 := by decide +kernel
  have le2 : (Str.ofString "\" made").length = 6 := by decide +kernel
  have le3 : (Str.ofString "229 (").length = 5 := by decide +kernel
  have le4 : (Str.ofString ")").length = 1 := by decide +kernel
  have hp0 : 0 ≤ Int.fdiv d 24 ∧ Int.fdiv d 24 < 10 ^ 6 := by
    rw [Int.fdiv_eq_ediv_of_nonneg d (by decide)]
    omega
  have hp6 : (Str.ofString (toString (Int.fdiv d 24))).length ≤ 6 := toString_length_le hp0.1 (by decide) hp0.2
  have hj3 := join_signs_len d
  have hr6 := rep_len (Txt.join (Str.ofString "") (signsS d))
  have hkOn := HkOn.mk
  revert w news kind d t u tb T host v o9 kvs
  intro w news kind d t u tb T host v h0 h1 h2 h3 hTl o9 kvs ho9 hd9 lo9 hk9 hm3 hm2 hm1 hw1 hp0 hp6 hj3 hr6
  refine spec_ctx ?_
  k_fill
  intro cx B F X N TT hk hdp hun ret
  k_with_none
  k_with "m eval Name" => (k_here; name_kind "local"; k_dflt (refine' ld (by k_asm) ?_ ?_; (first | exact rfl | (rotate_left; exact rfl)); k_whole))
  k_with "m k_mem" => first | with_reducible assumption | (refine' List.mem_append_left _ ?_; k_mem) | (refine' List.mem_append_right _ ?_; k_mem)
  k_with "m ne" => first | assumption | (rename ∀ p ∈ _, _ ≠ Prod.fst p => hh2; k_extra "m ne1") | (refine ne_of_stored (by assumption) ?_; decide +kernel)
  k_with "m ne1" => (rename ∀ p ∈ _, _ ≠ Prod.fst p => hh2; first | (have hh3 := hh2 _ (List.Mem.head _); exact hh3) | (replace hh2 := ne_tail hh2; k_extra "m ne1"))
  k_with "m nes" => first | exact fa0 | (refine faC ?_ ?_; (k_extra "m ne"); (k_extra "m nes"))
  k_with "m same1" => first | (refine kstB_out ?_ (by assumption); k_extra "m nes") | (refine (if_neg ?_).trans ?_; (k_extra "m ne"); (k_extra "m same1"))
  k_with "m same" => (intro z h1 h2 h3; k_extra "m same1")
  k_with "m sameW" => (intro z h2 h3; k_extra "m same1")
  k_with "m k_all" => first | with_reducible assumption | (refine' List.forall_mem_append.mpr ⟨?_, ?_⟩; (k_all); (k_all))
  k_with "hk on" => fail_if_success (fail_if_success (with_reducible rename HkOn => hkOn))
  k_with "hk ne" => first | exact neAround | exact neShared | exact neWorld | exact neDrawn | exact neGen | exact neSCtx | exact neI | exact Nonempty.intro (by constructor <;> first | exact default | (constructor <;> exact default))
  k_with "m execs cons" => (k_extra "hk on"; (try k_made); (with_reducible refine wpAny_execs_cons ?_); try dsimp only)
  k_with "m execs nil" => (k_extra "hk on"; refine wpAny_execs_nil ?_)
  k_with "hk omega" => ((k_extra "hk on"); dsimp +zetaDelta only; first | lia | omega +splitDisjunctions)
  k_with "hk ne" => exact neWsD
  k_with_none
  k_with "m eval Name" => (k_here; name_kind "local"; k_dflt (refine' ld (by k_asm) ?_ ?_; (first | exact rfl | (rotate_left; exact rfl)); k_whole))
  k_with "m k_mem" => first | with_reducible assumption | (refine' List.mem_append_left _ ?_; k_mem) | (refine' List.mem_append_right _ ?_; k_mem)
  k_with "m ne" => first | assumption | (rename ∀ p ∈ _, _ ≠ Prod.fst p => hh2; k_extra "m ne1") | (refine ne_of_stored (by assumption) ?_; decide +kernel)
  k_with "m ne1" => (rename ∀ p ∈ _, _ ≠ Prod.fst p => hh2; first | (have hh3 := hh2 _ (List.Mem.head _); exact hh3) | (replace hh2 := ne_tail hh2; k_extra "m ne1"))
  k_with "m nes" => first | exact fa0 | (refine faC ?_ ?_; (k_extra "m ne"); (k_extra "m nes"))
  k_with "m same1" => first | (refine kstB_out ?_ (by assumption); k_extra "m nes") | (refine (if_neg ?_).trans ?_; (k_extra "m ne"); (k_extra "m same1"))
  k_with "m same" => (intro z h1 h2 h3; k_extra "m same1")
  k_with "m sameW" => (intro z h2 h3; k_extra "m same1")
  k_with "m k_all" => first | with_reducible assumption | (refine' List.forall_mem_append.mpr ⟨?_, ?_⟩; (k_all); (k_all))
  k_with "hk on" => fail_if_success (fail_if_success (with_reducible rename HkOn => hkOn))
  k_with "hk ne" => first | exact neAround | exact neShared | exact neWorld | exact neDrawn | exact neGen | exact neSCtx | exact neI | exact Nonempty.intro (by constructor <;> first | exact default | (constructor <;> exact default))
  k_with "m execs cons" => (k_extra "hk on"; (try k_made); (with_reducible refine wpAny_execs_cons ?_); try dsimp only)
  k_with "m execs nil" => (k_extra "hk on"; refine wpAny_execs_nil ?_)
  k_with "hk omega" => ((k_extra "hk on"); dsimp +zetaDelta only; first | lia | omega +splitDisjunctions)
  k_with "hk ne" => exact neWsD
  k_with "m execs cons" => ((with_reducible refine wpAny_execs_cons ?_); try dsimp only)
  k_with "m execs nil" => (refine wpAny_execs_nil ?_)
  k_with "m exec Assign cons ListComp" => (refine Assign_comp_tup (F₀ := by k_asm) (by rfl) (by with_unfolding_all rfl) (by with_unfolding_all rfl) (by decide) (by rfl) (by decide) (by rfl) (by rfl) (by rfl) ?_)
  k_with "m eval ListComp" => ((with_reducible show wpAny _ _ (eval (Expr.ListComp _ [⟨_, Expr.Name (Str.ofString "signs") _, _, _⟩] _ _) _) _ _ _); refine LCg.ListComp_U (F₀ := by k_asm) (by with_unfolding_all rfl) (by decide) (by rfl) (by decide) (by rfl) ?_)
  k_with "m TupSrc" =>
    rename Fr _ _ _ _ => lF'
    rename News _ _ _ _ => lN'
    first
    | (have hI3 : ∀ {t1 t2 t3 : Tok}, IntsAre [.int 1 t1, .int 6 t2, .int 36 t3] [1, 6, 36] := fun {t1 t2 t3} => .cons _ _ (.cons _ _ (.cons _ _ .nil))
       refine TupSrc.ledger (by rfl) lF' lN' (.head _) (by show 3 ≤ sizeLine; rw [sizeLine_eq]; decide) ?_
       (try dsimp +zetaDelta only)
       intro g
       refine compUE (fun b : Int × Tok => Value.int b.1 b.2) (fun i b => ([1, 6, 36] : List Int)[i]? = some b.1) (fun i ys => StrsAre ys ((([1, 6, 36] : List Int).take i).map (signOf d))) (fun i v hP => let ⟨k, u, e, hk⟩ := ints_item hI3 hP; ⟨(k, u), e, hk⟩) ?_ ?_ .nil
       (try dsimp +zetaDelta only)
       intro i ys b9 I oI C oC D m₂ h tk E' hlt hR hk8 hC hx F' N' off dis
       have hk7 := sign_in hk8
       rotate_left
       (try dsimp +zetaDelta only)
       intro ys hR
       rotate_left)
    | (have hI6 : StrsAre _ (signsS d) := hR
       refine CompSrc.ledger (by rfl) lF' lN' (.head _) (by simp [hI6.length]; exact Nat.le_trans (show (signsS d).length ≤ 3 from Nat.le_refl 3) (by rw [sizeLine_eq]; decide)) ?_
       (try dsimp +zetaDelta only)
       intro g
       refine compUE (fun b : Str × Tok => Value.str b.1 b.2) (fun i b => (signsS d)[i]? = some b.1) (fun i ys' => StrsAre ys' (((signsS d).take i).map (getT T))) (fun i v hP => let ⟨k, u, e, hk⟩ := strs_item hI6 hP; ⟨(k, u), e, hk⟩) ?_ ?_ .nil
       (try dsimp +zetaDelta only)
       intro i ys' b9 I oI C oC D m₂ h tk E' hlt hR' hk8 hC hx F' N' off dis
       rotate_left
       (try dsimp +zetaDelta only)
       intro ys' hR'
       rotate_left)
  k_with "m CompEnd" =>
    rename Fr _ _ _ _ => F6
    rename News _ _ _ _ => N6
    first
    | (refine compEnd_pure F6 N6 (fun p hp => hp) (by assumption) ⟨_, .head _, rfl, _, rfl⟩ ?_
       show StrsAre _ _
       rw [take_map _ hk8]
       exact StrsAre_snoc hR)
    | (refine compEnd_pure F6 N6 (fun p hp => hp) (by assumption) (.inr ⟨_, .head _, rfl, _, rfl⟩) ?_
       show StrsAre _ _
       rw [take_map _ hk8]
       exact StrsAre_snoc hR')
  k_with "m compareOp In str ref" => (refine in_tab (by k_asm) (by repeat (first | exact ho9 | refine List.Mem.tail _ ?_)) hd9 lo9 hk9 ?_)
  k_with "m call builtin:dict.get" =>
    rename News _ _ _ _ => N6
    refine get_tab N6 (by repeat (first | exact ho9 | refine List.Mem.tail _ ?_)) hd9 lo9 hk9 ?_
    intro u8
  k_with "m getMethod ref" =>
    (with_reducible show wpAny _ _ (getMethod (Value.ref tb) _ _) _ _ _)
    rename News _ _ _ _ => N6
    refine kdg_method N6 (by repeat (first | exact ho9 | refine List.Mem.tail _ ?_)) hd9 ?_
  k_with "m subscriptTail" =>
    (with_reducible show wpAny _ _ (subscriptTail _ _ (Value.ref _) _) _ _ _)
    rename News _ _ _ _ => N6
    have hm9 := mod_in (Int.fdiv d 6) (m := 4) (by decide)
    have hm8 := mod_in d (m := 4) (by decide)
    (try dsimp +zetaDelta only at hm9 hm8)
    refine kba_turn (value' := PySem.Expr.Name (PySem.Str.ofString "_") ⟨0, 0, 0, 0⟩) (fun _ => rfl) ?_
    refine item_strs N6 (.head _) (.cons _ _ (.cons _ _ (.cons _ _ (.cons _ _ .nil)))) (by omega) (by show _ < (4 : Int); omega) (by show 4 ≤ 1000; decide) ?_
    intro u'
  k_with "m call builtin:str.join" =>
    rename News _ _ _ _ => N6
    first
    | ((try dsimp +zetaDelta only at hI6 hR')
       have hI7 : StrsAre _ ((signsS d).map (getT T)) := (by have q := hR'; rw [List.take_of_length_le (by simp [StrsAre.length hI6])] at q; exact q)
       refine join_ge N6 (.head _) hI7 (by refine Nat.le_trans (Nat.add_le_add (sum_le (c := 6) ?_) (Nat.le_refl _)) ?_; · exact got_len hTl
                                           · simp [signsS]; decide) ?_)
    | (have hI6 : StrsAre _ (signsS d) := hR
       refine join_ge N6 (.head _) hI6 (by show 1 + (1 + (1 + 0)) + 3 * (Str.ofString "").length ≤ 16777216; decide +kernel) ?_)
    intro t' k' hk'
    (try dsimp only at hk')
  k_with "m call builtin:str.replace" => (refine SC.replaceW (by show @Ne Nat _ _; omega) (by show @Ne Nat _ _; omega) (by show @Ne Nat _ _; omega) (by decide +kernel) (by omega) (by decide +kernel) ?_; intro t' k')
  k_with "m binaryOp Add str str" => (refine SB.add ?_ (by simp only [Str.length_append, sizeLine_eq]; omega); intro t' k')
  refine wpAny_call ?_
  k_dflt (refine' code_defC ?k1 ?k2 ?k3 ?k4 ?k5 ?kA ?kF ?kK ?k6 ?k7 ?k8 ?k9 ?kB ?kD ?_ ?c2 ?c3 ?c4; (case kA => exact rfl); (case kF => exact rfl); (case kK => assumption); (case k1 => k_asm); (case k2 => k_asm); (case k3 => k_asm); (case k4 => k_asm); (case k5 => k_asm); (case k6 => k_is); (case k7 => k_is); (case k8 => ktr_room); (case k9 => exact BindsTo.of_eq rfl); (case kB => exact rfl); (case kD => decide +kernel); (case c2 => exact rfl); (case c3 => exact rfl); (case c4 => exact rfl); k_whole; intro g' L' h' tk'; intros cells' FG' F' N' Y' B' X' T' l1; (try k_lt l1); k_cells Y'; (rename_i oA oB dA dB; revert dA dB; revert N'; revert oA oB; intro oA oB N' dA dB); (try simp only [List.cons_append, List.nil_append] at N'); (try dsimp only); (try k_lift B'); (try k_fold))
  (repeat' (first | (k_unfold; (try dsimp +zetaDelta only)) | (k_end; kc_close) | (walk1; (try dsimp +zetaDelta only)) | (dsimp only; walk1) | (leave1; (try dsimp +zetaDelta only)) | fail "no step"))
  all_goals first
    | exact Str.ofString ""
    | exact Value.none
    | exact (0 : Addr)
    | skip
  all_goals
    rename News cx.h₀ _ _ _ => N5
    rename Fr cx.h₀ _ _ _ => F5
    first
    | (have e9 := rep0a (kind := kind) (d := d) (T := T) (host := host) (by (try dsimp +zetaDelta only); first | with_reducible assumption | assumption) (by (try dsimp +zetaDelta only); first | with_reducible assumption | assumption)
       exact tup_end ret F5 N5 (by first | exact fun p hp => hp | exact fun p hp => .tail _ (hp) | exact fun p hp => .tail _ (.tail _ (hp)) | exact fun p hp => .tail _ (.tail _ (.tail _ (hp))) | exact fun p hp => .tail _ (.tail _ (.tail _ (.tail _ (hp)))) | exact fun p hp => .tail _ (.tail _ (.tail _ (.tail _ (.tail _ (hp))))) | exact fun p hp => .tail _ (.tail _ (.tail _ (.tail _ (.tail _ (.tail _ (hp)))))) | exact fun p hp => .tail _ (.tail _ (.tail _ (.tail _ (.tail _ (.tail _ (.tail _ (hp))))))) | exact fun p hp => .tail _ (.tail _ (.tail _ (.tail _ (.tail _ (.tail _ (.tail _ (.tail _ (hp))))))))) (fun l => .cons (.str _ _) (.cons (.str _ _) .nil)) (fun _ _ q => rep_post e9 q))
    | (have e9 := rep0b (kind := kind) (d := d) (T := T) (host := host) (by (try dsimp +zetaDelta only); first | with_reducible assumption | assumption) (by (try dsimp +zetaDelta only); first | with_reducible assumption | assumption)
       exact tup_end ret F5 N5 (by first | exact fun p hp => hp | exact fun p hp => .tail _ (hp) | exact fun p hp => .tail _ (.tail _ (hp)) | exact fun p hp => .tail _ (.tail _ (.tail _ (hp))) | exact fun p hp => .tail _ (.tail _ (.tail _ (.tail _ (hp)))) | exact fun p hp => .tail _ (.tail _ (.tail _ (.tail _ (.tail _ (hp))))) | exact fun p hp => .tail _ (.tail _ (.tail _ (.tail _ (.tail _ (.tail _ (hp)))))) | exact fun p hp => .tail _ (.tail _ (.tail _ (.tail _ (.tail _ (.tail _ (.tail _ (hp))))))) | exact fun p hp => .tail _ (.tail _ (.tail _ (.tail _ (.tail _ (.tail _ (.tail _ (.tail _ (hp))))))))) (fun l => .cons (.str _ _) (.cons (.str _ _) .nil)) (fun _ _ q => rep_post e9 q))
    | (have e9 := rep1a (kind := kind) (d := d) (T := T) (host := host) (by (try dsimp +zetaDelta only); first | with_reducible assumption | assumption) (by (try dsimp +zetaDelta only); first | with_reducible assumption | assumption)
       exact tup_end ret F5 N5 (by first | exact fun p hp => hp | exact fun p hp => .tail _ (hp) | exact fun p hp => .tail _ (.tail _ (hp)) | exact fun p hp => .tail _ (.tail _ (.tail _ (hp))) | exact fun p hp => .tail _ (.tail _ (.tail _ (.tail _ (hp)))) | exact fun p hp => .tail _ (.tail _ (.tail _ (.tail _ (.tail _ (hp))))) | exact fun p hp => .tail _ (.tail _ (.tail _ (.tail _ (.tail _ (.tail _ (hp)))))) | exact fun p hp => .tail _ (.tail _ (.tail _ (.tail _ (.tail _ (.tail _ (.tail _ (hp))))))) | exact fun p hp => .tail _ (.tail _ (.tail _ (.tail _ (.tail _ (.tail _ (.tail _ (.tail _ (hp))))))))) (fun l => .cons (.str _ _) (.cons (.int _ _) .nil)) (fun _ _ q => rep_post e9 q))
    | (have e9 := rep1b (kind := kind) (d := d) (T := T) (host := host) (by (try dsimp +zetaDelta only); first | with_reducible assumption | assumption) (by (try dsimp +zetaDelta only); first | with_reducible assumption | assumption) (by (try dsimp +zetaDelta only); first | with_reducible assumption | assumption)
       exact tup_end ret F5 N5 (by first | exact fun p hp => hp | exact fun p hp => .tail _ (hp) | exact fun p hp => .tail _ (.tail _ (hp)) | exact fun p hp => .tail _ (.tail _ (.tail _ (hp))) | exact fun p hp => .tail _ (.tail _ (.tail _ (.tail _ (hp)))) | exact fun p hp => .tail _ (.tail _ (.tail _ (.tail _ (.tail _ (hp))))) | exact fun p hp => .tail _ (.tail _ (.tail _ (.tail _ (.tail _ (.tail _ (hp)))))) | exact fun p hp => .tail _ (.tail _ (.tail _ (.tail _ (.tail _ (.tail _ (.tail _ (hp))))))) | exact fun p hp => .tail _ (.tail _ (.tail _ (.tail _ (.tail _ (.tail _ (.tail _ (.tail _ (hp))))))))) (fun l => .cons (.str _ _) (.cons (.int _ _) .nil)) (fun _ _ q => rep_post e9 q))
    | (have e9 := rep1c (kind := kind) (d := d) (T := T) (host := host) (by (try dsimp +zetaDelta only); first | with_reducible assumption | assumption) (by (try dsimp +zetaDelta only); first | with_reducible assumption | assumption) (by (try dsimp +zetaDelta only); first | with_reducible assumption | assumption)
       exact tup_end2 ret F5 N5 (by first | exact fun p hp => hp | exact fun p hp => .tail _ (hp) | exact fun p hp => .tail _ (.tail _ (hp)) | exact fun p hp => .tail _ (.tail _ (.tail _ (hp))) | exact fun p hp => .tail _ (.tail _ (.tail _ (.tail _ (hp)))) | exact fun p hp => .tail _ (.tail _ (.tail _ (.tail _ (.tail _ (hp))))) | exact fun p hp => .tail _ (.tail _ (.tail _ (.tail _ (.tail _ (.tail _ (hp)))))) | exact fun p hp => .tail _ (.tail _ (.tail _ (.tail _ (.tail _ (.tail _ (.tail _ (hp))))))) | exact fun p hp => .tail _ (.tail _ (.tail _ (.tail _ (.tail _ (.tail _ (.tail _ (.tail _ (hp))))))))) _ (fun l => .cons (.str _ _) (.cons (.int _ _) .nil)) (fun l q => .cons (.str _ _) (.cons q .nil)) (fun _ _ q => rep_post e9 q))
    | (have e9 := rep1d (kind := kind) (d := d) (T := T) (host := host) (by (try dsimp +zetaDelta only); first | with_reducible assumption | assumption) (by (try dsimp +zetaDelta only); first | with_reducible assumption | assumption) (by (try dsimp +zetaDelta only); first | with_reducible assumption | assumption) (by (try dsimp +zetaDelta only); first | with_reducible assumption | assumption)
       exact tup_end ret F5 N5 (by first | exact fun p hp => hp | exact fun p hp => .tail _ (hp) | exact fun p hp => .tail _ (.tail _ (hp)) | exact fun p hp => .tail _ (.tail _ (.tail _ (hp))) | exact fun p hp => .tail _ (.tail _ (.tail _ (.tail _ (hp)))) | exact fun p hp => .tail _ (.tail _ (.tail _ (.tail _ (.tail _ (hp))))) | exact fun p hp => .tail _ (.tail _ (.tail _ (.tail _ (.tail _ (.tail _ (hp)))))) | exact fun p hp => .tail _ (.tail _ (.tail _ (.tail _ (.tail _ (.tail _ (.tail _ (hp))))))) | exact fun p hp => .tail _ (.tail _ (.tail _ (.tail _ (.tail _ (.tail _ (.tail _ (.tail _ (hp))))))))) (fun l => .cons (.str _ _) (.cons (.int _ _) .nil)) (fun _ _ q => rep_post e9 q))
    | (have e9 := rep2 (kind := kind) (d := d) (T := T) (host := host) (by (try dsimp +zetaDelta only); first | with_reducible assumption | assumption)
       exact tup_end ret F5 N5 (by first | exact fun p hp => hp | exact fun p hp => .tail _ (hp) | exact fun p hp => .tail _ (.tail _ (hp)) | exact fun p hp => .tail _ (.tail _ (.tail _ (hp))) | exact fun p hp => .tail _ (.tail _ (.tail _ (.tail _ (hp)))) | exact fun p hp => .tail _ (.tail _ (.tail _ (.tail _ (.tail _ (hp))))) | exact fun p hp => .tail _ (.tail _ (.tail _ (.tail _ (.tail _ (.tail _ (hp)))))) | exact fun p hp => .tail _ (.tail _ (.tail _ (.tail _ (.tail _ (.tail _ (.tail _ (hp))))))) | exact fun p hp => .tail _ (.tail _ (.tail _ (.tail _ (.tail _ (.tail _ (.tail _ (.tail _ (hp))))))))) (fun l => .cons (.str _ _) (.cons (.int _ _) .nil)) (fun _ _ q => rep_post e9 q))
    | (have e9 := rep3 (kind := kind) (d := d) (T := T) (host := host) (by (try dsimp +zetaDelta only); first | with_reducible assumption | assumption)
       exact tup_end ret F5 N5 (by first | exact fun p hp => hp | exact fun p hp => .tail _ (hp) | exact fun p hp => .tail _ (.tail _ (hp)) | exact fun p hp => .tail _ (.tail _ (.tail _ (hp))) | exact fun p hp => .tail _ (.tail _ (.tail _ (.tail _ (hp)))) | exact fun p hp => .tail _ (.tail _ (.tail _ (.tail _ (.tail _ (hp))))) | exact fun p hp => .tail _ (.tail _ (.tail _ (.tail _ (.tail _ (.tail _ (hp)))))) | exact fun p hp => .tail _ (.tail _ (.tail _ (.tail _ (.tail _ (.tail _ (.tail _ (hp))))))) | exact fun p hp => .tail _ (.tail _ (.tail _ (.tail _ (.tail _ (.tail _ (.tail _ (.tail _ (hp))))))))) (fun l => .cons (.str _ _) (.cons (.int _ _) .nil)) (fun _ _ q => rep_post e9 q))
    | (have e9 := rep4 (kind := kind) (d := d) (T := T) (host := host) (by (try dsimp +zetaDelta only); first | with_reducible assumption | assumption) (by (try dsimp +zetaDelta only); first | with_reducible assumption | assumption) (by (try dsimp +zetaDelta only); first | with_reducible assumption | assumption) (by (try dsimp +zetaDelta only); first | with_reducible assumption | assumption)
       exact tup_end ret F5 N5 (by first | exact fun p hp => hp | exact fun p hp => .tail _ (hp) | exact fun p hp => .tail _ (.tail _ (hp)) | exact fun p hp => .tail _ (.tail _ (.tail _ (hp))) | exact fun p hp => .tail _ (.tail _ (.tail _ (.tail _ (hp)))) | exact fun p hp => .tail _ (.tail _ (.tail _ (.tail _ (.tail _ (hp))))) | exact fun p hp => .tail _ (.tail _ (.tail _ (.tail _ (.tail _ (.tail _ (hp)))))) | exact fun p hp => .tail _ (.tail _ (.tail _ (.tail _ (.tail _ (.tail _ (.tail _ (hp))))))) | exact fun p hp => .tail _ (.tail _ (.tail _ (.tail _ (.tail _ (.tail _ (.tail _ (.tail _ (hp))))))))) (fun l => .cons (.str _ _) (.cons (.str _ _) .nil)) (fun _ _ q => rep_post e9 q))
    | (rename hasT _ _ = false => z1; rename hasT _ _ = true => z2; exact absurd (z1.symm.trans z2) Bool.false_ne_true)
end Mine
end

-- MD
theorem Mine.setMD : True := by
  k_with "m k_mem" => first | (with_reducible assumption) | exact List.Mem.head _ | ((with_reducible refine' List.mem_append_left _ ?_); k_mem) | ((with_reducible refine' List.mem_append_right _ ?_); k_mem) | ((with_reducible refine' List.Mem.tail _ ?_); (try show (_ : Addr × Obj) ∈ (_ : List (Addr × Obj))); k_mem)
  trivial
namespace Mine
section
variable {prog : Program} {w : World} {A : Around} {E : Value → Shared → Prop} {s : Shared} {env : Env} {h₀ : Heap} {L : Addr} {x : Str}
noncomputable def CutEnd {σ : Type} (h₀ : Heap) (L : Addr) (s : Shared) (own : List (Addr × Obj)) (Led : σ → List (Addr × Obj)) (ps : σ → List (Str × Value)) (x : Str) (stored : List Str) (m₀ : Str → Option Value) (P : σ → Prop) (s' : Shared) : Prop :=
  ∃ h' tk' m' c, s' = { s with heap := h', toks := tk' } ∧ Fr h₀ L h' m' ∧ News h₀ L h' (Led c ++ own) ∧ (∀ p ∈ ps c, m' p.1 = some p.2) ∧ (∀ z, z ≠ x → (∀ p ∈ ps c, z ≠ p.1) → stored.contains z = false → m' z = m₀ z) ∧ P c
theorem cutG {σ : Type} {st : Stmt} {rest : List Stmt} {Q : Flow → Shared → Prop} {own : List (Addr × Obj)} {m₀ : Str → Option Value} (Led : σ → List (Addr × Obj)) (ps : σ → List (Str × Value)) (x : Str) (stored : List Str) (P : σ → Prop)
    (_F : Fr h₀ L s.heap m₀)
    (h1 : wpAny (model prog w) A (exec st env) (fun f s' => match f with | .next => CutEnd h₀ L s own Led ps x stored m₀ P s' | f => Q f s') E s)
    (h2 : ∀ (c : σ) (uu : Str → Option Value) h tk, P c → Fr h₀ L h (fun y => if y = x then uu y else kstB (fun z => if stored.contains z then uu z else m₀ z) (ps c) y) → News h₀ L h (Led c ++ own) → wpAny (model prog w) A (execs rest env) Q E { s with heap := h, toks := tk }) :
    wpAny (model prog w) A (execs (st :: rest) env) Q E s := by
  refine execs_cut _ h1 ?_
  rintro s' ⟨h', tk', m', c, rfl, F', N', hk, hr, hp⟩
  exact h2 c m' h' tk' hp (kst_frOut hk hr F') N'
theorem cutEnd {σ : Type} {own led : List (Addr × Obj)} {Led : σ → List (Addr × Obj)} {ps : σ → List (Str × Value)} {stored : List Str} {m₀ m' : Str → Option Value} {P : σ → Prop} {h' : Heap} {tk : Nat} (c : σ) (F : Fr h₀ L h' m') (N : News h₀ L h' led)
    (hn : ∀ p ∈ Led c, p ∈ led) (ho : ∀ p ∈ own, p ∈ led) (hk : ∀ p ∈ ps c, m' p.1 = some p.2) (hr : ∀ z, z ≠ x → (∀ p ∈ ps c, z ≠ p.1) → stored.contains z = false → m' z = m₀ z) (hp : P c) :
    CutEnd h₀ L s own Led ps x stored m₀ P { s with heap := h', toks := tk } :=
  ⟨h', tk, m', c, rfl, F, fun p h => (List.mem_append.mp h).elim (fun q => N p (hn p q)) fun q => N p (ho p q), hk, hr, hp⟩
end
section
variable {prog : Program} {w : World} {A : Around} {E : Value → Shared → Prop} {H : Heap} {gs : Array GenState} {dr : Drawn} {tk : Nat} {os : OsState} {h₀ : Heap} {L l : Addr} {m : Str → Option Value} {news : List (Addr × Obj)} {value slice : PySem.Expr} {vs : List Value} {n : Nat} {ns ms : List Int} {vl vu : Value} {lo hi : Option Int} {Q : Value → Shared → Prop}
theorem slc (F : Fr h₀ L H m) (N : News h₀ L H news) (hm : (l, W.listOf vs.toArray n) ∈ news) (hi' : IntsAre vs ns) (hsz : ns.length ≤ 1000) (pl : IsPart vl lo) (pu : IsPart vu hi) (hk : IntsAre (slicePick vs.toArray lo hi none).toList ms)
    (h : ∀ D ws h', Fr h₀ L h' m → News h₀ L h' ((D, W.listOf (List.toArray ws) 0) :: news) → (∀ p ∈ news, p.1 < D) → IntsAre ws ms → Q (.ref D) ⟨h', gs, dr, tk, os⟩)
    (hs : subscripted slice false (.ref l) (.ref H.objs.size) = operate [.ref H.objs.size, .ref l] (getItem (.ref l) (.ref H.objs.size)) := by with_unfolding_all rfl) (ht : ∀ r, letTemporaryGo value (.ref l) r = pure () := by intro _; with_unfolding_all rfl) :
    wpAny (model prog w) A (subscriptTail value slice (.ref l) (.ref H.objs.size)) Q E ⟨H.push { cls := .type "slice", data := .fields #[vl, vu, .none] }, gs, dr, tk, os⟩ :=
  kmk_slice_ints (s := ⟨H, gs, dr, tk, os⟩) F N (News.isList N hm) pl pu hi' hk rfl (fun D ws h' F' N' l1 hI _ _ => h D ws h' F' N' l1 hI) hs ht (by rw [List.size_toArray, hi'.length, sizeLine_eq]; exact Nat.le_trans hsz (by decide))
end
theorem DatAll.at {news : List (Addr × Obj)} {vs : List Value} {ds : List Dat} (h : DatAll news vs ds) {k : Nat} {d : Dat} (hk : ds[k]? = some d) : ∃ v, vs[k]? = some v ∧ DatIn news v d := by
  have hl : k < ds.length := by
    rcases Nat.lt_or_ge k ds.length with q | q
    · exact q
    · rw [List.getElem?_eq_none q] at hk; cases hk
  obtain ⟨v, h1, h2⟩ := DatAll.get h hl
  rw [List.getElem?_eq_getElem hl] at hk
  exact ⟨v, h1, Option.some.inj hk ▸ h2⟩
theorem DatAll.take {news : List (Addr × Obj)} {vs : List Value} {ds : List Dat} (h : DatAll news vs ds) (k : Nat) : DatAll news (vs.take k) (ds.take k) := by
  induction vs generalizing ds k with
  | nil => cases h; simp; exact .nil
  | cons v vs ih =>
    cases h with
    | cons h r =>
      cases k with
      | zero => exact .nil
      | succ k => exact .cons h (ih r k)
noncomputable abbrev dInts (l : List Int) : Dat := .list (l.map .int)
theorem ints_of {news : List (Addr × Obj)} {v : Value} {l : List Int} (h : DatIn news v (dInts l)) : ∃ a vs n, v = .ref a ∧ (a, PySem.W.listOf vs.toArray n) ∈ news ∧ IntsAre vs l := by
  cases h with
  | list hm r =>
    refine ⟨_, _, _, rfl, hm, ?_⟩
    rename_i vs n
    clear hm
    induction l generalizing vs with
    | nil => cases r; exact .nil
    | cons k l ih =>
      cases r with
      | cons h r =>
        cases h with
        | int i t => exact .cons _ _ (ih r)
end Mine

-- MDr
namespace Mine
structure DSt where
  pile : List (List Int)
  lines : List Str
  due : List Dat
  host : Str
noncomputable def units : List (List Int) := [[1], [0, 0], [2], [1, 0], [0, 1], [0, 2, 0]]
noncomputable def topOf (pile : List (List Int)) : List Int := pile.getLastD []
noncomputable def closedOf (top : List Int) : List Int := top.take (top.length - 1)
noncomputable def lastOf (top : List Int) : List Int := top.drop (top.length - 1)
noncomputable def runsOf (kd tn : Int) (pile : List (List Int)) : List Int × List (List Int) × Str :=
  let top := topOf pile
  let cl := closedOf top
  let at' := (Int.fmod tn (cl.length : Int)).toNat
  if kd = 0 then (cl.drop at' ++ cl.take at' ++ lastOf top, pile, Str.ofString "")
  else if kd = 1 then (cl ++ [top.getD (top.length - 1) 0 + (units.getD tn.toNat []).getD 0 0] ++ (units.getD tn.toNat []).drop 1, pile ++ [cl ++ [top.getD (top.length - 1) 0 + (units.getD tn.toNat []).getD 0 0] ++ (units.getD tn.toNat []).drop 1], Str.ofString "")
  else if kd = 2 then (topOf (pile.take (1 + Int.fmod tn (pile.length : Int)).toNat), pile.take (1 + Int.fmod tn (pile.length : Int)).toNat, Str.ofString "")
  else if at' = 0 then (cl.take at' ++ [cl.getD at' 0 + 1] ++ cl.drop (at' + 1) ++ lastOf top, pile, wordsS 0 (cl.getD at' 0 + 1))
  else ([top.getD 0 0 - 1] ++ (cl.take at' ++ [cl.getD at' 0 + 1] ++ cl.drop (at' + 1) ++ lastOf top).drop 1, pile, wordsS (top.getD 0 0) (cl.getD at' 0 + 1))
noncomputable def lineOf (hand : Int) (rs : List Int) (R : Str) : Str := leadS rs ++ flatS (spOf hand) R
noncomputable def hostOf (host : Str) : Dat → Str
  | .str x => x
  | _ => host
noncomputable def dTurn (cs : List Int) (hand : Int) (k : Nat) (st : DSt) : DSt × Bool :=
  let cell := cs.getD k 0
  let q := runsOf (Int.fmod cell 4) (Int.fmod (Int.fdiv cell 4) 6) st.pile
  let r := replyD (Int.fmod (Int.fdiv cell 24) 5) (Int.fdiv cell 120) (tabOf hand) st.host
  let line := lineOf hand q.1 r.1
  if q.2.2 = Str.ofString "" then (⟨q.2.1, st.lines ++ [line], st.due ++ [.tuple [.int q.2.1.length, r.2]], hostOf st.host r.2⟩, false)
  else (⟨q.2.1, st.lines ++ [line], st.due ++ [.tuple [.int ((k : Int) + 2), .str q.2.2, .str line]], st.host⟩, true)
noncomputable def dLoop (f : Nat → DSt → DSt × Bool) : Nat → Nat → DSt → DSt
  | 0, _, st => st
  | n + 1, k, st => if (f k st).2 = true then (f k st).1 else dLoop f n (k + 1) (f k st).1
structure RunOk (i : Nat) (r : List Int) : Prop where
  lo : 3 ≤ r.length
  hi : r.length ≤ 3 + 2 * i
  val : ∀ x ∈ r, 0 ≤ x ∧ x ≤ 4 + 2 * (i : Int)
  one : 1 ≤ r.getD 0 0
structure PileOk (i : Nat) (p : List (List Int)) : Prop where
  ne : p ≠ []
  len : p.length ≤ 1 + i
  runs : ∀ r ∈ p, RunOk i r
theorem RunOk.mono {i j : Nat} {r : List Int} (h : RunOk i r) (hij : i ≤ j) : RunOk j r := ⟨h.lo, Nat.le_trans h.hi (by omega), fun x hx => by have := h.val x hx; omega, h.one⟩
theorem getLastD_mem {α : Type} {l : List α} (h : l ≠ []) (d : α) : l.getLastD d ∈ l := by
  cases l with
  | nil => exact absurd rfl h
  | cons a r =>
    show (a :: r).getLast _ ∈ _
    exact List.getLast_mem _
theorem PileOk.top {i : Nat} {p : List (List Int)} (h : PileOk i p) : RunOk i (topOf p) := h.runs _ (getLastD_mem h.ne _)
theorem mem_take {α : Type} {l : List α} {n : Nat} {x : α} (h : x ∈ l.take n) : x ∈ l := List.take_subset n l h
theorem mem_drop {α : Type} {l : List α} {n : Nat} {x : α} (h : x ∈ l.drop n) : x ∈ l := List.drop_subset n l h
structure DH where
  pA : Addr
  pvs : List Value
  pk : Nat
  lvs : List Value
  lk : Nat
  dvs : List Value
  dk : Nat
  tl : List (Addr × Obj)
  st : DSt
  th : Tok
noncomputable abbrev dLed (dA lA : Addr) (cst : List (Addr × Obj)) (c : DH) : List (Addr × Obj) := (dA, W.listOf c.dvs.toArray c.dk) :: (lA, W.listOf c.lvs.toArray c.lk) :: (c.pA, W.listOf c.pvs.toArray c.pk) :: (c.tl ++ cst)
structure Aside (dA lA pA : Addr) (led : List (Addr × Obj)) : Prop where
  d : ∀ p ∈ led, p.1 ≠ dA
  l : ∀ p ∈ led, p.1 ≠ lA
  p : ∀ p ∈ led, p.1 ≠ pA
structure DInv (cs : List Int) (hand : Int) (st0 : DSt) (dA lA : Addr) (cst : List (Addr × Obj)) (i : Nat) (c : DH) : Prop where
  pile : DatAll (c.tl ++ cst) c.pvs (c.st.pile.map dInts)
  lines : StrsAre c.lvs c.st.lines
  due : DatAll (c.tl ++ cst) c.dvs c.st.due
  n1 : @Ne Nat dA lA
  n2 : @Ne Nat dA c.pA
  n3 : @Ne Nat lA c.pA
  a1 : Aside dA lA c.pA c.tl
  a2 : Aside dA lA c.pA cst
  ok : PileOk i c.st.pile
  ll : c.st.lines.length = 1 + i
  dl : c.st.due.length = 1 + i
  run : dLoop (dTurn cs hand) (5 - i) i c.st = dLoop (dTurn cs hand) 5 0 st0
noncomputable abbrev dPs (c : DH) : List (Str × Value) := [(Str.ofString "pile", .ref c.pA), (Str.ofString "host", .str c.st.host c.th)]
noncomputable abbrev dStored : List Str := [Str.ofString "cell", Str.ofString "turn", Str.ofString "top", Str.ofString "closed", Str.ofString "words", Str.ofString "at", Str.ofString "runs", Str.ofString "unit", Str.ofString "reply", Str.ofString "answer"]
section
variable {prog : Program} {w : World} {A : Around} {E : Value → Shared → Prop} {s : Shared} {env : Env} {h₀ : Heap} {y : Str} {body : List Stmt} {Q : Flow → Shared → Prop}
theorem drawnR {cs : List Int} {hand : Int} {st0 : DSt} {dA tA lA pA rA : Addr} {tO rO : Obj} {v0 v1 v2 : Value} {k0 k1 k2 : Nat} {cst0 : List (Addr × Obj)} {th : Tok} {r : Addr} {t₀ u₀ v₀ : Tok} {m₀ : Str → Option Value}
    (hh : A.handled = none) (hr : IsRange s.heap r 0 5 1 t₀ u₀ v₀) (F : Fr h₀ env.locals s.heap m₀)
    (N : News h₀ env.locals s.heap ((dA, W.listOf #[v2] k2) :: (tA, tO) :: (lA, W.listOf #[v1] k1) :: (pA, W.listOf #[v0] k0) :: (rA, rO) :: cst0))
    (o1 : AllLt dA ((tA, tO) :: (lA, W.listOf #[v1] k1) :: (pA, W.listOf #[v0] k0) :: (rA, rO) :: cst0)) (o2 : AllLt tA ((lA, W.listOf #[v1] k1) :: (pA, W.listOf #[v0] k0) :: (rA, rO) :: cst0)) (o3 : AllLt lA ((pA, W.listOf #[v0] k0) :: (rA, rO) :: cst0)) (o4 : AllLt pA ((rA, rO) :: cst0))
    (hm1 : m₀ (Str.ofString "pile") = some (.ref pA)) (hm2 : m₀ (Str.ofString "host") = some (.str st0.host th))
    (hp : DatAll ((tA, tO) :: (rA, rO) :: cst0) [v0] (st0.pile.map dInts)) (hl : StrsAre [v1] st0.lines) (hd : DatAll ((tA, tO) :: (rA, rO) :: cst0) [v2] st0.due) (hok : PileOk 0 st0.pile) (hll : st0.lines.length = 1) (hdl : st0.due.length = 1)
    (turn : ∀ (i : Nat) (c : DH) t (uu : Str → Option Value) h tk own, i < 5 → OwnOff own ((dLed dA lA ((tA, tO) :: (rA, rO) :: cst0) c).map (·.1)) → DInv cs hand st0 dA lA ((tA, tO) :: (rA, rO) :: cst0) i c →
      Fr h₀ env.locals h (fun z => if z = y then some (.int (0 + (i : Int)) t) else kstB (fun z => if dStored.contains z then uu z else m₀ z) (dPs c) z) →
      News h₀ env.locals h ((dA, W.listOf c.dvs.toArray c.dk) :: (lA, W.listOf c.lvs.toArray c.lk) :: (c.pA, W.listOf c.pvs.toArray c.pk) :: (c.tl ++ (((tA, tO) :: (rA, rO) :: cst0) ++ own))) →
      wpAny (model prog w) A (execs body env) (InvPostG h₀ env.locals (MS (dLed dA lA ((tA, tO) :: (rA, rO) :: cst0)) dPs y dStored m₀ (DInv cs hand st0 dA lA ((tA, tO) :: (rA, rO) :: cst0) (i + 1))) own { s with heap := h, toks := tk } Q) E { s with heap := h, toks := tk })
    (done : ∀ (c : DH) (uu : Str → Option Value) h tk, DInv cs hand st0 dA lA ((tA, tO) :: (rA, rO) :: cst0) 5 c → Fr h₀ env.locals h (fun z => if z = y then uu z else kstB (fun z => if dStored.contains z then uu z else m₀ z) (dPs c) z) → News h₀ env.locals h (dLed dA lA ((tA, tO) :: (rA, rO) :: cst0) c) → Q .next { s with heap := h, toks := tk }) :
    wpAny (model prog w) A (pyIter (.ref r)) (fun it s₂ => LoopAtV prog w A h₀ env y body Q E it s₂) E s := by
  refine rngG (dLed dA lA ((tA, tO) :: (rA, rO) :: cst0)) dPs dStored (DInv cs hand st0 dA lA ((tA, tO) :: (rA, rO) :: cst0)) hh hr (by decide +kernel) (n := 5) (by decide +kernel) F ?_ ?_ done
  · have q1 := fun p hp => Nat.ne_of_lt (allLt_in o1 p hp)
    have q2 := fun p hp => Nat.ne_of_lt (allLt_in o2 p hp)
    have q3 := fun p hp => Nat.ne_of_lt (allLt_in o3 p hp)
    have q4 := fun p hp => Nat.ne_of_lt (allLt_in o4 p hp)
    refine ⟨⟨pA, [v0], k0, [v1], k1, [v2], k2, [], st0, th⟩, ?_, faC hm1 (fa1 hm2), ⟨hp, hl, hd, ?_, ?_, ?_, ⟨fa0, fa0, fa0⟩, ⟨?_, ?_, ?_⟩, hok, hll, hdl, rfl⟩⟩
    · refine news_sub N fun p hp => ?_
      simp only [dLed, List.nil_append, List.mem_cons] at hp ⊢
      rcases hp with h | h | h | h | h | h <;> simp [h]
    · exact Ne.symm (q1 (lA, _) (.tail _ (.head _)))
    · exact Ne.symm (q1 (pA, _) (.tail _ (.tail _ (.head _))))
    · exact Ne.symm (q3 (pA, _) (.head _))
    · intro p hp
      rcases List.mem_cons.mp hp with rfl | hp
      · exact q1 _ (.head _)
      · exact q1 _ (.tail _ (.tail _ (.tail _ hp)))
    · intro p hp
      rcases List.mem_cons.mp hp with rfl | hp
      · exact Ne.symm (q2 (lA, _) (.head _))
      · exact q3 _ (.tail _ hp)
    · intro p hp
      rcases List.mem_cons.mp hp with rfl | hp
      · exact Ne.symm (q2 (pA, _) (.tail _ (.head _)))
      · exact q4 _ hp
  · rintro i c t uu h tk own hi hoff hp F' N'
    exact turn i c t uu h tk own hi hoff hp F' (by simpa only [dLed, List.cons_append, List.append_assoc] using N')
end
end Mine

-- MDs
namespace Mine
section
variable {prog : Program} {w : World} {A : Around} {E : Value → Shared → Prop} {s : Shared} {h₀ : Heap} {L : Addr} {led led0 : List (Addr × Obj)}
theorem item_m1 {Q : Value → Shared → Prop} {value slice : Expr} {l : Addr} {vs : List Value} {n : Nat} {ds : List Dat} {d : Dat} {u : Tok} (N : News h₀ L s.heap led) (hm : (l, W.listOf vs.toArray n) ∈ led) (hd : DatAll led0 vs (ds ++ [d]))
    (h : ∀ v, DatIn led0 v d → Q v s)
    (hs : subscripted slice false (.ref l) (.int (-1) u) = operate [.ref l, .int (-1) u] (getItem (.ref l) (.int (-1) u)) := by with_unfolding_all rfl) (hg : ∀ r, letTemporaryGo value (.ref l) r = pure () := by intro _; with_unfolding_all rfl) :
    wpAny (model prog w) A (subscriptTail value slice (.ref l) (.int (-1) u)) Q E s := by
  obtain ⟨vi, v, rfl⟩ : ∃ vi v, vs = vi ++ [v] := by
    rcases List.eq_nil_or_concat vs with rfl | ⟨vi, v, e⟩
    · have := DatAll.length hd; simp at this
    · exact ⟨vi, v, by rw [e, List.concat_eq_append]⟩
  obtain ⟨es, d', e, _, hv⟩ := DatAll.snoc hd
  obtain ⟨_, e2⟩ := List.append_inj' e rfl
  obtain rfl : d = d' := by injection e2
  exact item_last (News.isList N hm) (h v hv) hs hg
theorem item_int1 {Q : Value → Shared → Prop} {value slice : Expr} {l : Addr} {vs : List Value} {n : Nat} {ns : List Int} {u : Tok} (N : News h₀ L s.heap led) (hm : (l, W.listOf vs.toArray n) ∈ led) (hi : IntsAre vs ns) (hne : 1 ≤ ns.length)
    (h : ∀ u', Q (.int (ns.getD (ns.length - 1) 0) u') s)
    (hs : subscripted slice false (.ref l) (.int (-1) u) = operate [.ref l, .int (-1) u] (getItem (.ref l) (.int (-1) u)) := by with_unfolding_all rfl) (hg : ∀ r, letTemporaryGo value (.ref l) r = pure () := by intro _; with_unfolding_all rfl) :
    wpAny (model prog w) A (subscriptTail value slice (.ref l) (.int (-1) u)) Q E s := by
  obtain ⟨ni, k, e⟩ : ∃ ni k, ns = ni ++ [k] := by
    rcases List.eq_nil_or_concat ns with rfl | ⟨ni, k, e⟩
    · simp at hne
    · exact ⟨ni, k, by rw [e, List.concat_eq_append]⟩
  have ek : ns.getD (ns.length - 1) 0 = k := by rw [e]; simp
  rw [ek] at h
  have hd : DatAll ([] : List (Addr × Obj)) vs (ni.map Dat.int ++ [Dat.int k]) := by
    have := ints_dat (news := []) hi
    rw [e] at this
    simpa using this
  refine item_m1 N hm hd (fun v hv => ?_) hs hg
  cases hv with
  | int i t => exact h t
theorem item_datS {Q : Value → Shared → Prop} {value slice : Expr} {l : Addr} {vs : List Value} {n : Nat} {d : Dat} {k : Int} {u : Tok} (ds : List Dat) (N : News h₀ L s.heap led) (hm : (l, W.listOf vs.toArray n) ∈ led) (hd : DatAll led vs ds) (h0 : 0 ≤ k) (h1 : k < 1000) (hk : ds[k.toNat]? = some d)
    (h : ∀ v, DatIn led v d → Q v s)
    (hs : subscripted slice false (.ref l) (.int k u) = operate [.ref l, .int k u] (getItem (.ref l) (.int k u)) := by with_unfolding_all rfl) (hg : ∀ r, letTemporaryGo value (.ref l) r = pure () := by intro _; with_unfolding_all rfl) :
    wpAny (model prog w) A (subscriptTail value slice (.ref l) (.int k u)) Q E s := by
  obtain ⟨v, h2, h3⟩ := DatAll.at hd hk
  exact item_list (News.isList N hm) h0 (by omega) (by rw [List.getElem?_toArray]; exact h2) (h v h3) hs hg
theorem item_i {Q : Value → Shared → Prop} {value slice : Expr} {l : Addr} {vs : List Value} {n : Nat} {ns : List Int} {k : Int} {u : Tok} (N : News h₀ L s.heap led) (hm : (l, W.listOf vs.toArray n) ∈ led) (hi : IntsAre vs ns) (h0 : 0 ≤ k) (h1 : k < ns.length) (hsz : ns.length ≤ 1000)
    (h : ∀ u', Q (.int (ns.getD k.toNat 0) u') s)
    (hs : subscripted slice false (.ref l) (.int k u) = operate [.ref l, .int k u] (getItem (.ref l) (.int k u)) := by with_unfolding_all rfl) (hg : ∀ r, letTemporaryGo value (.ref l) r = pure () := by intro _; with_unfolding_all rfl) :
    wpAny (model prog w) A (subscriptTail value slice (.ref l) (.int k u)) Q E s := by
  have hk : k.toNat < ns.length := by omega
  obtain ⟨u', hu⟩ := hi.get k.toNat ns[k.toNat] (List.getElem?_eq_getElem hk)
  have e : ns[k.toNat] = ns.getD k.toNat 0 := by simp [List.getD_eq_getElem?_getD, hk]
  rw [e] at hu
  exact item_list (News.isList N hm) h0 (by omega) (by rw [List.getElem?_toArray]; exact hu) (h u') hs hg
theorem add_i {Q : Value → Shared → Prop} {m : Str → Option Value} {a b : Addr} {vs ws : List Value} {n k : Nat} {ns ms : List Int} (F : Fr h₀ L s.heap m) (N : News h₀ L s.heap led) (ha : (a, W.listOf vs.toArray n) ∈ led) (hb : (b, W.listOf ws.toArray k) ∈ led) (hi : IntsAre vs ns) (hj : IntsAre ws ms) (hz : ns.length + ms.length ≤ 1000)
    (h : ∀ D zs h', Fr h₀ L h' m → News h₀ L h' ((D, W.listOf (List.toArray zs) 0) :: led) → (∀ p ∈ led, p.1 < D) → IntsAre zs (ns ++ ms) → Q (.ref D) { s with heap := h' }) : wpAny (model prog w) A (binaryOp .Add (.ref a) (.ref b)) Q E s :=
  kmk_add_ints F N (News.isList N ha) (News.isList N hb) hi hj (fun D zs h' F' N' l1 hI => h D zs h' F' N' l1 hI) (Nat.le_trans hz (by rw [sizeLine_eq]; decide))
theorem item_dat {Q : Value → Shared → Prop} {value slice : Expr} {l : Addr} {vs : List Value} {n : Nat} {ds : List Dat} {d : Dat} {k : Int} {u : Tok} (N : News h₀ L s.heap led) (hm : (l, W.listOf vs.toArray n) ∈ led) (hd : DatAll led0 vs ds) (h0 : 0 ≤ k) (h1 : k < 1000) (hk : ds[k.toNat]? = some d)
    (h : ∀ v, DatIn led0 v d → Q v s)
    (hs : subscripted slice false (.ref l) (.int k u) = operate [.ref l, .int k u] (getItem (.ref l) (.int k u)) := by with_unfolding_all rfl) (hg : ∀ r, letTemporaryGo value (.ref l) r = pure () := by intro _; with_unfolding_all rfl) :
    wpAny (model prog w) A (subscriptTail value slice (.ref l) (.int k u)) Q E s := by
  obtain ⟨v, h2, h3⟩ := DatAll.at hd hk
  exact item_list (News.isList N hm) h0 (by omega) (by rw [List.getElem?_toArray]; exact h2) (h v h3) hs hg
end
section
variable {prog : Program} {w : World} {A : Around} {E : Value → Shared → Prop} {H : Heap} {gs : Array GenState} {dr : Drawn} {tk : Nat} {os : OsState} {h₀ : Heap} {L l : Addr} {m : Str → Option Value} {news : List (Addr × Obj)} {value slice : PySem.Expr} {vs : List Value} {n : Nat} {vu : Value} {y : Int} {Q : Value → Shared → Prop}
theorem slc_upto (F : Fr h₀ L H m) (N : News h₀ L H news) (hm : (l, W.listOf vs.toArray n) ∈ news) (hsz : vs.length ≤ 1000) (pu : IsPart vu (some y)) (hy : 0 ≤ y)
    (h : ∀ D h', Fr h₀ L h' m → News h₀ L h' ((D, W.listOf (vs.take y.toNat).toArray 0) :: news) → (∀ p ∈ news, p.1 < D) → Q (.ref D) ⟨h', gs, dr, tk, os⟩)
    (hs : subscripted slice false (.ref l) (.ref H.objs.size) = operate [.ref H.objs.size, .ref l] (getItem (.ref l) (.ref H.objs.size)) := by with_unfolding_all rfl) (ht : ∀ r, letTemporaryGo value (.ref l) r = pure () := by intro _; with_unfolding_all rfl) :
    wpAny (model prog w) A (subscriptTail value slice (.ref l) (.ref H.objs.size)) Q E ⟨H.push { cls := .type "slice", data := .fields #[.none, vu, .none] }, gs, dr, tk, os⟩ := by
  have e : slicePick vs.toArray none (some y) none = (vs.take y.toNat).toArray := by
    have e1 : sliceBounds none (some y) none vs.toArray.size = (((0 : Nat) : Int), ((min y.toNat vs.toArray.size : Nat) : Int), 1) := by
      simp only [sliceBounds, Option.getD_none, show (1 : Int) > 0 by decide, if_true, if_neg (show ¬ (y < 0) by omega)]
      congr 1
      congr 1
      omega
    rw [kmk_pick_nat _ e1]
    show ((vs.drop 0).take (min y.toNat vs.toArray.size - 0)).toArray = _
    rw [List.drop_zero, Nat.sub_zero, List.size_toArray, kmk_take_min]
  refine kmk_slice (s := ⟨H, gs, dr, tk, os⟩) F N (News.isList N hm) .none pu (fun D h' F' N' l1 => h D h' F' ?_ l1) hs ht (by rw [List.size_toArray, sizeLine_eq]; exact Nat.le_trans hsz (by decide))
  rw [e] at N'
  exact N'
end
theorem pile_split {p : List (List Int)} (h : p ≠ []) : p.map dInts = p.dropLast.map dInts ++ [dInts (topOf p)] := by
  have e : p = p.dropLast ++ [topOf p] := by
    unfold topOf
    rw [List.getLastD_eq_getLast?, List.getLast?_eq_getLast h]
    simp [List.dropLast_concat_getLast h]
  conv => lhs; rw [e]
  simp
section
variable {kd tn : Int} {pile : List (List Int)}
theorem runs_0 (h : kd = 0) : runsOf kd tn pile = ((closedOf (topOf pile)).drop (Int.fmod tn ((closedOf (topOf pile)).length : Int)).toNat ++ (closedOf (topOf pile)).take (Int.fmod tn ((closedOf (topOf pile)).length : Int)).toNat ++ lastOf (topOf pile), pile, Str.ofString "") := by
  unfold runsOf; simp only [if_pos h]
theorem runs_1 (h : kd = 1) : runsOf kd tn pile = (closedOf (topOf pile) ++ [(topOf pile).getD ((topOf pile).length - 1) 0 + (units.getD tn.toNat []).getD 0 0] ++ (units.getD tn.toNat []).drop 1, pile ++ [closedOf (topOf pile) ++ [(topOf pile).getD ((topOf pile).length - 1) 0 + (units.getD tn.toNat []).getD 0 0] ++ (units.getD tn.toNat []).drop 1], Str.ofString "") := by
  unfold runsOf; simp only [if_neg (show ¬ kd = 0 by omega), if_pos h]
theorem runs_2 (h : kd = 2) : runsOf kd tn pile = (topOf (pile.take (1 + Int.fmod tn (pile.length : Int)).toNat), pile.take (1 + Int.fmod tn (pile.length : Int)).toNat, Str.ofString "") := by
  unfold runsOf; simp only [if_neg (show ¬ kd = 0 by omega), if_neg (show ¬ kd = 1 by omega), if_pos h]
end
theorem sub_led {dA lA : Addr} {cst own led : List (Addr × Obj)} {c : DH} (h : ∀ p ∈ (dA, W.listOf c.dvs.toArray c.dk) :: (lA, W.listOf c.lvs.toArray c.lk) :: (c.pA, W.listOf c.pvs.toArray c.pk) :: (c.tl ++ (cst ++ own)), p ∈ led) : (∀ p ∈ dLed dA lA cst c, p ∈ led) ∧ (∀ p ∈ own, p ∈ led) := by
  refine ⟨fun p hp => h p ?_, fun p hp => h p (.tail _ (.tail _ (.tail _ (List.mem_append_right _ (List.mem_append_right _ hp)))))⟩
  simp only [dLed, List.mem_cons, List.mem_append] at hp ⊢
  rcases hp with h | h | h | h | h <;> simp [h]
structure CH where
  rA : Addr
  rvs : List Value
  rk : Nat
  pA : Addr
  pvs : List Value
  pk : Nat
  tl : List (Addr × Obj)
  rs : List Int
  pl : List (List Int)
  wd : Str
  wt : Tok
noncomputable abbrev cLed (c : DH) (dA lA : Addr) (cst : List (Addr × Obj)) (c1 : CH) : List (Addr × Obj) := (dA, W.listOf c.dvs.toArray c.dk) :: (lA, W.listOf c.lvs.toArray c.lk) :: (c1.pA, W.listOf c1.pvs.toArray c1.pk) :: (c1.tl ++ cst)
noncomputable abbrev cPs (c1 : CH) : List (Str × Value) := [(Str.ofString "runs", .ref c1.rA), (Str.ofString "words", .str c1.wd c1.wt), (Str.ofString "pile", .ref c1.pA)]
structure CP (c : DH) (dA lA : Addr) (cst own : List (Addr × Obj)) (kd tn : Int) (c1 : CH) : Prop where
  eq : runsOf kd tn c.st.pile = (c1.rs, c1.pl, c1.wd)
  pile : DatAll (c1.tl ++ cst) c1.pvs (c1.pl.map dInts)
  due : DatAll (c1.tl ++ cst) c.dvs c.st.due
  rin : (c1.rA, W.listOf c1.rvs.toArray c1.rk) ∈ c1.tl ++ cst
  rI : IntsAre c1.rvs c1.rs
  n2 : @Ne Nat dA c1.pA
  n3 : @Ne Nat lA c1.pA
  a1 : Aside dA lA c1.pA c1.tl
  a2 : Aside dA lA c1.pA cst
  off : OwnOff own ((cLed c dA lA cst c1).map (·.1))
section
variable {prog : Program} {w : World} {A : Around} {E : Value → Shared → Prop} {s : Shared} {env : Env} {h₀ : Heap} {L dA lA : Addr} {c : DH} {cst own led : List (Addr × Obj)} {m₀ m' : Str → Option Value} {kd tn : Int}
theorem cutChain {clA : Addr} {clO : Obj} {st : Stmt} {rest : List Stmt} {Q : Flow → Shared → Prop} (kd tn : Int) (F : Fr h₀ L s.heap m₀)
    (_N : News h₀ L s.heap ((clA, clO) :: (dA, W.listOf c.dvs.toArray c.dk) :: (lA, W.listOf c.lvs.toArray c.lk) :: (c.pA, W.listOf c.pvs.toArray c.pk) :: (c.tl ++ (cst ++ own))))
    (h1 : wpAny (model prog w) A (exec st env) (fun f s' => match f with | .next => CutEnd h₀ L s own (cLed c dA lA cst) cPs (Str.ofString "unit") [Str.ofString "at"] m₀ (CP c dA lA cst own kd tn) s' | f => Q f s') E s)
    (h2 : ∀ (c1 : CH) (uu : Str → Option Value) h tk, CP c dA lA cst own kd tn c1 → Fr h₀ L h (fun y => if y = Str.ofString "unit" then uu y else kstB (fun z => if [Str.ofString "at"].contains z then uu z else m₀ z) (cPs c1) y) →
      News h₀ L h ((dA, W.listOf c.dvs.toArray c.dk) :: (lA, W.listOf c.lvs.toArray c.lk) :: (c1.pA, W.listOf c1.pvs.toArray c1.pk) :: (c1.tl ++ (cst ++ own))) → wpAny (model prog w) A (execs rest env) Q E { s with heap := h, toks := tk }) :
    wpAny (model prog w) A (execs (st :: rest) env) Q E s :=
  cutG (cLed c dA lA cst) cPs _ _ _ F h1 fun c1 uu h tk hp F' N' => h2 c1 uu h tk hp F' (by simpa only [cLed, List.cons_append, List.append_assoc] using N')
theorem chainEnd1 {h' : Heap} {tk : Nat} {rA : Addr} {rvs : List Value} {rk : Nat} {rs : List Int} {wd : Str} {wt : Tok} (F : Fr h₀ L h' m') (N : News h₀ L h' ((rA, W.listOf rvs.toArray rk) :: led)) (l1 : AllLt rA led) (hn : ∀ p ∈ dLed dA lA cst c, p ∈ led) (ho : ∀ p ∈ own, p ∈ led)
    (hp1 : DatAll (c.tl ++ cst) c.pvs (c.st.pile.map dInts)) (hp3 : DatAll (c.tl ++ cst) c.dvs c.st.due) (hn2 : @Ne Nat dA c.pA) (hn3 : @Ne Nat lA c.pA) (a1 : Aside dA lA c.pA c.tl) (a2 : Aside dA lA c.pA cst) (hoff : OwnOff own ((dLed dA lA cst c).map (·.1)))
    (hI : IntsAre rvs rs) (he : runsOf kd tn c.st.pile = (rs, c.st.pile, wd)) (hk : ∀ p ∈ cPs ⟨rA, rvs, rk, c.pA, c.pvs, c.pk, (rA, W.listOf rvs.toArray rk) :: c.tl, rs, c.st.pile, wd, wt⟩, m' p.1 = some p.2)
    (hr : ∀ z, z ≠ Str.ofString "unit" → (∀ p ∈ cPs ⟨rA, rvs, rk, c.pA, c.pvs, c.pk, (rA, W.listOf rvs.toArray rk) :: c.tl, rs, c.st.pile, wd, wt⟩, z ≠ p.1) → [Str.ofString "at"].contains z = false → m' z = m₀ z) :
    CutEnd h₀ L s own (cLed c dA lA cst) cPs (Str.ofString "unit") [Str.ofString "at"] m₀ (CP c dA lA cst own kd tn) { s with heap := h', toks := tk } := by
  have lt := fun p hp => allLt_in l1 p hp
  have sub : ∀ p ∈ c.tl ++ cst, p ∈ (rA, W.listOf rvs.toArray rk) :: c.tl ++ cst := fun p hp => .tail _ hp
  refine cutEnd ⟨rA, rvs, rk, c.pA, c.pvs, c.pk, (rA, W.listOf rvs.toArray rk) :: c.tl, rs, c.st.pile, wd, wt⟩ F N ?_ (fun p hp => .tail _ (ho p hp)) hk hr ⟨he, hp1.mono sub, hp3.mono sub, .head _, hI, hn2, hn3, ⟨?_, ?_, ?_⟩, a2, ?_⟩
  · intro p hp
    simp only [cLed, List.cons_append, List.mem_cons] at hp
    rcases hp with h | h | h | h | h
    · exact .tail _ (hn p (h ▸ .head _))
    · exact .tail _ (hn p (h ▸ .tail _ (.head _)))
    · exact .tail _ (hn p (h ▸ .tail _ (.tail _ (.head _))))
    · exact h ▸ .head _
    · exact .tail _ (hn p (.tail _ (.tail _ (.tail _ h))))
  · exact faC (Ne.symm (Nat.ne_of_lt (lt (dA, _) (hn _ (.head _))))) a1.d
  · exact faC (Ne.symm (Nat.ne_of_lt (lt (lA, _) (hn _ (.tail _ (.head _)))))) a1.l
  · exact faC (Ne.symm (Nat.ne_of_lt (lt (c.pA, _) (hn _ (.tail _ (.tail _ (.head _))))))) a1.p
  · intro p hp b hb
    simp only [cLed, List.cons_append, List.map_cons, List.mem_cons] at hb
    rcases hb with rfl | rfl | rfl | rfl | hb
    · exact hoff p hp _ (.head _)
    · exact hoff p hp _ (.tail _ (.head _))
    · exact hoff p hp _ (.tail _ (.tail _ (.head _)))
    · exact Nat.ne_of_lt (lt p (ho p hp))
    · exact hoff p hp _ (.tail _ (.tail _ (.tail _ hb)))
theorem chainEnd2 {h' : Heap} {tk : Nat} {rA : Addr} {rvs : List Value} {rk pk' : Nat} {rs : List Int} {wd : Str} {wt : Tok} {l2 : List (Addr × Obj)} (F : Fr h₀ L h' m') (N : News h₀ L h' l2) (l1 : AllLt rA led) (hn : ∀ p ∈ dLed dA lA cst c, p ∈ led) (ho : ∀ p ∈ own, p ∈ led)
    (g1 : (rA, W.listOf rvs.toArray rk) ∈ l2) (g2 : (c.pA, W.listOf (c.pvs.toArray.push (.ref rA)) pk') ∈ l2) (g3 : (dA, W.listOf c.dvs.toArray c.dk) ∈ l2) (g4 : (lA, W.listOf c.lvs.toArray c.lk) ∈ l2) (g5 : ∀ p ∈ c.tl ++ cst, p ∈ l2) (g6 : ∀ p ∈ own, p ∈ l2)
    (hp1 : DatAll (c.tl ++ cst) c.pvs (c.st.pile.map dInts)) (hp3 : DatAll (c.tl ++ cst) c.dvs c.st.due) (hn2 : @Ne Nat dA c.pA) (hn3 : @Ne Nat lA c.pA) (a1 : Aside dA lA c.pA c.tl) (a2 : Aside dA lA c.pA cst) (hoff : OwnOff own ((dLed dA lA cst c).map (·.1)))
    (hI : IntsAre rvs rs) (he : runsOf kd tn c.st.pile = (rs, c.st.pile ++ [rs], wd)) (hk : ∀ p ∈ cPs ⟨rA, rvs, rk, c.pA, c.pvs ++ [.ref rA], pk', (rA, W.listOf rvs.toArray rk) :: c.tl, rs, c.st.pile ++ [rs], wd, wt⟩, m' p.1 = some p.2)
    (hr : ∀ z, z ≠ Str.ofString "unit" → (∀ p ∈ cPs ⟨rA, rvs, rk, c.pA, c.pvs ++ [.ref rA], pk', (rA, W.listOf rvs.toArray rk) :: c.tl, rs, c.st.pile ++ [rs], wd, wt⟩, z ≠ p.1) → [Str.ofString "at"].contains z = false → m' z = m₀ z) :
    CutEnd h₀ L s own (cLed c dA lA cst) cPs (Str.ofString "unit") [Str.ofString "at"] m₀ (CP c dA lA cst own kd tn) { s with heap := h', toks := tk } := by
  have lt := fun p hp => allLt_in l1 p hp
  have sub : ∀ p ∈ c.tl ++ cst, p ∈ (rA, W.listOf rvs.toArray rk) :: c.tl ++ cst := fun p hp => .tail _ hp
  have g2' : (c.pA, W.listOf (c.pvs ++ [Value.ref rA]).toArray pk') ∈ l2 := by rw [← listOf_push]; exact g2
  have hr1 : DatIn ((rA, W.listOf rvs.toArray rk) :: c.tl ++ cst) (.ref rA) (dInts rs) := .list (.head _) (ints_dat hI)
  refine cutEnd ⟨rA, rvs, rk, c.pA, c.pvs ++ [.ref rA], pk', (rA, W.listOf rvs.toArray rk) :: c.tl, rs, c.st.pile ++ [rs], wd, wt⟩ F N ?_ g6 hk hr ⟨he, ?_, hp3.mono sub, .head _, hI, hn2, hn3, ⟨?_, ?_, ?_⟩, a2, ?_⟩
  · intro p hp
    simp only [cLed, List.cons_append, List.mem_cons] at hp
    rcases hp with h | h | h | h | h
    · exact h ▸ g3
    · exact h ▸ g4
    · exact h ▸ g2'
    · exact h ▸ g1
    · exact g5 p h
  · rw [List.map_append]
    exact (hp1.mono sub).append (.one hr1)
  · exact faC (Ne.symm (Nat.ne_of_lt (lt (dA, _) (hn _ (.head _))))) a1.d
  · exact faC (Ne.symm (Nat.ne_of_lt (lt (lA, _) (hn _ (.tail _ (.head _)))))) a1.l
  · exact faC (Ne.symm (Nat.ne_of_lt (lt (c.pA, _) (hn _ (.tail _ (.tail _ (.head _))))))) a1.p
  · intro p hp b hb
    simp only [cLed, List.cons_append, List.map_cons, List.mem_cons] at hb
    rcases hb with rfl | rfl | rfl | rfl | hb
    · exact hoff p hp _ (.head _)
    · exact hoff p hp _ (.tail _ (.head _))
    · exact hoff p hp _ (.tail _ (.tail _ (.head _)))
    · exact Nat.ne_of_lt (lt p (ho p hp))
    · exact hoff p hp _ (.tail _ (.tail _ (.tail _ hb)))
theorem chainEnd3 {h' : Heap} {tk : Nat} {pA' rA : Addr} {rvs : List Value} {rk pk' n : Nat} {wd : Str} {wt : Tok} (F : Fr h₀ L h' m') (N : News h₀ L h' ((pA', W.listOf (c.pvs.take n).toArray pk') :: led)) (l1 : AllLt pA' led) (hn : ∀ p ∈ dLed dA lA cst c, p ∈ led) (ho : ∀ p ∈ own, p ∈ led)
    (hp1 : DatAll (c.tl ++ cst) c.pvs (c.st.pile.map dInts)) (hp3 : DatAll (c.tl ++ cst) c.dvs c.st.due) (a1 : Aside dA lA c.pA c.tl) (a2 : Aside dA lA c.pA cst) (hoff : OwnOff own ((dLed dA lA cst c).map (·.1)))
    (hin : (rA, W.listOf rvs.toArray rk) ∈ c.tl ++ cst) (hI : IntsAre rvs (topOf (c.st.pile.take n))) (he : runsOf kd tn c.st.pile = (topOf (c.st.pile.take n), c.st.pile.take n, wd)) (hk : ∀ p ∈ cPs ⟨rA, rvs, rk, pA', c.pvs.take n, pk', c.tl, topOf (c.st.pile.take n), c.st.pile.take n, wd, wt⟩, m' p.1 = some p.2)
    (hr : ∀ z, z ≠ Str.ofString "unit" → (∀ p ∈ cPs ⟨rA, rvs, rk, pA', c.pvs.take n, pk', c.tl, topOf (c.st.pile.take n), c.st.pile.take n, wd, wt⟩, z ≠ p.1) → [Str.ofString "at"].contains z = false → m' z = m₀ z) :
    CutEnd h₀ L s own (cLed c dA lA cst) cPs (Str.ofString "unit") [Str.ofString "at"] m₀ (CP c dA lA cst own kd tn) { s with heap := h', toks := tk } := by
  have lt := fun p hp => allLt_in l1 p hp
  have low : ∀ p ∈ c.tl ++ cst, p.1 ≠ pA' := fun p hp => Nat.ne_of_lt (lt p (hn p (.tail _ (.tail _ (.tail _ hp)))))
  refine cutEnd ⟨rA, rvs, rk, pA', c.pvs.take n, pk', c.tl, topOf (c.st.pile.take n), c.st.pile.take n, wd, wt⟩ F N ?_ (fun p hp => .tail _ (ho p hp)) hk hr ⟨he, ?_, hp3, hin, hI, Nat.ne_of_lt (lt (dA, _) (hn _ (.head _))), Nat.ne_of_lt (lt (lA, _) (hn _ (.tail _ (.head _)))), ⟨a1.d, a1.l, fun p hp => low p (List.mem_append_left _ hp)⟩, ⟨a2.d, a2.l, fun p hp => low p (List.mem_append_right _ hp)⟩, ?_⟩
  · intro p hp
    simp only [cLed, List.mem_cons] at hp
    rcases hp with h | h | h | h
    · exact .tail _ (hn p (h ▸ .head _))
    · exact .tail _ (hn p (h ▸ .tail _ (.head _)))
    · exact h ▸ .head _
    · exact .tail _ (hn p (.tail _ (.tail _ (.tail _ h))))
  · rw [List.map_take]
    exact DatAll.take hp1 n
  · intro p hp b hb
    simp only [cLed, List.map_cons, List.mem_cons] at hb
    rcases hb with rfl | rfl | rfl | hb
    · exact hoff p hp _ (.head _)
    · exact hoff p hp _ (.tail _ (.head _))
    · exact Nat.ne_of_lt (lt p (ho p hp))
    · exact hoff p hp _ (.tail _ (.tail _ (.tail _ hb)))
end
end Mine

-- MDp
theorem Mine.setMDp : True := by
  k_with "m same2" => first | with_reducible rfl | (refine (if_neg ?_).trans ?_; (k_extra "m ne"); (k_extra "m same2"))
  trivial
namespace Mine
structure RunW (i : Nat) (r : List Int) : Prop where
  lo : 3 ≤ r.length
  hi : r.length ≤ 3 + 2 * i
  val : ∀ x ∈ r, 0 ≤ x ∧ x ≤ 4 + 2 * (i : Int)
theorem RunOk.w {i : Nat} {r : List Int} (h : RunOk i r) : RunW i r := ⟨h.lo, h.hi, h.val⟩
theorem PileOk.mono {i j : Nat} {p : List (List Int)} (h : PileOk i p) (hij : i ≤ j) : PileOk j p := ⟨h.ne, Nat.le_trans h.len (by omega), fun r hr => (h.runs r hr).mono hij⟩
theorem closed_len {top : List Int} : (closedOf top).length = top.length - 1 := by unfold closedOf; rw [List.length_take]; omega
theorem last_len {top : List Int} (h : 1 ≤ top.length) : (lastOf top).length = 1 := by unfold lastOf; rw [List.length_drop]; omega
theorem closed_mem {top : List Int} {x : Int} (h : x ∈ closedOf top) : x ∈ top := mem_take h
theorem last_mem {top : List Int} {x : Int} (h : x ∈ lastOf top) : x ∈ top := mem_drop h
theorem getD_mem {l : List Int} {k : Nat} {d : Int} (h : k < l.length) : l.getD k d ∈ l := by
  rw [List.getD_eq_getElem?_getD, List.getElem?_eq_getElem h]
  exact List.getElem_mem h
theorem unit_val {tn : Int} (h0 : 0 ≤ tn) (h1 : tn < 6) : 1 ≤ (units.getD tn.toNat []).length ∧ (units.getD tn.toNat []).length ≤ 3 ∧ (∀ x ∈ units.getD tn.toNat [], 0 ≤ x ∧ x ≤ 2) := by
  obtain ⟨n, rfl⟩ := Int.eq_ofNat_of_zero_le h0
  have hn : n < 6 := by omega
  have key : ∀ n : Nat, n < 6 → (1 ≤ (units.getD n []).length ∧ (units.getD n []).length ≤ 3 ∧ (∀ x ∈ units.getD n [], 0 ≤ x ∧ x ≤ 2)) := by decide
  exact key n hn
theorem rot_len {l : List Int} {k : Nat} : (l.drop k ++ l.take k).length = l.length := by
  rw [List.length_append, Nat.add_comm, ← List.length_append, List.take_append_drop]
theorem upd_len {l : List Int} {k : Nat} {v : Int} (h : k < l.length) : (l.take k ++ [v] ++ l.drop (k + 1)).length = l.length := by
  simp only [List.length_append, List.length_take, List.length_drop, List.length_cons, List.length_nil]
  omega
theorem one_len {l : List Int} {v : Int} (h : 1 ≤ l.length) : ([v] ++ l.drop 1).length = l.length := by
  simp only [List.length_append, List.length_drop, List.length_cons, List.length_nil]
  omega
theorem app_len {l u : List Int} {v : Int} (h : 1 ≤ u.length) : (l ++ [v] ++ u.drop 1).length = l.length + u.length := by
  simp only [List.length_append, List.length_drop, List.length_cons, List.length_nil]
  omega
theorem ar_hi {c u n i : Nat} (h : c + 1 = n) (h2 : n ≤ 3 + 2 * i) (h3 : u ≤ 3) : c + u ≤ 3 + 2 * (i + 1) := by omega
theorem ar_up {n i : Nat} (h2 : n ≤ 3 + 2 * i) : n ≤ 3 + 2 * (i + 1) := by omega
theorem ar_one {x : Int} {i : Nat} (h1 : 1 ≤ x) (h2 : 0 ≤ x ∧ x ≤ 4 + 2 * (i : Int)) : 0 ≤ x - 1 ∧ x - 1 ≤ 4 + 2 * ((i + 1 : Nat) : Int) := by omega
theorem ar_inc {x : Int} {i : Nat} (h2 : 0 ≤ x ∧ x ≤ 4 + 2 * (i : Int)) : 0 ≤ x + 1 ∧ x + 1 ≤ 4 + 2 * ((i + 1 : Nat) : Int) := by omega
theorem ar_add {x y : Int} {i : Nat} (h2 : 0 ≤ x ∧ x ≤ 4 + 2 * (i : Int)) (h : 0 ≤ y ∧ y ≤ 2) : 0 ≤ x + y ∧ x + y ≤ 4 + 2 * ((i + 1 : Nat) : Int) := by omega
theorem ar_val {x : Int} {i : Nat} (h2 : 0 ≤ x ∧ x ≤ 4 + 2 * (i : Int)) : 0 ≤ x ∧ x ≤ 4 + 2 * ((i + 1 : Nat) : Int) := by omega
theorem ar_two {x : Int} {i : Nat} (h : 0 ≤ x ∧ x ≤ 2) : 0 ≤ x ∧ x ≤ 4 + 2 * ((i + 1 : Nat) : Int) := by omega
theorem closed_len1 {top : List Int} (h : 3 ≤ top.length) : (closedOf top).length + 1 = top.length := by rw [closed_len]; omega
theorem at_lt {n : Nat} {d : Int} (h : 1 ≤ n) : (Int.fmod d (n : Int)).toNat < n := by
  have := mod_in d (m := (n : Int)) (by omega)
  omega
theorem RunW.upd {i k : Nat} {top : List Int} {v : Int} (h1 : 3 ≤ top.length) (h2 : top.length ≤ 3 + 2 * i) (hk : k < (closedOf top).length) (hv : ∀ x ∈ (closedOf top).take k ++ [v] ++ (closedOf top).drop (k + 1) ++ lastOf top, 0 ≤ x ∧ x ≤ 4 + 2 * ((i + 1 : Nat) : Int)) :
    RunW (i + 1) ((closedOf top).take k ++ [v] ++ (closedOf top).drop (k + 1) ++ lastOf top) := by
  have e : ((closedOf top).take k ++ [v] ++ (closedOf top).drop (k + 1) ++ lastOf top).length = top.length := by
    rw [List.length_append, upd_len hk, last_len (Nat.le_trans (by decide) h1), closed_len1 h1]
  exact ⟨e ▸ h1, e ▸ ar_up h2, hv⟩
theorem RunW.drop1 {i : Nat} {r : List Int} {v : Int} (h : RunW i r) (hv : 0 ≤ v ∧ v ≤ 4 + 2 * (i : Int)) : RunW i ([v] ++ r.drop 1) := by
  have e := one_len (v := v) (Nat.le_trans (by decide) h.lo)
  refine ⟨e.symm ▸ h.lo, e.symm ▸ h.hi, fun x hx => ?_⟩
  rcases List.mem_append.mp hx with hx | hx
  · exact List.mem_singleton.mp hx ▸ hv
  · exact h.val x (mem_drop hx)
theorem RunW.rot {i k : Nat} {top : List Int} (h1 : 3 ≤ top.length) (h2 : top.length ≤ 3 + 2 * i) (hv : ∀ x ∈ top, 0 ≤ x ∧ x ≤ 4 + 2 * ((i + 1 : Nat) : Int)) :
    RunW (i + 1) ((closedOf top).drop k ++ (closedOf top).take k ++ lastOf top) := by
  have e : ((closedOf top).drop k ++ (closedOf top).take k ++ lastOf top).length = top.length := by
    rw [List.length_append, rot_len, last_len (Nat.le_trans (by decide) h1), closed_len1 h1]
  refine ⟨e ▸ h1, e ▸ ar_up h2, fun x hx => ?_⟩
  simp only [List.mem_append] at hx
  rcases hx with (hx | hx) | hx
  · exact hv x (closed_mem (mem_drop hx))
  · exact hv x (closed_mem (mem_take hx))
  · exact hv x (last_mem hx)
theorem RunW.unit {i : Nat} {top u : List Int} {v : Int} (h1 : 3 ≤ top.length) (h2 : top.length ≤ 3 + 2 * i) (hv : ∀ x ∈ top, 0 ≤ x ∧ x ≤ 4 + 2 * ((i + 1 : Nat) : Int)) (u1 : 1 ≤ u.length) (u2 : u.length ≤ 3) (u3 : ∀ x ∈ u, 0 ≤ x ∧ x ≤ 2) (hV : 0 ≤ v ∧ v ≤ 4 + 2 * ((i + 1 : Nat) : Int)) :
    RunW (i + 1) (closedOf top ++ [v] ++ u.drop 1) := by
  have e := app_len (l := closedOf top) (v := v) u1
  refine ⟨?_, ?_, fun x hx => ?_⟩
  · rw [e]; exact Nat.le_trans (closed_len1 h1 ▸ h1) (Nat.add_le_add_left u1 _)
  · rw [e]; exact ar_hi (closed_len1 h1) h2 u2
  · simp only [List.mem_append, List.mem_singleton] at hx
    rcases hx with (hx | rfl) | hx
    · exact hv x (closed_mem hx)
    · exact hV
    · exact ar_two (u3 x (mem_drop hx))
theorem unit_head {top u : List Int} {v : Int} (h1 : 3 ≤ top.length) : (closedOf top ++ [v] ++ u.drop 1).getD 0 0 = top.getD 0 0 := by
  have hc := closed_len (top := top)
  simp only [List.getD_eq_getElem?_getD]
  rw [List.append_assoc, List.getElem?_append_left (by omega)]
  unfold closedOf
  rw [List.getElem?_take_of_lt (by omega)]
theorem PileOk.pop {i : Nat} {pile : List (List Int)} (hP : PileOk i pile) (tn : Int) : PileOk (i + 1) (pile.take (1 + Int.fmod tn (pile.length : Int)).toNat) := by
  have hl := List.length_pos_iff.mpr hP.ne
  have hpl := mod_in tn (m := (pile.length : Int)) (by omega)
  refine ⟨fun q => ?_, ?_, fun r hr => (hP.runs r (mem_take hr)).mono (Nat.le_succ i)⟩
  · have e1 := congrArg List.length q
    rw [List.length_take, List.length_nil] at e1
    omega
  · rw [List.length_take]
    exact Nat.le_trans (Nat.min_le_right _ _) (hP.mono (Nat.le_succ i)).len
theorem PileOk.push {i : Nat} {pile : List (List Int)} {r : List Int} (hP : PileOk i pile) (h : RunOk (i + 1) r) : PileOk (i + 1) (pile ++ [r]) := by
  refine ⟨by simp, ?_, fun q hq => ?_⟩
  · have := hP.len; simp only [List.length_append, List.length_cons, List.length_nil]; omega
  · rcases List.mem_append.mp hq with hq | hq
    · exact (hP.runs q hq).mono (Nat.le_succ i)
    · exact List.mem_singleton.mp hq ▸ h
theorem runs_ok {i : Nat} {pile pl : List (List Int)} {kd tn : Int} {rs : List Int} {wd : Str} (hP : PileOk i pile) (h0 : 0 ≤ tn) (h1 : tn < 6) (e : runsOf kd tn pile = (rs, pl, wd)) : RunW (i + 1) rs ∧ PileOk (i + 1) pl := by
  have hT := hP.top
  have l1 := hT.lo
  have l2 := hT.hi
  have hP' := hP.mono (Nat.le_succ i)
  have hk : (Int.fmod tn ((closedOf (topOf pile)).length : Int)).toNat < (closedOf (topOf pile)).length := at_lt (Nat.le_of_succ_le_succ (Nat.le_trans (by decide) (closed_len1 l1 ▸ l1)))
  have hv : ∀ x ∈ topOf pile, 0 ≤ x ∧ x ≤ 4 + 2 * ((i + 1 : Nat) : Int) := fun x hx => ar_val (hT.val x hx)
  unfold runsOf at e
  simp only at e
  split at e
  · simp only [Prod.mk.injEq] at e
    obtain ⟨rfl, rfl, rfl⟩ := e
    exact ⟨.rot l1 l2 hv, hP'⟩
  split at e
  · simp only [Prod.mk.injEq] at e
    obtain ⟨rfl, rfl, rfl⟩ := e
    obtain ⟨u1, u2, u3⟩ := unit_val h0 h1
    have hlast := hT.val _ (getD_mem (l := topOf pile) (k := (topOf pile).length - 1) (d := 0) (Nat.sub_lt (Nat.lt_of_lt_of_le (by decide) l1) Nat.one_pos))
    have hw := RunW.unit l1 l2 hv u1 u2 u3 (ar_add hlast (u3 _ (getD_mem (l := units.getD tn.toNat []) (k := 0) (d := 0) u1)))
    exact ⟨hw, hP.push ⟨hw.lo, hw.hi, hw.val, (unit_head l1).symm ▸ hT.one⟩⟩
  split at e
  · simp only [Prod.mk.injEq] at e
    obtain ⟨rfl, rfl, rfl⟩ := e
    exact ⟨(hP.pop tn).top.w, hP.pop tn⟩
  have hw := RunW.upd l1 l2 hk (v := (closedOf (topOf pile)).getD (Int.fmod tn ((closedOf (topOf pile)).length : Int)).toNat 0 + 1) (by
    intro x hx
    simp only [List.mem_append, List.mem_singleton] at hx
    rcases hx with ((hx | rfl) | hx) | hx
    · exact hv x (closed_mem (mem_take hx))
    · exact ar_inc (hT.val _ (closed_mem (getD_mem hk)))
    · exact hv x (closed_mem (mem_drop hx))
    · exact hv x (last_mem hx))
  split at e
  · simp only [Prod.mk.injEq] at e
    obtain ⟨rfl, rfl, rfl⟩ := e
    exact ⟨hw, hP'⟩
  · simp only [Prod.mk.injEq] at e
    obtain ⟨rfl, rfl, rfl⟩ := e
    exact ⟨hw.drop1 (ar_one hT.one (hT.val _ (getD_mem (Nat.lt_of_lt_of_le (by decide) l1)))), hP'⟩
theorem lead_len {ns : List Int} (hn : ns.length ≤ 64) (hb : ∀ v ∈ ns, 0 ≤ v ∧ v < 100) : (leadS ns).length ≤ 6464 := by
  have e : leadS ns = Str.join (Str.ofString "\t") (ns.map fun r => Txt.mul (Str.ofString " ") r) := StrLaws.glued_eq_join _ _
  have h := StrLaws.join_length_le (Str.ofString "\t") (ns.map fun r => Txt.mul (Str.ofString " ") r)
  have h1 : (((ns.map fun r => Txt.mul (Str.ofString " ") r).map (·.length)).sum) ≤ (((ns.map fun r => Txt.mul (Str.ofString " ") r).map (·.length)).length) * 100 := sum_le fun x hx => by
    obtain ⟨y, hy, rfl⟩ := List.mem_map.mp hx
    obtain ⟨k, hk, rfl⟩ := List.mem_map.mp hy
    have := hb k hk
    exact Nat.le_trans (len_mul_leN (L := 1) (N := 100) (by decide +kernel) (by omega)) (by decide)
  have e2 : (Str.ofString "\t").length = 1 := by decide +kernel
  rw [e]
  rw [e2] at h
  simp only [List.length_map] at h h1
  omega
theorem spOf_le (i : Int) : ∀ p ∈ spOf i, p.2.length ≤ 6 := by
  unfold spOf
  (repeat' split) <;> decide +kernel
theorem sp_len (i : Int) (x : Str) : (flatS (spOf i) x).length ≤ 6 * x.length := flatS_len (spOf_le i)
theorem unit_at {k : Int} (h : 0 ≤ k ∧ k < 6) : ∃ u, (units.map dInts)[k.toNat]? = some (dInts (units.getD k.toNat [])) ∧ (1 ≤ (units.getD k.toNat []).length ∧ (units.getD k.toNat []).length ≤ 3) ∧ u = () := by
  obtain ⟨n, rfl⟩ := Int.eq_ofNat_of_zero_le h.1
  have hn : n < 6 := by omega
  have key : ∀ n : Nat, n < 6 → (1 ≤ (units.getD n []).length ∧ (units.getD n []).length ≤ 3) := by decide
  refine ⟨(), ?_, key n hn, rfl⟩
  show (units.map dInts)[n]? = some (dInts (units.getD n []))
  have hl : n < units.length := hn
  rw [List.getElem?_map, List.getElem?_eq_getElem hl, List.getD_eq_getElem?_getD, List.getElem?_eq_getElem hl]
  rfl
theorem pile_taken {news : List (Addr × Obj)} {vs : List Value} {p : List (List Int)} (h : DatAll news vs (p.map dInts)) (hp : p ≠ []) (n : Nat) (hn : 1 ≤ n) : DatAll news (vs.take n) ((p.take n).dropLast.map dInts ++ [dInts (topOf (p.take n))]) := by
  rw [← pile_split]
  · rw [List.map_take]; exact DatAll.take h n
  · intro e
    have e1 := congrArg List.length e
    rw [List.length_take, List.length_nil] at e1
    have := List.length_pos_iff.mpr hp
    omega
theorem cell_at {cs : List Int} {k : Int} (hb : ∀ c ∈ cs, 0 ≤ c ∧ c < 100000000) (h : 0 ≤ k ∧ k < cs.length) : ∃ cv, cs[k.toNat]? = some cv ∧ 0 ≤ cv ∧ cv < 100000000 := by
  have : k.toNat < cs.length := by omega
  exact ⟨cs[k.toNat], List.getElem?_eq_getElem this, hb _ (List.getElem_mem this)⟩
theorem in_mid (a b own : List (Addr × Obj)) : ∀ p ∈ a ++ b, p ∈ a ++ (b ++ own) := fun p hp => by
  rcases List.mem_append.mp hp with h | h
  · exact List.mem_append_left _ h
  · exact List.mem_append_right _ (List.mem_append_left _ h)
theorem lead_le {ns : List Int} {c : Nat} (hb : ∀ v ∈ ns, 0 ≤ v ∧ v ≤ c) : (leadS ns).length ≤ ns.length * (c + 1) := by
  have e : leadS ns = Str.join (Str.ofString "\t") (ns.map fun r => Txt.mul (Str.ofString " ") r) := StrLaws.glued_eq_join _ _
  have h := StrLaws.join_length_le (Str.ofString "\t") (ns.map fun r => Txt.mul (Str.ofString " ") r)
  have h1 : (((ns.map fun r => Txt.mul (Str.ofString " ") r).map (·.length)).sum) ≤ (((ns.map fun r => Txt.mul (Str.ofString " ") r).map (·.length)).length) * c := sum_le fun x hx => by
    obtain ⟨y, hy, rfl⟩ := List.mem_map.mp hx
    obtain ⟨k, hk, rfl⟩ := List.mem_map.mp hy
    have := hb k hk
    exact Nat.le_trans (len_mul_leN (L := 1) (N := c) (by decide +kernel) (by omega)) (by omega)
  have e2 : (Str.ofString "\t").length = 1 := by decide +kernel
  rw [e]
  rw [e2] at h
  simp only [List.length_map] at h h1
  rw [Nat.mul_succ]
  refine Nat.le_trans h (Nat.le_trans (Nat.add_le_add_right h1 _) ?_)
  omega
theorem reply_len {kind d : Int} {T : List (Str × Str)} {host : Str} (h2 : 0 ≤ d) (h3 : d < 1000000) : (replyD kind d T host).1.length ≤ 40 := by
  have hp0 : 0 ≤ Int.fdiv d 24 ∧ Int.fdiv d 24 < 10 ^ 6 := by
    rw [Int.fdiv_eq_ediv_of_nonneg d (by decide)]
    omega
  have hp6 : (Str.ofString (toString (Int.fdiv d 24))).length ≤ 6 := toString_length_le hp0.1 (by decide) hp0.2
  have hp6' : (wordOf (Int.fdiv d 24)).length ≤ 6 := hp6
  have hj3 := join_signs_len d
  have hr6 := rep_len (Txt.join (Str.ofString "") (signsS d))
  have hm3 : (Txt.mul (markS d) 3).length ≤ 3 := len_mul_leN (L := 1) (N := 3) (Nat.le_refl 1) (by decide)
  have hm2 : (Txt.mul (markS d) 2).length ≤ 2 := len_mul_leN (L := 1) (N := 2) (Nat.le_refl 1) (by decide)
  have hm1 : (markS d).length = 1 := rfl
  have hw1 : (whiteS d).length ≤ 1 := white_len _
  have le1 : (Str.ofString "257 \"").length = 5 := by decide +kernel
  have le2 : (Str.ofString "\" made").length = 6 := by decide +kernel
  have le3 : (Str.ofString "229 (").length = 5 := by decide +kernel
  have le4 : (Str.ofString ")").length = 1 := by decide +kernel
  have le5 : (Str.ofString "250 \"a\" (|||1|)").length ≤ 20 := by decide +kernel
  have le6 : (R4 d).length ≤ 10 := by
    have h : ∀ x ∈ others, x.length ≤ 10 := by decide +kernel
    unfold R4
    rw [List.getD_eq_getElem?_getD]
    cases e : others[(Int.fmod d 4).toNat]? with
    | none => decide +kernel
    | some x => exact h x (List.mem_of_getElem? e)
  unfold replyD
  split
  · show (R0 d).length ≤ 40
    unfold R0; simp only [Str.length_append]; omega
  split
  · show (R1 d).length ≤ 40
    unfold R1; simp only [Str.length_append]; omega
  split
  · show (R2 d).length ≤ 40
    unfold R2; simp only [Str.length_append]; omega
  split
  · exact Nat.le_trans le5 (by decide)
  · exact Nat.le_trans le6 (by decide)
theorem sub_led1 {dA lA : Addr} {cst own led : List (Addr × Obj)} {c : DH} (h : ∀ p ∈ (dA, W.listOf c.dvs.toArray c.dk) :: (lA, W.listOf c.lvs.toArray c.lk) :: (c.pA, W.listOf c.pvs.toArray c.pk) :: (c.tl ++ (cst ++ own)), p ∈ led) : ∀ p ∈ dLed dA lA cst c, p ∈ led := (sub_led h).1
theorem sub_led2 {own led a b : List (Addr × Obj)} (h : ∀ p ∈ a ++ (b ++ own), p ∈ led) : ∀ p ∈ own, p ∈ led := fun p hp => h p (List.mem_append_right _ (List.mem_append_right _ hp))
theorem tabOf_le (i : Int) : ∀ p ∈ tabOf i, p.2.length ≤ 6 := by
  unfold tabOf
  (repeat' split) <;> decide +kernel
section
variable {kd tn : Int} {pile : List (List Int)}
theorem runs_3a (h0 : kd ≠ 0) (h1 : kd ≠ 1) (h2 : kd ≠ 2) (hn : 0 ≤ Int.fmod tn ((closedOf (topOf pile)).length : Int)) (h : Int.fmod tn ((closedOf (topOf pile)).length : Int) ≤ 0) :
    runsOf kd tn pile = ((closedOf (topOf pile)).take (Int.fmod tn ((closedOf (topOf pile)).length : Int)).toNat ++ [(closedOf (topOf pile)).getD (Int.fmod tn ((closedOf (topOf pile)).length : Int)).toNat 0 + 1] ++ (closedOf (topOf pile)).drop (Int.fmod tn ((closedOf (topOf pile)).length : Int) + 1).toNat ++ lastOf (topOf pile), pile, wordsS 0 ((closedOf (topOf pile)).getD (Int.fmod tn ((closedOf (topOf pile)).length : Int)).toNat 0 + 1)) := by
  have e : (Int.fmod tn ((closedOf (topOf pile)).length : Int) + 1).toNat = (Int.fmod tn ((closedOf (topOf pile)).length : Int)).toNat + 1 := by omega
  have z : (Int.fmod tn ((closedOf (topOf pile)).length : Int)).toNat = 0 := by omega
  unfold runsOf
  simp only [if_neg h0, if_neg h1, if_neg h2]
  rw [if_pos z, e]
theorem runs_3b (h0 : kd ≠ 0) (h1 : kd ≠ 1) (h2 : kd ≠ 2) (h : 0 < Int.fmod tn ((closedOf (topOf pile)).length : Int)) :
    runsOf kd tn pile = ([(topOf pile).getD 0 0 - 1] ++ ((closedOf (topOf pile)).take (Int.fmod tn ((closedOf (topOf pile)).length : Int)).toNat ++ [(closedOf (topOf pile)).getD (Int.fmod tn ((closedOf (topOf pile)).length : Int)).toNat 0 + 1] ++ (closedOf (topOf pile)).drop (Int.fmod tn ((closedOf (topOf pile)).length : Int) + 1).toNat ++ lastOf (topOf pile)).drop 1, pile, wordsS ((topOf pile).getD 0 0) ((closedOf (topOf pile)).getD (Int.fmod tn ((closedOf (topOf pile)).length : Int)).toNat 0 + 1)) := by
  have e : (Int.fmod tn ((closedOf (topOf pile)).length : Int) + 1).toNat = (Int.fmod tn ((closedOf (topOf pile)).length : Int)).toNat + 1 := by omega
  have z : ¬ (Int.fmod tn ((closedOf (topOf pile)).length : Int)).toNat = 0 := by omega
  unfold runsOf
  simp only [if_neg h0, if_neg h1, if_neg h2]
  rw [if_neg z, e]
end
section
variable {prog : Program} {w : World} {A : Around} {E : Value → Shared → Prop} {s : Shared} {env : Env} {h₀ : Heap} {L dA lA : Addr} {c : DH} {cst own led : List (Addr × Obj)} {m₀ m' : Str → Option Value} {kd tn : Int}
theorem chainEnd2b {h' : Heap} {tk : Nat} {rA : Addr} {rvs : List Value} {rk pk' : Nat} {rs : List Int} {wd : Str} {wt : Tok} {l2 : List (Addr × Obj)} (F : Fr h₀ L h' m') (N : News h₀ L h' ((rA, W.listOf rvs.toArray rk) :: l2)) (l1 : AllLt rA l2)
    (g2 : (c.pA, W.listOf (c.pvs.toArray.push (.ref rA)) pk') ∈ l2) (g3 : (dA, W.listOf c.dvs.toArray c.dk) ∈ l2) (g4 : (lA, W.listOf c.lvs.toArray c.lk) ∈ l2) (g5 : ∀ p ∈ c.tl ++ cst, p ∈ l2) (g6 : ∀ p ∈ own, p ∈ l2)
    (hp1 : DatAll (c.tl ++ cst) c.pvs (c.st.pile.map dInts)) (hp3 : DatAll (c.tl ++ cst) c.dvs c.st.due) (hn2 : @Ne Nat dA c.pA) (hn3 : @Ne Nat lA c.pA) (a1 : Aside dA lA c.pA c.tl) (a2 : Aside dA lA c.pA cst) (hoff : OwnOff own ((dLed dA lA cst c).map (·.1)))
    (hI : IntsAre rvs rs) (he : runsOf kd tn c.st.pile = (rs, c.st.pile ++ [rs], wd)) (hk : ∀ p ∈ cPs ⟨rA, rvs, rk, c.pA, c.pvs ++ [.ref rA], pk', (rA, W.listOf rvs.toArray rk) :: c.tl, rs, c.st.pile ++ [rs], wd, wt⟩, m' p.1 = some p.2)
    (hr : ∀ z, z ≠ Str.ofString "unit" → (∀ p ∈ cPs ⟨rA, rvs, rk, c.pA, c.pvs ++ [.ref rA], pk', (rA, W.listOf rvs.toArray rk) :: c.tl, rs, c.st.pile ++ [rs], wd, wt⟩, z ≠ p.1) → [Str.ofString "at"].contains z = false → m' z = m₀ z) :
    CutEnd h₀ L s own (cLed c dA lA cst) cPs (Str.ofString "unit") [Str.ofString "at"] m₀ (CP c dA lA cst own kd tn) { s with heap := h', toks := tk } := by
  have lt := fun p hp => allLt_in l1 p hp
  have sub : ∀ p ∈ c.tl ++ cst, p ∈ (rA, W.listOf rvs.toArray rk) :: c.tl ++ cst := fun p hp => .tail _ hp
  have g2' : (c.pA, W.listOf (c.pvs ++ [Value.ref rA]).toArray pk') ∈ l2 := by rw [← listOf_push]; exact g2
  have hr1 : DatIn ((rA, W.listOf rvs.toArray rk) :: c.tl ++ cst) (.ref rA) (dInts rs) := .list (.head _) (ints_dat hI)
  refine cutEnd ⟨rA, rvs, rk, c.pA, c.pvs ++ [.ref rA], pk', (rA, W.listOf rvs.toArray rk) :: c.tl, rs, c.st.pile ++ [rs], wd, wt⟩ F N ?_ (fun p hp => .tail _ (g6 p hp)) hk hr ⟨he, ?_, hp3.mono sub, .head _, hI, hn2, hn3, ⟨?_, ?_, ?_⟩, a2, ?_⟩
  · intro p hp
    simp only [cLed, List.cons_append, List.mem_cons] at hp
    rcases hp with h | h | h | h | h
    · exact .tail _ (h ▸ g3)
    · exact .tail _ (h ▸ g4)
    · exact .tail _ (h ▸ g2')
    · exact h ▸ .head _
    · exact .tail _ (g5 p h)
  · rw [List.map_append]
    exact (hp1.mono sub).append (.one hr1)
  · exact faC (Ne.symm (Nat.ne_of_lt (lt (dA, _) g3))) a1.d
  · exact faC (Ne.symm (Nat.ne_of_lt (lt (lA, _) g4))) a1.l
  · exact faC (Ne.symm (Nat.ne_of_lt (lt (c.pA, _) g2))) a1.p
  · intro p hp b hb
    simp only [cLed, List.cons_append, List.map_cons, List.mem_cons] at hb
    rcases hb with rfl | rfl | rfl | rfl | hb
    · exact hoff p hp _ (.head _)
    · exact hoff p hp _ (.tail _ (.head _))
    · exact hoff p hp _ (.tail _ (.tail _ (.head _)))
    · exact Nat.ne_of_lt (lt p (g6 p hp))
    · exact hoff p hp _ (.tail _ (.tail _ (.tail _ hb)))
end
--E2b
end Mine

-- MDq
theorem Mine.setMDq : True := by
  k_with "m same3" => first | (refine kstB_out ?_ (by assumption); k_extra "m nes") | (refine (kstB_f (cPs_out ?_ (by assumption))).trans ?_; (k_extra "m ne"); refine (if_neg (at_out (by assumption))).trans ?_; k_extra "m same3") | (refine (if_neg ?_).trans ?_; (k_extra "m ne"); (k_extra "m same3"))
  trivial
namespace Mine
section
variable {prog : Program} {w : World} {A : Around} {E : Value → Shared → Prop} {s : Shared} {env : Env} {h₀ : Heap} {x : Str} {body : List Stmt} {Q : Flow → Shared → Prop}
theorem loopG2 {I : Addr} {n : Nat} {P : Nat → Value → Prop} {St : Nat → Heap → Prop} {m₀ : Str → Option Value} {news : List (Addr × Obj)} (C : Obj → Prop) (J : Nat → (Str → Option Value) → List (Addr × Obj) → Prop)
    (W : Walks prog w A I [I] [I] n P St) (hlive : ∀ i h, St i h → ∃ o, h.get? I = some o ∧ C o) (hI : I ≠ env.locals) (hI0 : h₀.get? I = none) (hnw : ∀ p ∈ news, p.1 ≠ I) (hst : St 0 s.heap) (F : Fr h₀ env.locals s.heap m₀) (N : News h₀ env.locals s.heap news) (hj : J 0 m₀ news)
    (turn : ∀ i v m₁ nx h tk own, i < n → P i v → (∀ p ∈ own, C p.2) → OwnOff own (nx.map (·.1)) → J i m₁ nx → Fr h₀ env.locals h (fun y => if y = x then some v else m₁ y) → News h₀ env.locals h (nx ++ own) →
      wpAny (model prog w) A (execs body env) (InvPostG h₀ env.locals (J (i + 1)) own { s with heap := h, toks := tk } Q) E { s with heap := h, toks := tk })
    (done : ∀ m₁ nx h tk, J n m₁ nx → Fr h₀ env.locals h m₁ → News h₀ env.locals h nx → Q .next { s with heap := h, toks := tk }) :
    LoopAtV prog w A h₀ env x body Q E (.ref I) s := by
  refine ⟨I, [I], [I], n, P, St, m₀, news, J, rfl, W, ?_, ?_, ?_, hst, F, N, hj, ?_, ?_⟩
  · exact fun h => hI (List.mem_singleton.mp h).symm
  · exact fun b hb => (List.mem_singleton.mp hb) ▸ hI0
  · exact fun p hp hb => hnw p hp (List.mem_singleton.mp hb)
  · rintro i v m₁ nx s₁ own ⟨h, tk, rfl⟩ hi hP hJ hoff hsub hget hall hst₁ F₁ N₁
    obtain ⟨o, ho, hC⟩ := hlive _ _ hst₁
    have hIown : (I, o) ∈ own := hall I (List.mem_singleton.mpr rfl) hI0 o ho
    have hsep : OwnOff own (nx.map (·.1)) := by
      intro p hp b hb e
      obtain ⟨q, hq, rfl⟩ := List.mem_map.mp hb
      exact hoff q hq (e ▸ hsub p hp)
    have N₂ : News h₀ env.locals h (nx ++ own) := fun p hp => N₁ p ((List.mem_append.mp hp).elim (fun h => List.mem_append.mpr (.inr h)) fun h => List.mem_append.mpr (.inl h))
    have hCo : ∀ p ∈ own, C p.2 := fun p hp => by
      have e1 := (N₂ p (List.mem_append_right _ hp)).1
      have e2 : p.1 = I := List.mem_singleton.mp (hsub p hp)
      have e3 : h.get? I = some o := ho
      rw [e2, e3] at e1
      cases e1
      exact hC
    refine wpAny_mono (turn i v m₁ nx h tk own hi hP hCo hsep hJ F₁ N₂) (fun f s₂ p => ?_) fun _ _ e => e
    have fin : InvEndG h₀ env.locals (J (i + 1)) own { s with heap := h, toks := tk } s₂ → LoopStepU h₀ env.locals [I] own (J (i + 1)) { s with heap := h, toks := tk } .next s₂ := by
      rintro ⟨h', tk', m', news', nx', e, F', N', hn, hown, hoff', hm⟩
      refine ⟨rfl, h', tk', m', nx', e, F', fun p hp => N' p ((List.mem_append.mp hp).elim (hown p) (hn p)), fun p hp hq => ?_, hm⟩
      exact hoff' _ hIown p.1 (List.mem_map.mpr ⟨p, hp, rfl⟩) (List.mem_singleton.mp hq).symm
    cases f with
    | ret v => exact .ret p
    | brk => exact .brk p
    | next => exact .next (fin p)
    | cont => exact .cont (fin p)
  · rintro h' tk m' news' F' N' _ hJ
    exact done m' news' h' tk hJ F' N'
noncomputable abbrev RI (o : Obj) : Prop := o.cls = .type "range_iterator"
theorem rngG2 {σ : Type} {r : Addr} {a₀ b₀ : Int} {t₀ u₀ v₀ : Tok} {n : Nat} {m₀ : Str → Option Value} (Led : σ → List (Addr × Obj)) (ps : σ → List (Str × Value)) (stored : List Str) (P : Nat → σ → Prop)
    (hh : A.handled = none) (hr : IsRange s.heap r a₀ b₀ 1 t₀ u₀ v₀) (hsmall : Builtin.Range.small a₀ b₀ 1 = true) (hn : Builtin.Range.rangeSize a₀ b₀ 1 = (n : Int)) (F : Fr h₀ env.locals s.heap m₀) (h0 : ∃ c₀ : σ, News h₀ env.locals s.heap (Led c₀) ∧ (∀ p ∈ ps c₀, m₀ p.1 = some p.2) ∧ P 0 c₀)
    (turn : ∀ (i : Nat) (c : σ) t (u : Str → Option Value) h tk own, i < n → (∀ p ∈ own, RI p.2) → OwnOff own ((Led c).map (·.1)) → P i c →
      Fr h₀ env.locals h (fun y => if y = x then some (.int (a₀ + (i : Int)) t) else kstB (fun z => if stored.contains z then u z else m₀ z) (ps c) y) → News h₀ env.locals h (Led c ++ own) →
      wpAny (model prog w) A (execs body env) (InvPostG h₀ env.locals (MS Led ps x stored m₀ (P (i + 1))) own { s with heap := h, toks := tk } Q) E { s with heap := h, toks := tk })
    (done : ∀ (c : σ) (u : Str → Option Value) h tk, P n c → Fr h₀ env.locals h (fun y => if y = x then u y else kstB (fun z => if stored.contains z then u z else m₀ z) (ps c) y) → News h₀ env.locals h (Led c) → Q .next { s with heap := h, toks := tk }) :
    wpAny (model prog w) A (pyIter (.ref r)) (fun it s₂ => LoopAtV prog w A h₀ env x body Q E it s₂) E s := by
  obtain ⟨c₀, N, hk, hp⟩ := h0
  refine wpAny_pyIter_range hr hsmall ?_
  refine loopG2 RI (fun i m nx => MS Led ps x stored m₀ (P i) m nx) (Walks.range hh _ a₀ 1 n) ?_ ?_ ?_ ?_ (by show IsRangeIter _ _ _ _ _; rw [hn]; simpa using Heap.get?_push_size _ rfl) (F.push _) (fun p hp => ⟨Heap.get?_push_of_some _ (N p hp).1, (N p hp).2⟩) ⟨c₀, rfl, hk, fun _ _ _ _ => rfl, hp⟩ ?_ ?_
  · exact fun i h st => ⟨_, st, rfl⟩
  · exact fun e => absurd F.ns.lt (e ▸ Nat.lt_irrefl _)
  · exact next_is_new F
  · exact fun p hp e => absurd (Heap.lt_size (N p hp).1) (e ▸ Nat.lt_irrefl _)
  · rintro i v m₁ nx h tk own hi ⟨t, rfl⟩ hC hoff ⟨c, rfl, h1, h2, hp'⟩ F₁ N₁
    have e1 : a₀ + (i : Int) * 1 = a₀ + (i : Int) := by omega
    rw [e1] at F₁
    exact turn i c t m₁ h tk own hi hC hoff hp' (kst_fr h1 h2 F₁) N₁
  · rintro m₁ nx h tk ⟨c, rfl, h1, h2, hp'⟩ F₁ N₁
    exact done c m₁ h tk hp' (kst_frOut h1 h2 F₁) N₁
end
section
variable {prog : Program} {w : World} {A : Around} {E : Value → Shared → Prop} {s : Shared} {env : Env} {h₀ : Heap} {y : Str} {body : List Stmt} {Q : Flow → Shared → Prop}
theorem drawnR2 {cs : List Int} {hand : Int} {st0 : DSt} {dA tA lA pA rA : Addr} {tO rO : Obj} {v0 v1 v2 : Value} {k0 k1 k2 : Nat} {cst0 : List (Addr × Obj)} {th : Tok} {r : Addr} {t₀ u₀ v₀ : Tok} {m₀ : Str → Option Value}
    (hh : A.handled = none) (hr : IsRange s.heap r 0 5 1 t₀ u₀ v₀) (F : Fr h₀ env.locals s.heap m₀)
    (N : News h₀ env.locals s.heap ((dA, W.listOf #[v2] k2) :: (tA, tO) :: (lA, W.listOf #[v1] k1) :: (pA, W.listOf #[v0] k0) :: (rA, rO) :: cst0))
    (o1 : AllLt dA ((tA, tO) :: (lA, W.listOf #[v1] k1) :: (pA, W.listOf #[v0] k0) :: (rA, rO) :: cst0)) (o2 : AllLt tA ((lA, W.listOf #[v1] k1) :: (pA, W.listOf #[v0] k0) :: (rA, rO) :: cst0)) (o3 : AllLt lA ((pA, W.listOf #[v0] k0) :: (rA, rO) :: cst0)) (o4 : AllLt pA ((rA, rO) :: cst0))
    (hm1 : m₀ (Str.ofString "pile") = some (.ref pA)) (hm2 : m₀ (Str.ofString "host") = some (.str st0.host th))
    (hp : DatAll ((tA, tO) :: (rA, rO) :: cst0) [v0] (st0.pile.map dInts)) (hl : StrsAre [v1] st0.lines) (hd : DatAll ((tA, tO) :: (rA, rO) :: cst0) [v2] st0.due) (hok : PileOk 0 st0.pile) (hll : st0.lines.length = 1) (hdl : st0.due.length = 1)
    (turn : ∀ (i : Nat) (c : DH) t (uu : Str → Option Value) h tk own, i < 5 → (∀ p ∈ own, RI p.2) → OwnOff own ((dLed dA lA ((tA, tO) :: (rA, rO) :: cst0) c).map (·.1)) → DInv cs hand st0 dA lA ((tA, tO) :: (rA, rO) :: cst0) i c →
      Fr h₀ env.locals h (fun z => if z = y then some (.int (0 + (i : Int)) t) else kstB (fun z => if dStored.contains z then uu z else m₀ z) (dPs c) z) →
      News h₀ env.locals h ((dA, W.listOf c.dvs.toArray c.dk) :: (lA, W.listOf c.lvs.toArray c.lk) :: (c.pA, W.listOf c.pvs.toArray c.pk) :: (c.tl ++ (((tA, tO) :: (rA, rO) :: cst0) ++ own))) →
      wpAny (model prog w) A (execs body env) (InvPostG h₀ env.locals (MS (dLed dA lA ((tA, tO) :: (rA, rO) :: cst0)) dPs y dStored m₀ (DInv cs hand st0 dA lA ((tA, tO) :: (rA, rO) :: cst0) (i + 1))) own { s with heap := h, toks := tk } Q) E { s with heap := h, toks := tk })
    (done : ∀ (c : DH) (uu : Str → Option Value) h tk, DInv cs hand st0 dA lA ((tA, tO) :: (rA, rO) :: cst0) 5 c → Fr h₀ env.locals h (fun z => if z = y then uu z else kstB (fun z => if dStored.contains z then uu z else m₀ z) (dPs c) z) → News h₀ env.locals h (dLed dA lA ((tA, tO) :: (rA, rO) :: cst0) c) → Q .next { s with heap := h, toks := tk }) :
    wpAny (model prog w) A (pyIter (.ref r)) (fun it s₂ => LoopAtV prog w A h₀ env y body Q E it s₂) E s := by
  refine rngG2 (dLed dA lA ((tA, tO) :: (rA, rO) :: cst0)) dPs dStored (DInv cs hand st0 dA lA ((tA, tO) :: (rA, rO) :: cst0)) hh hr (by decide +kernel) (n := 5) (by decide +kernel) F ?_ ?_ done
  · have q1 := fun p hp => Nat.ne_of_lt (allLt_in o1 p hp)
    have q2 := fun p hp => Nat.ne_of_lt (allLt_in o2 p hp)
    have q3 := fun p hp => Nat.ne_of_lt (allLt_in o3 p hp)
    have q4 := fun p hp => Nat.ne_of_lt (allLt_in o4 p hp)
    refine ⟨⟨pA, [v0], k0, [v1], k1, [v2], k2, [], st0, th⟩, ?_, faC hm1 (fa1 hm2), ⟨hp, hl, hd, ?_, ?_, ?_, ⟨fa0, fa0, fa0⟩, ⟨?_, ?_, ?_⟩, hok, hll, hdl, rfl⟩⟩
    · refine news_sub N fun p hp => ?_
      simp only [dLed, List.nil_append, List.mem_cons] at hp ⊢
      rcases hp with h | h | h | h | h | h <;> simp [h]
    · exact Ne.symm (q1 (lA, _) (.tail _ (.head _)))
    · exact Ne.symm (q1 (pA, _) (.tail _ (.tail _ (.head _))))
    · exact Ne.symm (q3 (pA, _) (.head _))
    · intro p hp
      rcases List.mem_cons.mp hp with rfl | hp
      · exact q1 _ (.head _)
      · exact q1 _ (.tail _ (.tail _ (.tail _ hp)))
    · intro p hp
      rcases List.mem_cons.mp hp with rfl | hp
      · exact Ne.symm (q2 (lA, _) (.head _))
      · exact q3 _ (.tail _ hp)
    · intro p hp
      rcases List.mem_cons.mp hp with rfl | hp
      · exact Ne.symm (q2 (pA, _) (.tail _ (.head _)))
      · exact q4 _ hp
  · rintro i c t uu h tk own hi hC hoff hp F' N'
    exact turn i c t uu h tk own hi hC hoff hp F' (by simpa only [dLed, List.cons_append, List.append_assoc] using N')
end

inductive FlatA : Dat → Prop
  | int (i : Int) : FlatA (.int i)
  | str (x : Str) : FlatA (.str x)
  | pair (x : Str) (i : Int) : FlatA (.tuple [.str x, .int i])
theorem reply_flat (kind d : Int) (T : List (Str × Str)) (host : Str) : FlatA (replyD kind d T host).2 := by
  unfold replyD
  (repeat' split) <;> first | exact .int _ | exact .str _ | exact .pair _ _
theorem reply_inv {tl : List (Addr × Obj)} {r : Value} {R : Str} {A : Dat} (h : DatIn tl r (.tuple [.str R, A])) (hf : FlatA A) :
    ∃ a v2 n t tl', r = .ref a ∧ (∀ p ∈ tl', p ∈ tl ∧ p.2.cls = .type "tuple") ∧ (a, tupO [.str R t, v2] n) ∈ tl' ∧ DatIn tl' v2 A := by
  cases h with
  | @tuple a vs n _ hm hr =>
    cases hr with
    | cons h1 hr =>
      cases h1 with
      | str _ t =>
        cases hr with
        | cons h2 hr =>
          cases hr
          cases hf with
          | int i =>
            cases h2 with
            | int _ u => exact ⟨a, _, n, t, [_], rfl, fun p hp => (List.mem_singleton.mp hp) ▸ ⟨hm, rfl⟩, .head _, .int _ _⟩
          | str x =>
            cases h2 with
            | str _ u => exact ⟨a, _, n, t, [_], rfl, fun p hp => (List.mem_singleton.mp hp) ▸ ⟨hm, rfl⟩, .head _, .str _ _⟩
          | pair x i =>
            cases h2 with
            | @tuple a2 vs2 n2 _ hm2 hr2 =>
              refine ⟨a, _, n, t, [_, (a2, ({ cls := .type "tuple", data := .seq vs2.toArray n2 } : Obj))], rfl, fun p hp => ?_, .head _, .tuple (.tail _ (.head _)) ?_⟩
              · rcases List.mem_cons.mp hp with rfl | hp
                · exact ⟨hm, rfl⟩
                · exact (List.mem_singleton.mp hp) ▸ ⟨hm2, rfl⟩
              · cases hr2 with
                | cons h3 hr2 =>
                  cases h3 with
                  | str _ u =>
                    cases hr2 with
                    | cons h4 hr2 =>
                      cases h4 with
                      | int _ u2 => cases hr2; exact .cons (.str _ _) (.cons (.int _ _) .nil)
theorem ne_of_cls {h₀ h : Heap} {L : Addr} {led : List (Addr × Obj)} (N : News h₀ L h led) {p q : Addr × Obj} (hp : p ∈ led) (hq : q ∈ led) (hc : p.2.cls ≠ q.2.cls) : p.1 ≠ q.1 := fun e => by
  have h1 := (N p hp).1
  have h2 := (N q hq).1
  rw [e, h2] at h1
  exact hc (congrArg Obj.cls (Option.some.inj h1).symm)
theorem cls_lt : Value.type "tuple" ≠ Value.type "list" := by decide
theorem cls_lr : Value.type "tuple" ≠ Value.type "range_iterator" := by decide
theorem dTurn_go {cs : List Int} {hand : Int} {i : Nat} {st : DSt} {cv : Int} {rs : List Int} {pl : List (List Int)} {wd R : Str} {A : Dat} (hcv : cs[i]? = some cv) (he : runsOf (Int.fmod cv 4) (Int.fmod (Int.fdiv cv 4) 6) st.pile = (rs, pl, wd))
    (hr : replyD (Int.fmod (Int.fdiv cv 24) 5) (Int.fdiv cv 120) (tabOf hand) st.host = (R, A)) (hw : wd = Str.ofString "") :
    dTurn cs hand i st = (⟨pl, st.lines ++ [lineOf hand rs R], st.due ++ [.tuple [.int pl.length, A]], hostOf st.host A⟩, false) := by
  have e : cs.getD i 0 = cv := by rw [List.getD_eq_getElem?_getD, hcv]; rfl
  unfold dTurn
  simp only [e, he, hr, if_pos hw]
theorem dTurn_stop {cs : List Int} {hand : Int} {i : Nat} {st : DSt} {cv : Int} {rs : List Int} {pl : List (List Int)} {wd R : Str} {A : Dat} (hcv : cs[i]? = some cv) (he : runsOf (Int.fmod cv 4) (Int.fmod (Int.fdiv cv 4) 6) st.pile = (rs, pl, wd))
    (hr : replyD (Int.fmod (Int.fdiv cv 24) 5) (Int.fdiv cv 120) (tabOf hand) st.host = (R, A)) (hw : wd ≠ Str.ofString "") :
    dTurn cs hand i st = (⟨pl, st.lines ++ [lineOf hand rs R], st.due ++ [.tuple [.int ((i : Int) + 2), .str wd, .str (lineOf hand rs R)]], st.host⟩, true) := by
  have e : cs.getD i 0 = cv := by rw [List.getD_eq_getElem?_getD, hcv]; rfl
  unfold dTurn
  simp only [e, he, hr, if_neg hw]
theorem dLoop_go {f : Nat → DSt → DSt × Bool} {i : Nat} {st st' fin : DSt} (hi : i < 5) (h : dLoop f (5 - i) i st = fin) (e : f i st = (st', false)) : dLoop f (5 - (i + 1)) (i + 1) st' = fin := by
  obtain ⟨k, hk⟩ : ∃ k, 5 - i = k + 1 := ⟨4 - i, by omega⟩
  have hk2 : 5 - (i + 1) = k := by omega
  rw [hk] at h
  rw [hk2, ← h]
  simp only [dLoop, e, Bool.false_eq_true, if_false]
theorem dLoop_stop {f : Nat → DSt → DSt × Bool} {i : Nat} {st st' fin : DSt} (hi : i < 5) (h : dLoop f (5 - i) i st = fin) (e : f i st = (st', true)) : st' = fin := by
  obtain ⟨k, hk⟩ : ∃ k, 5 - i = k + 1 := ⟨4 - i, by omega⟩
  rw [hk] at h
  simp only [dLoop, e, if_true] at h
  exact h
section
variable {h₀ : Heap} {y : Str} {L dA lA : Addr} {c : DH} {c1 : CH} {cst own ledF tlr : List (Addr × Obj)} {m₀ m' : Str → Option Value} {cs : List Int} {hand kd tn cv : Int} {st0 : DSt} {i : Nat}
theorem drawnEnd {h' : Heap} {s₁ : Shared} {tk' : Nat} {D : Addr} {v2 : Value} {R : Str} {A : Dat} {dk' lk' n : Nat} {lt t1 th' : Tok} (hi : i < 5)
    (F : Fr h₀ L h' m') (N : News h₀ L h' ledF)
    (g1 : (dA, W.listOf (c.dvs.toArray.push (.ref D)) dk') ∈ ledF) (g2 : (lA, W.listOf (c.lvs.toArray.push (.str (lineOf hand c1.rs R) lt)) lk') ∈ ledF) (g3 : (c1.pA, W.listOf c1.pvs.toArray c1.pk) ∈ ledF) (g4 : (D, tupO [.int (c1.pl.length : Int) t1, v2] n) ∈ ledF)
    (g5 : ∀ p ∈ tlr, p ∈ ledF) (g6 : ∀ p ∈ c1.tl ++ cst, p ∈ ledF) (g7 : ∀ p ∈ own, p ∈ ledF) (hft : ∀ p ∈ tlr, p.2.cls = .type "tuple") (hA : DatIn tlr v2 A) (hown : ∀ p ∈ own, RI p.2)
    (hcp : CP c dA lA cst own (Int.fmod cv 4) (Int.fmod (Int.fdiv cv 4) 6) c1) (hl : StrsAre c.lvs c.st.lines) (n1 : @Ne Nat dA lA) (hok : PileOk i c.st.pile) (hll : c.st.lines.length = 1 + i) (hdl : c.st.due.length = 1 + i)
    (hrun : dLoop (dTurn cs hand) (5 - i) i c.st = dLoop (dTurn cs hand) 5 0 st0) (hcv : cs[i]? = some cv)
    (hrp : replyD (Int.fmod (Int.fdiv cv 24) 5) (Int.fdiv cv 120) (tabOf hand) c.st.host = (R, A)) (hw : c1.wd = Str.ofString "")
    (hk : ∀ p ∈ ([(Str.ofString "pile", .ref c1.pA), (Str.ofString "host", .str (hostOf c.st.host A) th')] : List (Str × Value)), m' p.1 = some p.2) (hr : ∀ z, z ≠ y → (∀ p ∈ ([(Str.ofString "pile", .ref c1.pA), (Str.ofString "host", .str (hostOf c.st.host A) th')] : List (Str × Value)), z ≠ p.1) → dStored.contains z = false → m' z = m₀ z) :
    InvEndG h₀ L (MS (dLed dA lA cst) dPs y dStored m₀ (DInv cs hand st0 dA lA cst (i + 1))) own s₁ { s₁ with heap := h', toks := tk' } := by
  have htn := mod_in (Int.fdiv cv 4) (m := 6) (by decide)
  obtain ⟨_, hok'⟩ := runs_ok hok htn.1 htn.2 hcp.eq
  have hft' : ∀ p ∈ (D, tupO [.int (c1.pl.length : Int) t1, v2] n) :: tlr, p ∈ ledF ∧ p.2.cls = .type "tuple" := fun p hp => by
    rcases List.mem_cons.mp hp with rfl | hp
    · exact ⟨g4, rfl⟩
    · exact ⟨g5 p hp, hft p hp⟩
  have nd : ∀ p ∈ (D, tupO [.int (c1.pl.length : Int) t1, v2] n) :: tlr, p.1 ≠ dA := fun p hp => ne_of_cls N (hft' p hp).1 g1 (by rw [(hft' p hp).2]; exact cls_lt)
  have nl : ∀ p ∈ (D, tupO [.int (c1.pl.length : Int) t1, v2] n) :: tlr, p.1 ≠ lA := fun p hp => ne_of_cls N (hft' p hp).1 g2 (by rw [(hft' p hp).2]; exact cls_lt)
  have np : ∀ p ∈ (D, tupO [.int (c1.pl.length : Int) t1, v2] n) :: tlr, p.1 ≠ c1.pA := fun p hp => ne_of_cls N (hft' p hp).1 g3 (by rw [(hft' p hp).2]; exact cls_lt)
  have no : ∀ q ∈ own, ∀ p ∈ (D, tupO [.int (c1.pl.length : Int) t1, v2] n) :: tlr, q.1 ≠ p.1 := fun q hq p hp => Ne.symm (ne_of_cls N (hft' p hp).1 (g7 q hq) (by rw [(hft' p hp).2, hown q hq]; exact cls_lr))
  have sub1 : ∀ p ∈ c1.tl ++ cst, p ∈ ((D, tupO [.int (c1.pl.length : Int) t1, v2] n) :: (tlr ++ c1.tl)) ++ cst := fun p hp => by
    rcases List.mem_append.mp hp with h | h
    · exact List.mem_append_left _ (.tail _ (List.mem_append_right _ h))
    · exact List.mem_append_right _ h
  have sub2 : ∀ p ∈ tlr, p ∈ ((D, tupO [.int (c1.pl.length : Int) t1, v2] n) :: (tlr ++ c1.tl)) ++ cst := fun p hp => List.mem_append_left _ (.tail _ (List.mem_append_left _ hp))
  have hturn := dTurn_go hcv hcp.eq hrp hw
  refine endG ⟨c1.pA, c1.pvs, c1.pk, c.lvs ++ [.str (lineOf hand c1.rs R) lt], lk', c.dvs ++ [.ref D], dk', (D, tupO [.int (c1.pl.length : Int) t1, v2] n) :: (tlr ++ c1.tl), ⟨c1.pl, c.st.lines ++ [lineOf hand c1.rs R], c.st.due ++ [.tuple [.int c1.pl.length, A]], hostOf c.st.host A⟩, th'⟩ F N ?_ g7 ?_ hk hr ?_
  · intro p hp
    simp only [dLed, List.cons_append, List.mem_cons, List.mem_append] at hp
    rcases hp with h | h | h | h | (h | h) | h
    · rw [h, ← listOf_push]; exact g1
    · rw [h, ← listOf_push]; exact g2
    · exact h ▸ g3
    · exact h ▸ g4
    · exact g5 p h
    · exact g6 p (List.mem_append_left _ h)
    · exact g6 p (List.mem_append_right _ h)
  · intro q hq b hb
    simp only [dLed, List.cons_append, List.map_cons, List.mem_cons, List.map_append, List.mem_append] at hb
    have h9 := hcp.off q hq
    simp only [cLed, List.map_cons, List.mem_cons, List.map_append, List.mem_append] at h9
    rcases hb with rfl | rfl | rfl | rfl | (hb | hb) | hb
    · exact h9 _ (.inl rfl)
    · exact h9 _ (.inr (.inl rfl))
    · exact h9 _ (.inr (.inr (.inl rfl)))
    · exact no q hq _ (.head _)
    · obtain ⟨p, hp, rfl⟩ := List.mem_map.mp hb
      exact no q hq p (.tail _ hp)
    · exact h9 _ (.inr (.inr (.inr (.inl hb))))
    · exact h9 _ (.inr (.inr (.inr (.inr hb))))
  · refine ⟨hcp.pile.mono sub1, StrsAre_snoc hl, ?_, n1, hcp.n2, hcp.n3, ⟨?_, ?_, ?_⟩, hcp.a2, hok', by simp [hll]; omega, by simp [hdl]; omega, ?_⟩
    · exact (hcp.due.mono sub1).append (.one (.tuple (.head _) (.cons (.int _ _) (.cons (DatIn.mono sub2 hA) .nil))))
    · intro p hp
      rcases List.mem_cons.mp hp with rfl | hp
      · exact nd _ (.head _)
      rcases List.mem_append.mp hp with hp | hp
      · exact nd _ (.tail _ hp)
      · exact hcp.a1.d p hp
    · intro p hp
      rcases List.mem_cons.mp hp with rfl | hp
      · exact nl _ (.head _)
      rcases List.mem_append.mp hp with hp | hp
      · exact nl _ (.tail _ hp)
      · exact hcp.a1.l p hp
    · intro p hp
      rcases List.mem_cons.mp hp with rfl | hp
      · exact np _ (.head _)
      rcases List.mem_append.mp hp with hp | hp
      · exact np _ (.tail _ hp)
      · exact hcp.a1.p p hp
    · exact dLoop_go hi hrun hturn
end
theorem rep_sub {a b d : Addr × Obj} {tl tl' l r : List (Addr × Obj)} (h : ∀ p ∈ tl', p ∈ tl) : ∀ p ∈ a :: b :: d :: ((tl' ++ l) ++ r), p ∈ tl ++ a :: b :: d :: (l ++ r) := fun p hp => by
  simp only [List.mem_cons, List.mem_append] at hp ⊢
  rcases hp with q | q | q | (q | q) | q
  · simp [q]
  · simp [q]
  · simp [q]
  · exact .inl (h p q)
  · simp [q]
  · simp [q]
theorem in_mid2 (t a b own : List (Addr × Obj)) : ∀ p ∈ a ++ b, p ∈ (t ++ a) ++ (b ++ own) := fun p hp => by
  rcases List.mem_append.mp hp with h | h
  · exact List.mem_append_left _ (List.mem_append_right _ h)
  · exact List.mem_append_right _ (List.mem_append_left _ h)
theorem tlR_off {h₀ h : Heap} {L dA lA pA : Addr} {a1 a2 a3 : Array Value} {k1 k2 k3 : Nat} {tlR x y : List (Addr × Obj)} (N : News h₀ L h ((dA, W.listOf a1 k1) :: (lA, W.listOf a2 k2) :: (pA, W.listOf a3 k3) :: ((tlR ++ x) ++ y))) (hf : ∀ p ∈ tlR, p.2.cls = .type "tuple") :
    (∀ p ∈ tlR, p.1 ≠ dA) ∧ (∀ p ∈ tlR, p.1 ≠ lA) ∧ (∀ p ∈ tlR, p.1 ≠ pA) := by
  have hm : ∀ p ∈ tlR, p ∈ ((dA, W.listOf a1 k1) :: (lA, W.listOf a2 k2) :: (pA, W.listOf a3 k3) :: ((tlR ++ x) ++ y)) := fun p hp => .tail _ (.tail _ (.tail _ (List.mem_append_left _ (List.mem_append_left _ hp))))
  exact ⟨fun p hp => ne_of_cls N (hm p hp) (.head _) (by rw [hf p hp]; exact cls_lt), fun p hp => ne_of_cls N (hm p hp) (.tail _ (.head _)) (by rw [hf p hp]; exact cls_lt), fun p hp => ne_of_cls N (hm p hp) (.tail _ (.tail _ (.head _))) (by rw [hf p hp]; exact cls_lt)⟩
theorem item_p {prog : Program} {w : World} {A : Around} {E : Value → Shared → Prop} {s : Shared} {h₀ : Heap} {L : Addr} {led : List (Addr × Obj)} {Q : Value → Shared → Prop} {value slice : Expr} {l : Addr} {vs : List Value} {v : Value} {n : Nat} {u : Tok} (N : News h₀ L s.heap led) (hm : (l, W.listOf (vs.toArray.push v) n) ∈ led)
    (h : Q v s)
    (hs : subscripted slice false (.ref l) (.int (-1) u) = operate [.ref l, .int (-1) u] (getItem (.ref l) (.int (-1) u)) := by with_unfolding_all rfl) (hg : ∀ r, letTemporaryGo value (.ref l) r = pure () := by intro _; with_unfolding_all rfl) :
    wpAny (model prog w) A (subscriptTail value slice (.ref l) (.int (-1) u)) Q E s := by
  rw [listOf_push] at hm
  exact item_last (News.isList N hm) h hs hg
theorem lead_small {i : Nat} {rs : List Int} (h : RunW i rs) (hi : i ≤ 10) : ∀ v ∈ rs, 0 ≤ v ∧ v < 100 := fun v hv => by
  have := h.val v hv
  omega
noncomputable def st0Of (cs : List Int) : DSt :=
  ⟨[[1 + Int.fmod (cs.getD 5 0) 4, Int.fmod (Int.fdiv (cs.getD 5 0) 4) 3, Int.fmod (Int.fdiv (cs.getD 5 0) 12) 2]], [lineOf (Int.fmod (Int.fdiv (cs.getD 5 0) 24) 5) [1 + Int.fmod (cs.getD 5 0) 4, Int.fmod (Int.fdiv (cs.getD 5 0) 4) 3, Int.fmod (Int.fdiv (cs.getD 5 0) 12) 2] (Str.ofString "220 ready")], [.tuple [.int 1, .int 0]], Str.ofString "home"⟩
noncomputable def drawnD (cs : List Int) : DSt := dLoop (dTurn cs (Int.fmod (Int.fdiv (cs.getD 5 0) 24) 5)) 5 0 (st0Of cs)
noncomputable def DrawnIs (D : DSt) (r : Value) (led : List (Addr × Obj)) : Prop :=
  ∃ T lA lvs lk dA n, r = .ref T ∧ (T, tupO [.ref lA, .ref dA] n) ∈ led ∧ (lA, W.listOf lvs.toArray lk) ∈ led ∧ StrsAre lvs D.lines ∧ DatIn led (.ref dA) (.list D.due)
theorem drawnFin {h₀ h' : Heap} {L T lA dA : Addr} {m : Str → Option Value} {news led : List (Addr × Obj)} {tk' n lk dk : Nat} {s : Shared} {Q : Value → Shared → Prop} {D : DSt} {lvs dvs : List Value}
    (ret : ∀ r tl h' tk', Fr h₀ L h' m → News h₀ L h' (tl ++ news) → DrawnIs D r (tl ++ news) → Q r { s with heap := h', toks := tk' }) (F : Fr h₀ L h' m)
    (N : News h₀ L h' led) (hs : ∀ p ∈ news, p ∈ led) (g1 : (T, tupO [.ref lA, .ref dA] n) ∈ led) (g2 : (lA, W.listOf lvs.toArray lk) ∈ led) (g3 : (dA, W.listOf dvs.toArray dk) ∈ led) (hl : StrsAre lvs D.lines) (hd : DatAll led dvs D.due) : Q (.ref T) { s with heap := h', toks := tk' } :=
  ret _ led _ _ F (fun p hp => (List.mem_append.mp hp).elim (N p) fun q => N p (hs p q)) ⟨T, lA, lvs, lk, dA, n, rfl, List.mem_append_left _ g1, List.mem_append_left _ g2, hl, .list (List.mem_append_left _ g3) (hd.mono fun p hp => List.mem_append_left _ hp)⟩
theorem drawnFinB {h₀ h' : Heap} {L T lA dA D1 : Addr} {m : Str → Option Value} {news led : List (Addr × Obj)} {tk' n n1 lk dk : Nat} {s : Shared} {Q : Value → Shared → Prop} {D : DSt} {lvs dvs : List Value} {x k : Int} {wd line : Str} {lt t1 t2 t3 : Tok} {ls : List Str} {du : List Dat} {pl : List (List Int)} {host : Str}
    (ret : ∀ r tl h' tk', Fr h₀ L h' m → News h₀ L h' (tl ++ news) → DrawnIs D r (tl ++ news) → Q r { s with heap := h', toks := tk' }) (F : Fr h₀ L h' m)
    (N : News h₀ L h' led) (hs : ∀ p ∈ news, p ∈ led) (g1 : (T, tupO [.ref lA, .ref dA] n) ∈ led) (g2 : (lA, W.listOf (lvs.toArray.push (.str line lt)) lk) ∈ led) (g3 : (dA, W.listOf (dvs.toArray.push (.ref D1)) dk) ∈ led) (g4 : (D1, tupO [.int x t1, .str wd t2, .str line t3] n1) ∈ led)
    (hl : StrsAre lvs ls) (hd : DatAll led dvs du) (hx : x = k) (e : (⟨pl, ls ++ [line], du ++ [.tuple [.int k, .str wd, .str line]], host⟩ : DSt) = D) : Q (.ref T) { s with heap := h', toks := tk' } := by
  rw [listOf_push] at g2 g3
  subst e
  refine drawnFin ret F N hs g1 g2 g3 (StrsAre_snoc hl) (hd.append (.one (.tuple g4 (.cons (hx ▸ .int _ _) (.cons (.str _ _) (.cons (.str _ _) .nil))))))
theorem wd_nil {x y : Str} (h : (x != y) = false) : x = y := by simpa using h
theorem wd_some {x y : Str} (h : (x != y) = true) : x ≠ y := by simpa using h
theorem kstB_f {f : Str → Option Value} {ps : List (Str × Value)} {z : Str} (h : ∀ p ∈ ps, z ≠ p.1) : kstB f ps z = f z := by
  induction ps with
  | nil => rfl
  | cons p r ih =>
    show (if z = p.1 then some p.2 else kstB f r z) = f z
    rw [if_neg (h p (.head _))]
    exact ih (fun q hq => h q (.tail _ hq))
theorem at_out {z : Str} (h : dStored.contains z = false) : ¬ ([Str.ofString "at"].contains z = true) := fun q => by
  have e : z = Str.ofString "at" := by simpa using q
  rw [e] at h
  exact absurd h (by decide +kernel)
theorem cPs_out {c1 : CH} {z : Str} (h1 : z ≠ Str.ofString "pile") (h3 : dStored.contains z = false) : ∀ p ∈ cPs c1, z ≠ p.1 := faC (show z ≠ Str.ofString "runs" from ne_of_stored h3 (by decide +kernel)) (faC (show z ≠ Str.ofString "words" from ne_of_stored h3 (by decide +kernel)) (fa1 h1))
theorem fin_eq {cs : List Int} {c5 : Int} {st0 : DSt} (h5 : cs[(5 : Int).toNat]? = some c5) (h0 : st0 = ⟨[[1 + Int.fmod c5 4, Int.fmod (Int.fdiv c5 4) 3, Int.fmod (Int.fdiv c5 12) 2]], [lineOf (Int.fmod (Int.fdiv c5 24) 5) [1 + Int.fmod c5 4, Int.fmod (Int.fdiv c5 4) 3, Int.fmod (Int.fdiv c5 12) 2] (Str.ofString "220 ready")], [.tuple [.int 1, .int 0]], Str.ofString "home"⟩) :
    dLoop (dTurn cs (Int.fmod (Int.fdiv c5 24) 5)) 5 0 st0 = drawnD cs := by
  have e : cs.getD 5 0 = c5 := by
    rw [List.getD_eq_getElem?_getD]
    show (cs[(5 : Int).toNat]?).getD 0 = c5
    rw [h5]; rfl
  unfold drawnD st0Of
  rw [e, h0]
end Mine

-- MHq
namespace Mine
theorem intsQ {news : List (Addr × Obj)} {v : Value} {l : List Int} {Q : Value → Prop} (h : DatIn news v (dInts l)) (k : ∀ a vs n, (a, PySem.W.listOf vs.toArray n) ∈ news → IntsAre vs l → Q (.ref a)) : Q v := by
  obtain ⟨a, vs, n, rfl, h1, h2⟩ := ints_of h
  exact k a vs n h1 h2
theorem ints_atC {vs : List Value} {ns : List Int} (hi : IntsAre vs ns) {k : Nat} {c : Int} (hc : ns[k]? = some c) : ∃ u, vs[k]? = some (.int c u) := hi.get k c hc
structure RB where
  a : Addr
  v : Value
  n : Nat
  t : Tok
  tl : List (Addr × Obj)
theorem neRB : Nonempty RB := ⟨⟨0, default, 0, default, []⟩⟩
theorem neDSt : Nonempty DSt := ⟨⟨[], [], [], default⟩⟩
theorem neDH : Nonempty DH := ⟨⟨0, [], 0, [], 0, [], 0, [], ⟨[], [], [], default⟩, default⟩⟩
theorem neCH : Nonempty CH := ⟨⟨0, [], 0, 0, [], 0, [], [], [], default, default⟩⟩
theorem spec_useR {w : World} {f : Addr} {D U : Nat} {vs : List Value} {news : List (Addr × Obj)} {mean : ExcName → Option Value} {mg mb : Str → Option Value} {dp un : Nat} {gd : Option (List Code)} {cn : Str} {cs : Scope} {a : Addr} {ccd : Value} {cl : List (Str × Addr)} {outer : List Env} {A₀ : Around} {base h₀ : Heap} {L : Addr} {m : Str → Option Value} {s : Shared} {Q E : Value → Shared → Prop}
    {R : Str} {A : Dat} (C : Spec w f D U vs news (fun r tl => DatIn tl r (.tuple [.str R, A]))) (hf : FlatA A)
    (B : Below A₀ base outer h₀) (F : Fr h₀ L s.heap m) (X : (Mine.hd.heap_1 w.params).In h₀) (N : News h₀ L s.heap news) (T : Top P0 L0 mean mg mb h₀) (hk : cs.kind = .function)
    (hd : dp + D < recursionLimit) (hu : un + U < cLine)
    (ret : ∀ (b : RB) tl h' tk', Fr h₀ L h' m → News h₀ L h' (tl ++ news) → (∀ p ∈ b.tl, p ∈ tl ∧ p.2.cls = .type "tuple") ∧ (b.a, tupO [.str R b.t, b.v] b.n) ∈ b.tl ∧ DatIn b.tl b.v A → Q (.ref b.a) { s with heap := h', toks := tk' }) :
    wpAny (model PySem.Challenge.rw_wn0113_01.row.prog w) (ktrTop dp un gd cn cs L a ccd cl outer) (call (.ref f) vs) Q E s :=
  spec_use C B F X N T hk hd hu fun r tl h' tk' F' N' hp => by
    obtain ⟨aR, v2R, nR, tR, tlR, rfl, hfR, hmR2, hA9⟩ := reply_inv hp hf
    exact ret ⟨aR, v2R, nR, tR, tlR⟩ tl h' tk' F' N' ⟨hfR, hmR2, hA9⟩
section
variable {prog : Program} {w : World} {A : Around} {E : Value → Shared → Prop} {s : Shared} {h₀ : Heap} {L : Addr} {led led0 : List (Addr × Obj)}
theorem item_m1I {Q : Value → Shared → Prop} {value slice : Expr} {l : Addr} {vs : List Value} {n : Nat} {ds : List Dat} {ns : List Int} {u : Tok} (N : News h₀ L s.heap led) (hm : (l, W.listOf vs.toArray n) ∈ led) (hd : DatAll led0 vs (ds ++ [dInts ns]))
    (h : ∀ a vs' n', (a, W.listOf (List.toArray vs') n') ∈ led0 → IntsAre vs' ns → Q (.ref a) s)
    (hs : subscripted slice false (.ref l) (.int (-1) u) = operate [.ref l, .int (-1) u] (getItem (.ref l) (.int (-1) u)) := by with_unfolding_all rfl) (hg : ∀ r, letTemporaryGo value (.ref l) r = pure () := by intro _; with_unfolding_all rfl) :
    wpAny (model prog w) A (subscriptTail value slice (.ref l) (.int (-1) u)) Q E s :=
  item_m1 N hm hd (fun v hv => by obtain ⟨a, vs, n, rfl, h1, h2⟩ := ints_of hv; exact h a vs n h1 h2) hs hg
theorem item_datI {Q : Value → Shared → Prop} {value slice : Expr} {l : Addr} {vs : List Value} {n : Nat} {ns : List Int} {k : Int} {u : Tok} (ds : List Dat) (N : News h₀ L s.heap led) (hm : (l, W.listOf vs.toArray n) ∈ led) (hd : DatAll led vs ds) (h0 : 0 ≤ k) (h1 : k < 1000) (hk : ds[k.toNat]? = some (dInts ns))
    (h : ∀ a vs' n', (a, W.listOf (List.toArray vs') n') ∈ led → IntsAre vs' ns → Q (.ref a) s)
    (hs : subscripted slice false (.ref l) (.int k u) = operate [.ref l, .int k u] (getItem (.ref l) (.int k u)) := by with_unfolding_all rfl) (hg : ∀ r, letTemporaryGo value (.ref l) r = pure () := by intro _; with_unfolding_all rfl) :
    wpAny (model prog w) A (subscriptTail value slice (.ref l) (.int k u)) Q E s :=
  item_datS ds N hm hd h0 h1 hk (fun v hv => by obtain ⟨a, vs, n, rfl, h1, h2⟩ := ints_of hv; exact h a vs n h1 h2) hs hg
end
structure TB where
  a : Addr
  vs : List Value
  n : Nat
theorem neTB : Nonempty TB := ⟨⟨0, [], 0⟩⟩
theorem flat_cases {tl : List (Addr × Obj)} {v : Value} {A : Dat} (hf : FlatA A) (h : DatIn tl v A) :
    (∃ (k : Int) (t : Tok), A = .int k ∧ v = .int k t) ∨ (∃ (x : Str) (t : Tok), A = .str x ∧ v = .str x t) ∨ (∃ (d : List Dat) (b : TB), A = .tuple d ∧ v = .ref b.a ∧ (b.a, tupO b.vs b.n) ∈ tl) := by
  cases hf <;> cases h
  all_goals first
    | exact .inl ⟨_, _, rfl, rfl⟩
    | exact .inr (.inl ⟨_, _, rfl, rfl⟩)
    | exact .inr (.inr ⟨_, ⟨_, _, _⟩, rfl, rfl, by assumption⟩)
theorem prod_snd {α β : Type} {p : α × β} {b : β} (h : p.2 = b) : p = (p.1, b) := Prod.ext rfl h
end Mine

-- CDr
noncomputable section
namespace Mine
theorem sz_le {vs : List Value} (h : Nat.ble vs.length 16777216 = true) : vs.length ≤ sizeLine := by rw [sizeLine_eq]; exact Nat.le_of_ble_eq_true h
theorem cDrawn (w : World) (news : List (Addr × Obj)) (a : Addr) (vs : List Value) (cs : List Int) (ha : (a, lst vs) ∈ news) (hi : IntsAre vs cs) (hl : cs.length = 6) (hb : ∀ c ∈ cs, 0 ≤ c ∧ c < 100000000) :
    Spec w 269 3 300 [.ref a] news (fun r tl => DrawnIs (drawnD cs) r (tl ++ news)) := by
  have hvl : vs.length = 6 := by rw [hi.length, hl]
  have hfirst : ∃ c5, cs[(5 : Int).toNat]? = some c5 ∧ 0 ≤ c5 ∧ c5 < 100000000 := by
    have : 5 < cs.length := by omega
    exact ⟨cs[5], List.getElem?_eq_getElem this, hb _ (List.getElem_mem this)⟩
  obtain ⟨c5, hc5, hb5⟩ := hfirst
  have hh5 : 0 ≤ Int.fmod (Int.fdiv c5 24) 5 ∧ Int.fmod (Int.fdiv c5 24) 5 < 5 := mod_in _ (by decide)
  have hh4 : 0 ≤ Int.fmod c5 4 ∧ Int.fmod c5 4 < 4 := mod_in _ (by decide)
  have hh3 : 0 ≤ Int.fmod (Int.fdiv c5 4) 3 ∧ Int.fmod (Int.fdiv c5 4) 3 < 3 := mod_in _ (by decide)
  have hh2 : 0 ≤ Int.fmod (Int.fdiv c5 12) 2 ∧ Int.fmod (Int.fdiv c5 12) 2 < 2 := mod_in _ (by decide)
  obtain ⟨st0, hst0⟩ : ∃ st0 : DSt, st0 = ⟨[[1 + Int.fmod c5 4, Int.fmod (Int.fdiv c5 4) 3, Int.fmod (Int.fdiv c5 12) 2]], [lineOf (Int.fmod (Int.fdiv c5 24) 5) [1 + Int.fmod c5 4, Int.fmod (Int.fdiv c5 4) 3, Int.fmod (Int.fdiv c5 12) 2] (Str.ofString "220 ready")], [.tuple [.int 1, .int 0]], Str.ofString "home"⟩ := ⟨_, rfl⟩
  have hok0 : PileOk 0 st0.pile := by
    rw [hst0]
    refine ⟨List.cons_ne_nil _ _, Nat.le_refl _, fun r hr => ?_⟩
    obtain rfl := List.mem_singleton.mp hr
    refine ⟨Nat.le_refl 3, Nat.le_refl 3, fun x hx => ?_, by show 1 ≤ 1 + Int.fmod c5 4; omega⟩
    simp only [List.mem_cons, List.not_mem_nil, or_false] at hx
    rcases hx with rfl | rfl | rfl <;> omega
  have hfin := fin_eq hc5 hst0
  have hL0 : (leadS [1 + Int.fmod c5 4, Int.fmod (Int.fdiv c5 4) 3, Int.fmod (Int.fdiv c5 12) 2]).length ≤ 6464 := lead_len (by show 3 ≤ 64; decide) (by intro v hv; simp only [List.mem_cons, List.not_mem_nil, or_false] at hv; rcases hv with rfl | rfl | rfl <;> omega)
  have hS0 := sp_len (Int.fmod (Int.fdiv c5 24) 5) (Str.ofString "220 ready")
  have hS1 : (Str.ofString "220 ready").length = 9 := by decide +kernel
  have hLead0 : ∀ v ∈ [1 + Int.fmod c5 4, Int.fmod (Int.fdiv c5 4) 3, Int.fmod (Int.fdiv c5 12) 2], 0 ≤ v ∧ v < 100 := by intro v hv; simp only [List.mem_cons, List.not_mem_nil, or_false] at hv; rcases hv with rfl | rfl | rfl <;> omega
  have hkOn := HkOn.mk
  revert w news a vs cs c5 st0
  intro w news a vs cs ha hi hl hb hvl c5 hc5 hb5 hh5 hh4 hh3 hh2 st0 hst0 hok0 hfin hL0 hS0 hLead0
  refine spec_ctx ?_
  k_fill
  intro cx B F X N TT hk hdp hun ret
  k_with_none
  k_with "m eval Name" => (k_here; name_kind "local"; k_dflt (refine' ld (by k_asm) ?_ ?_; (first | exact rfl | (rotate_left; exact rfl)); k_whole))
  k_with "m k_mem" => first | with_reducible assumption | (refine' List.mem_append_left _ ?_; k_mem) | (refine' List.mem_append_right _ ?_; k_mem)
  k_with "m ne" => first | assumption | (rename ∀ p ∈ _, _ ≠ Prod.fst p => hh2; k_extra "m ne1") | (refine ne_of_stored (by assumption) ?_; decide +kernel)
  k_with "m ne1" => (rename ∀ p ∈ _, _ ≠ Prod.fst p => hh2; first | (have hh3 := hh2 _ (List.Mem.head _); exact hh3) | (replace hh2 := ne_tail hh2; k_extra "m ne1"))
  k_with "m nes" => first | exact fa0 | (refine faC ?_ ?_; (k_extra "m ne"); (k_extra "m nes"))
  k_with "m same1" => first | (refine kstB_out ?_ (by assumption); k_extra "m nes") | (refine (if_neg ?_).trans ?_; (k_extra "m ne"); (k_extra "m same1"))
  k_with "m same" => (intro z h1 h2 h3; k_extra "m same1")
  k_with "m sameW" => (intro z h2 h3; k_extra "m same1")
  k_with "m k_all" => first | with_reducible assumption | (refine' List.forall_mem_append.mpr ⟨?_, ?_⟩; (k_all); (k_all))
  k_with "hk on" => fail_if_success (fail_if_success (with_reducible rename HkOn => hkOn))
  k_with "hk ne" => first | exact neAround | exact neShared | exact neWorld | exact neDrawn | exact neGen | exact neSCtx | exact neI | exact Nonempty.intro (by constructor <;> first | exact default | (constructor <;> exact default))
  k_with "m execs cons" => (k_extra "hk on"; (try k_made); (with_reducible refine wpAny_execs_cons ?_); try dsimp only)
  k_with "m execs nil" => (k_extra "hk on"; refine wpAny_execs_nil ?_)
  k_with "hk omega" => ((k_extra "hk on"); dsimp +zetaDelta only; first | lia | omega +splitDisjunctions)
  k_with "hk ne" => exact neWsD
  k_with "m k_mem" => first | (with_reducible assumption) | exact List.Mem.head _ | ((with_reducible refine' List.mem_append_left _ ?_); k_mem) | ((with_reducible refine' List.mem_append_right _ ?_); k_mem) | ((with_reducible refine' List.Mem.tail _ ?_); (try show (_ : Addr × Obj) ∈ (_ : List (Addr × Obj))); k_mem)
  k_with "m same2" => first | with_reducible rfl | (refine (if_neg ?_).trans ?_; (k_extra "m ne"); (k_extra "m same2"))
  k_with "m same3" => first | (refine kstB_out ?_ (by assumption); k_extra "m nes") | (refine (kstB_f (cPs_out ?_ (by assumption))).trans ?_; (k_extra "m ne"); refine (if_neg (at_out (by assumption))).trans ?_; k_extra "m same3") | (refine (if_neg ?_).trans ?_; (k_extra "m ne"); (k_extra "m same3"))
  k_with_none
  k_with "m eval Name" => (k_here; name_kind "local"; k_dflt (refine' ld (by k_asm) ?_ ?_; (first | exact rfl | (rotate_left; exact rfl)); k_whole))
  k_with "m k_mem" => first | with_reducible assumption | (refine' List.mem_append_left _ ?_; k_mem) | (refine' List.mem_append_right _ ?_; k_mem)
  k_with "m ne" => first | assumption | (rename ∀ p ∈ _, _ ≠ Prod.fst p => hh2; k_extra "m ne1") | (refine ne_of_stored (by assumption) ?_; decide +kernel)
  k_with "m ne1" => (rename ∀ p ∈ _, _ ≠ Prod.fst p => hh2; first | (have hh3 := hh2 _ (List.Mem.head _); exact hh3) | (replace hh2 := ne_tail hh2; k_extra "m ne1"))
  k_with "m nes" => first | exact fa0 | (refine faC ?_ ?_; (k_extra "m ne"); (k_extra "m nes"))
  k_with "m same1" => first | (refine kstB_out ?_ (by assumption); k_extra "m nes") | (refine (if_neg ?_).trans ?_; (k_extra "m ne"); (k_extra "m same1"))
  k_with "m same" => (intro z h1 h2 h3; k_extra "m same1")
  k_with "m sameW" => (intro z h2 h3; k_extra "m same1")
  k_with "m k_all" => first | with_reducible assumption | (refine' List.forall_mem_append.mpr ⟨?_, ?_⟩; (k_all); (k_all))
  k_with "hk on" => fail_if_success (fail_if_success (with_reducible rename HkOn => hkOn))
  k_with "hk ne" => first | exact neAround | exact neShared | exact neWorld | exact neDrawn | exact neGen | exact neSCtx | exact neI | exact Nonempty.intro (by constructor <;> first | exact default | (constructor <;> exact default))
  k_with "m execs cons" => (k_extra "hk on"; (try k_made); (with_reducible refine wpAny_execs_cons ?_); try dsimp only)
  k_with "m execs nil" => (k_extra "hk on"; refine wpAny_execs_nil ?_)
  k_with "hk omega" => ((k_extra "hk on"); dsimp +zetaDelta only; first | lia | omega +splitDisjunctions)
  k_with "hk ne" => exact neWsD
  k_with "m k_mem" => first | (with_reducible assumption) | exact List.Mem.head _ | ((with_reducible refine' List.mem_append_left _ ?_); k_mem) | ((with_reducible refine' List.mem_append_right _ ?_); k_mem) | ((with_reducible refine' List.Mem.tail _ ?_); (try show (_ : Addr × Obj) ∈ (_ : List (Addr × Obj))); k_mem)
  k_with "m same2" => first | with_reducible rfl | (refine (if_neg ?_).trans ?_; (k_extra "m ne"); (k_extra "m same2"))
  k_with "m same3" => first | (refine kstB_out ?_ (by assumption); k_extra "m nes") | (refine (kstB_f (cPs_out ?_ (by assumption))).trans ?_; (k_extra "m ne"); refine (if_neg (at_out (by assumption))).trans ?_; k_extra "m same3") | (refine (if_neg ?_).trans ?_; (k_extra "m ne"); (k_extra "m same3"))
  k_with "m call ref" =>
    first | (show wpAny _ _ (call (Value.ref _) [_]) _ _ _) | (show wpAny _ _ (call (Value.ref _) [_, _]) _ _ _) | (show wpAny _ _ (call (Value.ref _) [_, _, _]) _ _ _) | (show wpAny _ _ (call (Value.ref _) [_, _, _, _]) _ _ _) | skip
    rename Fr _ _ _ _ => F3
    rename News _ _ _ _ => N3
    first
    | (with_reducible show wpAny _ _ (call (Value.ref 240) [_]) _ _ _
       refine spec_useE (cTable _ _ _ _ hh5.1 hh5.2) (by k_asm) F3 (by k_asm) N3 (by k_asm) rfl (by ktr_room) (by ktr_units) ?_
       ((try dsimp +zetaDelta only); intro tb9 tl7 h7 tk7 F7 N7 hT9; clear F3 N3))
    | (with_reducible show wpAny _ _ (call (Value.ref 247) [_, _]) _ _ _
       refine spec_useT (cWritten _ _ _ _ _ _ (by decide +kernel) hh5.1 hh5.2) (by k_asm) F3 (by k_asm) N3 (by k_asm) rfl (by ktr_room) (by ktr_units) ?_
       ((try dsimp +zetaDelta only); intro t7 h7 tk7 F7 N7; clear F3 N3))
    | (with_reducible show wpAny _ _ (call (Value.ref 262) [_, _]) _ _ _
       refine spec_useT (cWords _ _ _ _ _ _ (by omega) (by omega) (by omega) (by omega)) (by k_asm) F3 (by k_asm) N3 (by k_asm) rfl (by ktr_room) (by ktr_units) ?_
       ((try dsimp +zetaDelta only); intro t7 h7 tk7 F7 N7; clear F3 N3))
    | (with_reducible show wpAny _ _ (call (Value.ref 252) [_, _, _, _]) _ _ _
       refine spec_useR (cReply _ _ _ _ _ _ _ _ (hT9.mono (fun p hp => .tail _ (.tail _ (.tail _ (List.mem_append_right _ (List.mem_append_left _ (.tail _ (.tail _ (List.mem_append_left _ hp))))))))) _ _ (mod_in _ (by decide)).1 (mod_in _ (by decide)).2 hd120.1 hd120.2 (tabOf_le _)) (reply_flat _ _ _ _) (by k_asm) F3 (by k_asm) N3 (by k_asm) rfl (by ktr_room) (by ktr_units) ?_
       ((try dsimp +zetaDelta only); intro bR tl7 h7 tk7 F7 N7' hp7; obtain ⟨hfR, hmR2, hA9⟩ := hp7; have N7 := news_sub N7' (rep_sub (fun p hp => (hfR p hp).1)); clear N7'; have hfR := fun p hp => (hfR p hp).2; obtain ⟨hq1, hq2, hq3⟩ := tlR_off N7 hfR; clear F3 N3; (try dsimp +zetaDelta only at hfR)))
    | (with_reducible show wpAny _ _ (call (Value.ref 257) [Value.ref c1.rA]) _ _ _
       refine spec_useT (cLead _ _ _ _ _ _ (.tail _ (.tail _ (.tail _ (in_mid2 _ _ _ _ _ hcp.rin)))) hcp.rI (by omega) (lead_small hcr.1 (by omega))) (by k_asm) F3 (by k_asm) N3 (by k_asm) rfl (by ktr_room) (by ktr_units) ?_
       ((try dsimp +zetaDelta only); intro t7 h7 tk7 F7 N7; clear F3 N3))
    | (with_reducible show wpAny _ _ (call (Value.ref 247) [Value.str (replyD _ _ _ _).1 _, _]) _ _ _
       refine spec_useT (cWritten _ _ _ _ _ _ (Nat.le_trans (reply_len hd120.1 hd120.2) (by decide)) hh5.1 hh5.2) (by k_asm) F3 (by k_asm) N3 (by k_asm) rfl (by ktr_room) (by ktr_units) ?_
       ((try dsimp +zetaDelta only); intro t7 h7 tk7 F7 N7; clear F3 N3))
    | (with_reducible show wpAny _ _ (call (Value.ref 257) [_]) _ _ _
       refine spec_useT (cLead _ _ _ _ _ _ (by k_mem) (.cons _ _ (.cons _ _ (.cons _ _ .nil))) (by show 3 ≤ 64; decide) hLead0) (by k_asm) F3 (by k_asm) N3 (by k_asm) rfl (by ktr_room) (by ktr_units) ?_
       ((try dsimp +zetaDelta only); intro t7 h7 tk7 F7 N7; clear F3 N3))
  k_with "m subscriptTail" =>
    first
    | ((with_reducible show wpAny _ _ (subscriptTail _ _ (Value.ref a) (Value.int 5 _)) _ _ _)
       rename News _ _ _ _ => N6
       (try dsimp +zetaDelta only)
       refine exE (ints_atC hi hc5) ?_
       intro n9 hv9
       refine item_in (⟨_, _, ha, rfl, rfl⟩ : ListIn news a vs) N6 (fun p hp => by k_mem) (by decide) (by decide) hv9 ?_)
    | ((with_reducible show wpAny _ _ (subscriptTail _ _ (Value.ref a) _) _ _ _)
       rename News _ _ _ _ => N6
       (try dsimp +zetaDelta only)
       refine exE (ints_atC hi hcv) ?_
       intro n9 hv9
       refine item_in (⟨_, _, ha, rfl, rfl⟩ : ListIn news a vs) N6 (fun p hp => by k_mem) (by omega) (by omega) hv9 ?_)
    | ((with_reducible show wpAny _ _ (subscriptTail _ _ (Value.ref c.pA) (Value.int (-1) _)) _ _ _)
       rename News _ _ _ _ => N6
       (
       refine item_m1I N6 (by k_mem) hP1 ?_
       intro tA9 tvs tn9 hmT0 hIT
       have hmT := in_mid _ _ own _ hmT0
       clear hmT0
       (try dsimp +zetaDelta only at hmT)))
    | ((with_reducible show wpAny _ _ (subscriptTail _ _ (Value.ref tA9) (Value.int (-1) _)) _ _ _)
       rename News _ _ _ _ => N6
       refine item_int1 N6 (show (tA9, PySem.W.listOf tvs.toArray tn9) ∈ _ from by k_mem) hIT (by omega) ?_
       intro u6)
    | ((with_reducible show wpAny _ _ (subscriptTail (Expr.Name (Str.ofString "lines") _) _ (Value.ref _) (Value.int (-1) _)) _ _ _)
       rename News _ _ _ _ => N6
       refine item_p N6 (by k_mem) ?_)
    | ((with_reducible show wpAny _ _ (subscriptTail (Expr.Name (Str.ofString "pile") _) _ (Value.ref pA9) (Value.int (-1) _)) _ _ _)
       rename News _ _ _ _ => N6
       refine item_m1I N6 (.head _) (pile_taken hP0 hPk.ne _ (by omega)) ?_
       intro rA9 rvs9 rn9 hmR hIR)
    | ((with_reducible show wpAny _ _ (subscriptTail _ (Expr.Name (Str.ofString "turn") _) (Value.ref _) (Value.int _ _)) _ _ _)
       rename News _ _ _ _ => N6
       obtain ⟨ud, hud, hul, _⟩ := unit_at htn
       refine kba_turn (value' := PySem.Expr.Name (PySem.Str.ofString "_") ⟨0, 0, 0, 0⟩) (fun _ => rfl) ?_
       refine item_datI (units.map dInts) N6 (.head _) (.cons (.list (by k_mem) (.cons (.int _ _) .nil)) (.cons (.list (by k_mem) (.cons (.int _ _) (.cons (.int _ _) .nil))) (.cons (.list (by k_mem) (.cons (.int _ _) .nil)) (.cons (.list (by k_mem) (.cons (.int _ _) (.cons (.int _ _) .nil))) (.cons (.list (by k_mem) (.cons (.int _ _) (.cons (.int _ _) .nil))) (.cons (.list (by k_mem) (.cons (.int _ _) (.cons (.int _ _) (.cons (.int _ _) .nil)))) .nil)))))) (by omega) (by omega) hud ?_
       intro uA9 uvs un9 hmU hIu)
    | ((with_reducible show wpAny _ _ (subscriptTail _ _ (Value.ref uA9) (Value.int 0 _)) _ _ _)
       rename News _ _ _ _ => N6
       refine item_i N6 (show (uA9, PySem.W.listOf uvs.toArray un9) ∈ _ from by k_mem) hIu (by decide) (by omega) (by omega) ?_
       intro u6)
    | ((with_reducible show wpAny _ _ (subscriptTail _ _ (Value.ref tA9) (Value.int 0 _)) _ _ _)
       rename News _ _ _ _ => N6
       refine item_i N6 (show (tA9, PySem.W.listOf tvs.toArray tn9) ∈ _ from by k_mem) hIT (by decide) (by omega) (by omega) ?_
       intro u6)
    | ((with_reducible show wpAny _ _ (subscriptTail _ _ (Value.ref clA) (Value.int _ _)) _ _ _)
       rename News _ _ _ _ => N6
       refine item_i N6 (show (clA, PySem.W.listOf clvs.toArray 0) ∈ _ from by k_mem) hIc (by omega) (by omega) (by omega) ?_
       intro u6)
  k_with "m subscriptTail Name Slice ref ref" =>
    rename Fr _ _ _ _ => F6
    rename News _ _ _ _ => N6
    first
    | ((with_reducible show wpAny _ _ (subscriptTail _ (Expr.Slice none (some _) none _) (Value.ref tA9) (Value.ref _)) _ _ _)
       refine slc F6 N6 (.tail _ (.tail _ (.tail _ hmT))) hIT (Nat.le_trans hTop.hi (by omega)) (by kmk_part) (by kmk_part) (show IntsAre _ (closedOf (topOf c.st.pile)) from kmk_upto_neg (y := -1) hIT (by decide)) ?_
       intro clA clvs h6 F' N' l1 hIc
       (try k_lt l1))
    | ((with_reducible show wpAny _ _ (subscriptTail _ (Expr.Slice (some _) none none _) (Value.ref tA9) (Value.ref _)) _ _ _)
       refine slc F6 N6 (show (tA9, PySem.W.listOf tvs.toArray tn9) ∈ _ from by k_mem) hIT (Nat.le_trans hTop.hi (by omega)) (by kmk_part) (by kmk_part) (show IntsAre _ (lastOf (topOf c.st.pile)) from kmk_from_neg (x := -1) hIT (by decide)) ?_
       intro D6 ws6 h6 F' N' l1 hI6
       (try k_lt l1))
    | ((with_reducible show wpAny _ _ (subscriptTail _ (Expr.Slice none (some _) none _) (Value.ref clA) (Value.ref _)) _ _ _)
       refine slc F6 N6 (show (clA, PySem.W.listOf clvs.toArray 0) ∈ _ from by k_mem) hIc (by omega) (by kmk_part) (by kmk_part) (kmk_upto hIc (by omega)) ?_
       intro D6 ws6 h6 F' N' l1 hI6
       (try k_lt l1))
    | ((with_reducible show wpAny _ _ (subscriptTail _ (Expr.Slice (some _) none none _) (Value.ref uA9) (Value.ref _)) _ _ _)
       refine slc F6 N6 (show (uA9, PySem.W.listOf uvs.toArray un9) ∈ _ from by k_mem) hIu (by omega) (by kmk_part) (by kmk_part) (kmk_from (x := 1) hIu (by decide)) ?_
       intro D6 ws6 h6 F' N' l1 hI6
       (try k_lt l1))
    | ((with_reducible show wpAny _ _ (subscriptTail (Expr.Name (Str.ofString "pile") _) (Expr.Slice none (some _) none _) (Value.ref c.pA) (Value.ref _)) _ _ _)
       refine slc_upto F6 N6 (show (c.pA, PySem.W.listOf c.pvs.toArray c.pk) ∈ _ from by k_mem) (by omega) (by kmk_part) (by omega) ?_
       intro pA9 h6 F' N' l1
       (try k_lt l1))
    | ((with_reducible show wpAny _ _ (subscriptTail (Expr.Name (Str.ofString "runs") _) (Expr.Slice (some _) none none _) (Value.ref _) (Value.ref _)) _ _ _)
       rename IntsAre _ (_ ++ _) => hIr
       refine slc F6 N6 (.tail _ (.head _)) hIr (by simp only [List.length_append, List.length_take, List.length_drop, List.length_cons, List.length_nil, lastOf]; omega) (by kmk_part) (by kmk_part) (kmk_from (x := 1) hIr (by decide)) ?_
       intro D6 ws6 h6 F' N' l1 hI6
       (try k_lt l1))
    | ((with_reducible show wpAny _ _ (subscriptTail _ (Expr.Slice (some _) none none _) (Value.ref clA) (Value.ref _)) _ _ _)
       refine slc F6 N6 (show (clA, PySem.W.listOf clvs.toArray 0) ∈ _ from by k_mem) hIc (by omega) (by kmk_part) (by kmk_part) (kmk_from hIc (by omega)) ?_
       intro D6 ws6 h6 F' N' l1 hI6
       (try k_lt l1))
  k_with "m exec If" => (refine wpAny_If ?_)
  k_with "m execs cons" => ((with_reducible refine wpAny_execs_cons ?_); try dsimp only)
  k_with "m CutEnd" =>
    rename Fr _ _ _ _ => F6
    rename News _ _ _ _ => N6
    first
    | (
       have e9 := runs_0 (kd := Int.fmod cv 4) (tn := Int.fmod (Int.fdiv cv 4) 6) (pile := c.st.pile) (by (try dsimp +zetaDelta only); with_reducible assumption)
       refine chainEnd1 F6 N6 (by assumption) ?_ ?_ hP0 hP3 hn2 hn3 ⟨ha1, ha2, ha3⟩ ⟨ha4, ha5, ha6⟩ hoff hI7 e9 (faC (by exact rfl) (faC (by exact rfl) (fa1 (by exact rfl)))) ?_
       · (
         refine sub_led1 (own := own) (fun p hp => ?_); (repeat (first | exact hp | refine List.Mem.tail _ ?_)))
       · (
         intros p hp; (repeat (first | exact List.mem_append_right _ (List.mem_append_right _ hp) | refine List.Mem.tail _ ?_)))
       · (
         (intros z h1 h2 h3; walk_at "m same2")))
    | (
       have e9 := runs_1 (kd := Int.fmod cv 4) (tn := Int.fmod (Int.fdiv cv 4) 6) (pile := c.st.pile) (by (try dsimp +zetaDelta only); with_reducible assumption)
       refine chainEnd2b F6 N6 l1 (by k_mem) ?_ ?_ ?_ ?_ hP0 hP3 hn2 hn3 ⟨ha1, ha2, ha3⟩ ⟨ha4, ha5, ha6⟩ hoff hI7 e9 (faC (by exact rfl) (faC (by exact rfl) (fa1 (by exact rfl)))) ?_
       · (
         k_mem)
       · (
         k_mem)
       · (
         intros p hp; (repeat (first | exact in_mid _ _ _ p hp | refine List.Mem.tail _ ?_)))
       · (
         intros p hp; (repeat (first | exact List.mem_append_right _ (List.mem_append_right _ hp) | refine List.Mem.tail _ ?_)))
       · (
         (intros z h1 h2 h3; walk_at "m same2")))
    | (
       have e9 := runs_2 (kd := Int.fmod cv 4) (tn := Int.fmod (Int.fdiv cv 4) 6) (pile := c.st.pile) (by (try dsimp +zetaDelta only); with_reducible assumption)
       refine chainEnd3 F6 N6 (by assumption) ?_ ?_ hP0 hP3 ⟨ha1, ha2, ha3⟩ ⟨ha4, ha5, ha6⟩ hoff hmR hIR e9 (faC (by exact rfl) (faC (by exact rfl) (fa1 (by exact rfl)))) ?_
       · (
         refine sub_led1 (own := own) (fun p hp => ?_); (repeat (first | exact hp | refine List.Mem.tail _ ?_)))
       · (
         intros p hp; (repeat (first | exact List.mem_append_right _ (List.mem_append_right _ hp) | refine List.Mem.tail _ ?_)))
       · (
         (intros z h1 h2 h3; walk_at "m same2")))
    | (
       have e9 := runs_3a (kd := Int.fmod cv 4) (tn := Int.fmod (Int.fdiv cv 4) 6) (pile := c.st.pile) (by omega) (by omega) (by omega) (by omega) (by omega)
       refine chainEnd1 F6 N6 (by assumption) ?_ ?_ hP0 hP3 hn2 hn3 ⟨ha1, ha2, ha3⟩ ⟨ha4, ha5, ha6⟩ hoff hI7 e9 (faC (by exact rfl) (faC (by exact rfl) (fa1 (by exact rfl)))) ?_
       · (
         refine sub_led1 (own := own) (fun p hp => ?_); (repeat (first | exact hp | refine List.Mem.tail _ ?_)))
       · (
         intros p hp; (repeat (first | exact List.mem_append_right _ (List.mem_append_right _ hp) | refine List.Mem.tail _ ?_)))
       · (
         (intros z h1 h2 h3; walk_at "m same2")))
    | (
       have e9 := runs_3b (kd := Int.fmod cv 4) (tn := Int.fmod (Int.fdiv cv 4) 6) (pile := c.st.pile) (by omega) (by omega) (by omega) (by omega)
       refine chainEnd1 F6 N6 (by assumption) ?_ ?_ hP0 hP3 hn2 hn3 ⟨ha1, ha2, ha3⟩ ⟨ha4, ha5, ha6⟩ hoff hI7 e9 (faC (by exact rfl) (faC (by exact rfl) (fa1 (by exact rfl)))) ?_
       · (
         refine sub_led1 (own := own) (fun p hp => ?_); (repeat (first | exact hp | refine List.Mem.tail _ ?_)))
       · (
         intros p hp; (repeat (first | exact List.mem_append_right _ (List.mem_append_right _ hp) | refine List.Mem.tail _ ?_)))
       · (
         (intros z h1 h2 h3; walk_at "m same2")))
  k_with "m binaryOp Add ref ref" =>
    rename Fr _ _ _ _ => F6
    rename News _ _ _ _ => N6
    first
    | refine add_i F6 N6 (.tail _ (.head _)) (.head _) (by first | with_reducible assumption | exact .cons _ _ .nil) (by first | with_reducible assumption | exact .cons _ _ .nil) (by simp only [List.length_append, List.length_take, List.length_drop, List.length_cons, List.length_nil, lastOf]; omega) ?_
    | refine add_i F6 N6 (show (clA, PySem.W.listOf clvs.toArray 0) ∈ _ from by k_mem) (.head _) hIc (by first | with_reducible assumption | exact .cons _ _ .nil) (by simp only [List.length_append, List.length_take, List.length_drop, List.length_cons, List.length_nil, lastOf]; omega) ?_
    intro D7 ws7 h7 F' N' l1 hI7
    (try k_lt l1)
  k_with "m call builtin:len" =>
    rename News _ _ _ _ => N6
    first
    | ((with_reducible show wpAny _ _ (call (Value.builtin "len") [Value.ref clA]) _ _ _)
       refine kst_len N6 (by k_mem) hIc.length (by omega) ?_)
    | ((with_reducible show wpAny _ _ (call (Value.builtin "len") [Value.ref c1.pA]) _ _ _)
       refine kst_len N6 (by k_mem) hpv1 (by omega) ?_)
    | ((with_reducible show wpAny _ _ (call (Value.builtin "len") [Value.ref c.pA]) _ _ _)
       refine kst_len N6 (by k_mem) hpv (by omega) ?_)
  k_with "m execs cons If" =>
    first
    | ((with_reducible show wpAny _ _ (execs (Stmt.If (Expr.Compare (Expr.BinOp (Expr.Name (Str.ofString "cell") _) _ _ _) _ _ _) _ _ _ :: _ :: _) _) _ _ _)
       (
       rename Fr _ _ _ _ => F6
       rename News _ _ _ _ => N6
       have htn := mod_in (Int.fdiv cv 4) (m := 6) (by decide)
       have hclen : (closedOf (topOf c.st.pile)).length = (topOf c.st.pile).length - 1 := by unfold closedOf; rw [List.length_take]; omega
       (try dsimp +zetaDelta only at htn hclen)
       have htlo := hTop.lo
       have hthi := hTop.hi
       have hat := mod_in (Int.fmod (Int.fdiv cv 4) 6) (m := ((closedOf (topOf c.st.pile)).length : Int)) (by omega)
       have hd120 : 0 ≤ Int.fdiv cv 120 ∧ Int.fdiv cv 120 < 1000000 := by
         rw [Int.fdiv_eq_ediv_of_nonneg cv (by decide)]; omega
       (try dsimp +zetaDelta only at hat hd120)
       have hpm := mod_in (Int.fmod (Int.fdiv cv 4) 6) (m := (c.st.pile.length : Int)) (by omega)
       have hcval := hTop.val _ (closed_mem (getD_mem (l := closedOf (topOf c.st.pile)) (k := (Int.fmod (Int.fmod (Int.fdiv cv 4) 6) ((closedOf (topOf c.st.pile)).length : Int)).toNat) (d := 0) (by omega)))
       have htv := hTop.val _ (getD_mem (l := topOf c.st.pile) (k := Int.toNat 0) (d := 0) (by show 0 < _; omega))
       refine cutChain (Int.fmod cv 4) (Int.fmod (Int.fdiv cv 4) 6) F6 N6 ?_ ?_
       (try dsimp +zetaDelta only)
       rotate_left
       (try dsimp +zetaDelta only)
       intro c1 uu1 h1 tk1 hcp F7 N7
       clear F6 N6
       (try dsimp +zetaDelta only at hcp F7 N7 htn hclen hat hd120 hpm hcval htv htlo hthi)
       have hcr := runs_ok hPk htn.1 htn.2 hcp.eq
       have hcl := hcr.1.hi
       have hcl2 := hcr.2.len
       have hpv1 : c1.pvs.length = c1.pl.length := by rw [DatAll.length hcp.pile, List.length_map]
       obtain ⟨hb1, hb2, hb3⟩ := hcp.a1
       obtain ⟨hb4, hb5, hb6⟩ := hcp.a2
       have hbn2 := hcp.n2
       have hbn3 := hcp.n3
       have ho1 := hcp.off.ne (.head _)
       have ho2 := hcp.off.ne (.tail _ (.head _))
       have ho3 := hcp.off.ne (.tail _ (.tail _ (.head _)))
       have hLr : (leadS c1.rs).length ≤ 6464 := lead_len (by omega) (lead_small hcr.1 (by omega))
       have hSr := sp_len (Int.fmod (Int.fdiv c5 24) 5) (replyD (Int.fmod (Int.fdiv cv 24) 5) (Int.fdiv cv 120) (tabOf (Int.fmod (Int.fdiv c5 24) 5)) c.st.host).1
       have hRl := reply_len (kind := Int.fmod (Int.fdiv cv 24) 5) (T := tabOf (Int.fmod (Int.fdiv c5 24) 5)) (host := c.st.host) hd120.1 hd120.2
       (try dsimp +zetaDelta only at hcr hcl hcl2 hpv1 hLr hSr hRl)
       (try k_fold)
       rotate_left
       (try dsimp +zetaDelta only at htn hclen hat hd120 hpm hcval htv htlo hthi)
       (try k_fold)))
    | ((with_reducible show wpAny _ _ (execs (Stmt.If (Expr.Call (Expr.Name (Str.ofString "isinstance") _) _ _ _) _ _ _ :: _) _) _ _ _)
       rename Fr _ _ _ _ => F8
       rename News _ _ _ _ => N8
       (
       rcases flat_cases (reply_flat _ _ _ _) hA9 with h9 | h9 | h9
       all_goals
         refine exE h9 ?_
         clear h9
         intro k9 h9
         refine exE h9 ?_
         clear h9
         intro t9 h9
         obtain ⟨hr9, hv9⟩ := h9
       all_goals
         (first | (have hmT9 := hv9.2; have hv9 := hv9.1) | skip)
         (try rw [hv9] at N8)
         rw [hv9] at F8 hA9
         have hA8 := hA9
         have hrp9 := prod_snd hr9
         ((with_reducible refine wpAny_execs_cons ?_); try dsimp only)))
    | ((with_reducible show wpAny _ _ (execs (Stmt.If _ _ _ _ :: []) _) _ _ _)
       (with_reducible refine wpAny_execs_cons ?_); try dsimp only)
    | ((with_reducible show wpAny _ _ (execs (Stmt.If _ _ _ _ :: _) _) _ _ _)
       (with_reducible refine wpAny_execs_cons ?_); try dsimp only)
  k_with "m newList" =>
    rename Fr _ _ _ _ => F6
    rename News _ _ _ _ => N6
    (with_reducible refine newList_K F6 N6 ?_ ?_)
    rotate_left
    exact sz_le rfl
    intro l' h' F' N' l1
    (try k_lt l1)
    (try k_sweep)
  k_with "m call builtin:isinstance" =>
    (with_reducible show wpAny _ _ (call (.builtin "isinstance") [.ref _, .type _]) _ _ _)
    rename News _ _ _ _ => N6
    have q9 := news_sub N6 (fun p hp => by k_mem) _ hmT9
    refine IsiPair.tuple_str q9.1 rfl ?_
    clear q9
  k_with "m InvEndG" =>
    rename Fr _ _ _ _ => F6
    rename News _ _ _ _ => N6
    (
    have hA7 := hA8
    rw [hr9] at hA7
    have hcv9 : cs[i]? = some cv := by
      have e9 : (0 + (i : Int)).toNat = i := by omega
      rwa [e9] at hcv
    have hw9 := wd_nil (x := c1.wd) (y := Str.ofString "") (by (try dsimp +zetaDelta only); assumption)
    refine drawnEnd hi9 F6 N6 (by k_mem) (by k_mem) (by k_mem) (by k_mem) ?_ ?_ ?_ hfR hA7 hown hcp hP2 hn1 hPk hll hdl hrun hcv9 hrp9 hw9 (faC (by exact rfl) (fa1 (by exact rfl))) ?_
    · (
      exact fun p hp => .tail _ (.tail _ (.tail _ (.tail _ (List.mem_append_left _ (List.mem_append_left _ hp))))))
    · (
      exact fun p hp => .tail _ (.tail _ (.tail _ (.tail _ (in_mid2 _ _ _ _ p hp)))))
    · (
      exact fun p hp => .tail _ (.tail _ (.tail _ (.tail _ (List.mem_append_right _ (List.mem_append_right _ hp))))))
    · (
      intros z h1 h2 h3
      walk_at "m same3"))
  k_with "m call builtin:list.append" =>
    rename Fr _ _ _ _ => F6
    rename News _ _ _ _ => N6
    refine append_K F6 N6 (by k_upd) ?_ (by rw [List.size_toArray, sizeLine_eq]; omega)
    intro h6 F' N'
  k_with "m binaryOp Add str str" => (refine SB.add ?_ (by rw [sizeLine_eq]; omega); intro t' k')
  k_with "m pyIter ref" =>
    rename Fr _ _ _ _ => lF'
    rename News _ _ _ _ => lN'
    rename IsRange _ _ _ _ _ _ _ _ => rgX
    with_unfolding_all refine drawnR2 (cs := cs) (hand := Int.fmod (Int.fdiv c5 24) 5) (by rfl) rgX lF' lN' (by assumption) (by assumption) (by assumption) (by assumption) (by exact rfl) (by rw [hst0]; exact rfl) (by rw [hst0]; exact .cons (.list (.tail _ (.head _)) (.cons (.int _ _) (.cons (.int _ _) (.cons (.int _ _) .nil)))) .nil) (by rw [hst0]; exact .cons _ _ .nil) (by rw [hst0]; exact .cons (.tuple (.head _) (.cons (.int _ _) (.cons (.int _ _) .nil))) .nil) hok0 (by rw [hst0]; rfl) (by rw [hst0]; rfl) ?turn ?done
    case' turn =>
      (try dsimp +zetaDelta only)
      intro i c t uu h tk own hi9 hown hoff hp F' N'
      clear lF' lN' rgX
      (try dsimp +zetaDelta only at hp F' N')
      obtain ⟨hP1, hP2, hP3, hn1, hn2, hn3, ⟨ha1, ha2, ha3⟩, ⟨ha4, ha5, ha6⟩, hPk, hll, hdl, hrun⟩ := hp
      refine exE (cell_at hb (k := 0 + (i : Int)) (by omega)) ?_
      (try dsimp +zetaDelta only)
      intro cv hcv0
      obtain ⟨hcv, hcb⟩ := hcv0
      have hTop := hPk.top
      have hpv : c.pvs.length = c.st.pile.length := by rw [DatAll.length hP1, List.length_map]
      have hplen := hPk.len
      have hlvl : c.lvs.length = c.st.lines.length := hP2.length
      have hdvl : c.dvs.length = c.st.due.length := DatAll.length hP3
      have hpne := List.length_pos_iff.mpr hPk.ne
      have hP0 := hP1
      (try dsimp +zetaDelta only at hpv hlvl hdvl)
      rw [pile_split hPk.ne] at hP1
    case' done =>
      (try dsimp +zetaDelta only)
      intro c uu h tk hp F' N'
      clear lF' lN' rgX
      (try dsimp +zetaDelta only at hp F' N')
      obtain ⟨hP1, hP2, hP3, hn1, hn2, hn3, ⟨ha1, ha2, ha3⟩, ⟨ha4, ha5, ha6⟩, hPk, hll, hdl, hrun⟩ := hp
  refine wpAny_call ?_
  k_dflt cell_enter
  (repeat' (first | (k_unfold; (try dsimp +zetaDelta only)) | (k_end; kc_close) | (walk1; (try dsimp +zetaDelta only)) | (dsimp only; walk1) | (leave1; (try dsimp +zetaDelta only)) | fail "no step"))
  all_goals
    rename News cx.h₀ _ _ _ => N5
    rename Fr cx.h₀ _ _ _ => F5
    first
    | (
      have e9 : c.st = drawnD cs := hrun.trans hfin
      exact drawnFin ret F5 N5 (fun p hp => .tail _ (.tail _ (.tail _ (.tail _ (List.mem_append_right _ (.tail _ (.tail _ (List.mem_append_right _ hp)))))))) (.head _) (.tail _ (.tail _ (.head _))) (.tail _ (.head _)) (by rw [← e9]; exact hP2) (by rw [← e9]; exact hP3.mono (fun p hp => .tail _ (.tail _ (.tail _ (.tail _ hp))))))
    | (
      have hcv9 : cs[i]? = some cv := by
        have e9 : (0 + (i : Int)).toNat = i := by omega
        rwa [e9] at hcv
      have hw9 := wd_some (x := c1.wd) (y := Str.ofString "") (by (try dsimp +zetaDelta only); assumption)
      have e8 := dTurn_stop (hand := Int.fmod (Int.fdiv c5 24) 5) (st := c.st) hcv9 hcp.eq rfl hw9
      have e9 := (dLoop_stop hi9 hrun e8).trans hfin
      exact drawnFinB ret F5 N5 (fun p hp => .tail _ (.tail _ (.tail _ (.tail _ (.tail _ (List.mem_append_right _ (List.mem_append_left _ (.tail _ (.tail _ (List.mem_append_right _ hp)))))))))) (.head _) (.tail _ (.tail _ (.tail _ (.head _)))) (.tail _ (.tail _ (.head _))) (.tail _ (.head _)) hP2 (hcp.due.mono (fun p hp => .tail _ (.tail _ (.tail _ (.tail _ (.tail _ (in_mid2 _ _ _ _ p hp))))))) (by omega) e9)
    | trace_state
end Mine
end

-- CF
namespace Mine
noncomputable abbrev tblO (ps : Array Value) : Obj := { cls := .none, data := .fields ps }
section
variable {prog : Program} {w : World} {A : Around} {E : Value → Shared → Prop} {s : Shared}
noncomputable def GenX (prog : Program) (w : World) (A : Around) (a : Addr) (FP wr : List Addr) (C : Addr) (n₀ : Nat) (F : Nat → Value → Prop) (s : Shared) : Prop :=
  ∃ g, GenAt prog w A.in4 a g C FP wr (fun _ => true) n₀ F 0 s ∧ a ≠ C ∧ a ∉ FP ∧ (∀ b ∈ wr, b ∈ FP) ∧ A.depth < recursionLimit ∧ cStatics ∈ FP ∧ cStatics ≠ C ∧ cStatics ∉ wr
theorem GenX.keeps {a : Addr} {FP wr : List Addr} {C : Addr} {n₀ : Nat} {F : Nat → Value → Prop} (X : GenX prog w A a FP wr C n₀ F s) {h' : Heap} {tk : Nat} (k : ∀ b ∈ a :: C :: FP, ∀ o, s.heap.get? b = some o → h'.get? b = some o) :
    GenX prog w A a FP wr C n₀ F { s with heap := h', toks := tk } := by
  obtain ⟨g, ⟨⟨o, nm, qn, ho, r⟩, ⟨mc, hns, hnn⟩, gs, hgs, hgo⟩, r2⟩ := X
  have hcs := r2.2.2.2.2.1
  exact ⟨g, ⟨⟨o, nm, qn, k a (.head _) o ho, r⟩, ⟨mc, hns.at' fun o e => k cStatics (.tail _ (.tail _ hcs)) o e, hnn⟩, gs, hgs, fun s'' hal => hgo s'' fun b hb o e => hal b hb o (k b (.tail _ hb) o e)⟩, r2⟩
theorem genFp {env : Env} {elt iter : Expr} {x : Str} {px : Pos} {scope : Scope} {cl : List (Str × Addr)} {pos : Pos} {Q : Value → Shared → Prop}
    (hh : A.handled = none) (hco : scope.isCoroutine = false) (hclos : closureFor scope env = pure cl) (hcell : ∀ y ∈ scope.names, y.2 ≠ .cell) (h0 : scope.names.lookup (".0" : Str) = some NameKind.local)
    (hx : scope.names.lookup x = some .local) (hkind : scope.kind = .function) (hroom : A.depth < recursionLimit)
    (h : wpAny (model prog w) A (eval iter env) (fun xv s₁ => wpAny (model prog w) A (pyIter xv) (fun it s₂ => s₂.heap.NoLimit ∧
      wpAny (model prog w) A (genexprCode env pos (env.qual ++ "<genexpr>") scope) (fun code s₃ => wpAny (model prog w) A (builtinsFor env.globals env.builtins) (fun bi s₄ =>
        ∃ I fp wr n₀ P St₀ F FP, it = .ref I ∧ (∀ A' : Around, A'.handled = none → Walks prog w A' I fp wr n₀ P St₀) ∧ St₀ 0 s₄.heap ∧ (∀ b ∈ fp, b ∈ FP) ∧ (∀ b ∈ FP, b < s₄.heap.objs.size) ∧ cStatics ∈ FP ∧ s₄.heap.NoLimit ∧ cStatics ∉ wr ∧
          (∀ href : Heap, (∀ b o, s₄.heap.get? b = some o → href.get? b = some o) →
            QuietGen prog w (genEnv scope cl s₄.heap.objs.size code bi env) x [] elt FP wr P (fun _ => true) F href) ∧
          (∀ a h₅ tk gs, gs.bare = true → s₄.heap.objs.size < a → h₅.objs.size = a + 1 → (∀ b o, s₄.heap.get? b = some o → h₅.get? b = some o) →
            GenX prog w A a FP wr s₄.heap.objs.size n₀ F { s₄ with gens := s₄.gens.push gs, toks := tk, heap := h₅ } →
            Q (.ref a) { s₄ with gens := s₄.gens.push gs, toks := tk, heap := h₅ })) E s₃) E s₂) E s₁) E s)
    (hs : ∀ x, genFold iter env x = pure x) :
    wpAny (model prog w) A (eval (.GeneratorExp elt [⟨.Name x px, iter, [], 0⟩] scope pos) env) Q E s := by
  refine wpAny_GeneratorExp_make hco hclos hcell h0 hkind hroom (wpAny_mono h (fun xv s₁ h₁ => wpAny_mono h₁ (fun it s₂ h₂ => ⟨h₂.1, wpAny_mono h₂.2 (fun code s₃ h₃ => wpAny_mono h₃ (fun bi s₄ h₄ => ?_)
    fun _ _ e => e) fun _ _ e => e⟩) fun _ _ e => e) fun _ _ e => e) hs
  obtain ⟨I, fp, wr, n₀, P, St₀, F, FP, rfl, W₀, hst, hfp, hFP, hcF, hl₄, hcw, hq, hQ⟩ := h₄
  intro h' hn' hs'
  have hsz : h'.objs.size = s₄.heap.objs.size + 1 := by rw [hs'.1, Heap.size_push]
  have keep' : ∀ b o, s₄.heap.get? b = some o → h'.get? b = some o := fun b o e => hs'.extBut b o (Nat.ne_of_lt (Heap.lt_size e)) (Heap.get?_push_of_some _ e)
  have keep₅ : ∀ b o, s₄.heap.get? b = some o → (h'.push { cls := .type "generator", data := .fields #[.int s₄.gens.size 0, .str "<genexpr>" (s₄.toks + 1), .str (env.qual ++ "<genexpr>") (s₄.toks + 1 + 1)] }).get? b = some o :=
    fun b o e => Heap.get?_push_of_some _ (keep' b o e)
  have hclt := hFP _ hcF
  refine hQ _ _ _ _ rfl (by omega) (by rw [Heap.size_push]) keep₅ ⟨s₄.gens.size, ?_, by rw [hsz]; exact Nat.succ_ne_self _, fun hm => by have := hFP _ hm; omega, fun b hb => hfp b ((W₀ A hh).sub b hb), hroom, hcF, Nat.ne_of_lt hclt, hcw⟩
  exact GenAt.fresh (A := A.in4) (cenv := genEnv scope cl s₄.heap.objs.size code bi env) (m := fun y => if y = ".0" then some (.ref I) else none) hh
    (fun A' hA => (W₀ A' hA).mono_fp fun b hb => hfp b hb) (fun _ => true) F hx (by simp [genEnv, hkind]) hco
    (fun hm => Nat.lt_irrefl _ (hFP _ hm)) (hq _ keep₅) ⟨_, _, _, Heap.get?_push_size _ rfl, rfl, rfl, rfl⟩ (Array.getElem?_push_size ..) ((W₀ A hh).frame _ _ _ hst fun b _ o e => keep₅ b o e) (hn'.push _) (hl₄.keeps keep₅)
theorem pass_all (n : Nat) : passing (fun _ => true) n 0 = List.range n := by simp [passing]
theorem join_wit {sep : Str} {t : Tok} {a : Addr} {FP wr : List Addr} {C : Addr} {n₀ : Nat} {F : Nat → Value → Prop} {tx : Nat → Str} {Q : Value → Shared → Prop} (X : GenX prog w A a FP wr C n₀ F s) (hh : A.handled = none) (hFP : ∀ b ∈ a :: C :: FP, b < s.heap.objs.size)
    (htx : ∀ i v, F i v → ∃ u, v = .str (tx i) u) (hok : JoinOk sep ((List.range n₀).map tx) = true) (hsz : n₀ ≤ sizeLine)
    (hQ : ∀ s' t', (∀ b o, b ∉ C :: wr → s.heap.get? b = some o → s'.heap.get? b = some o) → (AllBare s.gens → AllBare s'.gens) → s'.os = s.os → Q (.str (Txt.join sep ((List.range n₀).map tx)) t') s') :
    wpAny (model prog w) A (call (.builtin "str.join") [.str sep t, .ref a]) Q E s := by
  obtain ⟨g, hat, haC, haf, hsub, hroom, hcs, hcC, hcw⟩ := X
  have W := (WalksS.genexpQ (prog := prog) (w := w) (A := A.in4) hh a g C FP wr (fun _ => true) n₀ F haC haf hsub hroom hcs hcC hcw).in4_2
  rw [pass_all, List.length_range] at W
  refine SC.joinGen W (fun i s' st => st.1.typeIs) hat (fun b hb => hFP b hb) (List.mem_cons_self) (fun j v hv => let ⟨i, _, h⟩ := hv; let ⟨u, e⟩ := htx i v h; ⟨_, u, e⟩) (fun s' lt hm hacc => ?_) hsz
  have hl : lt.map (·.1) = (List.range n₀).map tx := by
    have hlen : lt.length = n₀ := by simpa [strValues] using hacc.1
    apply List.ext_getElem?
    intro j
    by_cases hj : j < n₀
    · have hj' : j < lt.length := hlen ▸ hj
      obtain ⟨i, hi, hF⟩ := hacc.2 j (.str lt[j].1 lt[j].2) (by simp [strValues, List.getElem?_eq_getElem hj'])
      obtain ⟨u, hv⟩ := htx i _ hF
      have hij : i = j := by
        rw [List.getElem?_range hj] at hi
        exact (Option.some.inj hi).symm
      injection hv with h1 _
      simp [List.getElem?_eq_getElem hj', hj, h1, hij]
    · rw [List.getElem?_eq_none (by simpa [hlen] using Nat.le_of_not_lt hj), List.getElem?_eq_none (by simpa using Nat.le_of_not_lt hj)]
  rw [hl]
  exact ⟨hok, fun t' k => hQ { s' with toks := k } t' (fun b o hb e => hm.heap b o hb e) (fun G => (AllBare.movedS G hm : AllBare s'.gens)) hm.os⟩
theorem elt_wit {cenv : Env} {p1 p2 p3 p4 p5 : Pos} {mg mb m₂ : Str → Option Value} {ai : Addr} {k : Int} {t : Tok} {rest : List Value} {n : Nat} (hk : cenv.scope.kind = .function) (hg0 : cenv.globals = mainGlobals) (hb0 : cenv.builtins = builtinsNs)
    (h1 : cenv.kindOf "str" = some .globalImplicit) (h2 : cenv.kindOf "tup" = some .local) (hn : s.heap.Ns cenv.locals m₂) (hv : m₂ "tup" = some (.ref ai)) (ht : s.heap.get? ai = some (tupO (.int k t :: rest) n))
    (hg : s.heap.Ns mainGlobals mg) (hmg : mg "str" = none) (hb : s.heap.Ns builtinsNs mb) (hmb : mb "str" = some (.type "str")) (hk0 : 0 ≤ k) (hk1 : k < 1000000) :
    wpAny (model prog w) A (eval (.Call (.Name "str" p1) [.Subscript (.Name "tup" p2) (.Constant (.int 0) 0 p3) p4] [] p5) cenv) (fun y s₃ => (∃ u, y = .str (wordOf k) u) ∧ Keeps s s₃) E s := by
  refine wpAny_Call_ofName (Name_function_global hk h1 (loadGlobal_builtin (hg0 ▸ hg) hmg (hb0 ▸ hb) hmb ?_))
  walk1
  walk1
  walk1
  refine wpAny_Name (wpAny_loadName_local hk h2 hn hv ?_)
  walk1
  refine item_tupleT (l := Value.int k t :: rest) ⟨_, ht, rfl, n, rfl⟩ (by decide) (by decide) (j := 0) (by unfold seqIndex?; simp) rfl ?_ (by with_unfolding_all rfl)
  walk1
  refine str_of_int_fit (N := 1000000) (by split <;> omega) (by decide) fun _ => ?_
  exact ⟨⟨_, rfl⟩, _, _, rfl, fun _ _ e => e⟩
end
theorem codeFW {w : World} {h : Heap} {ps : Array Value} (X : (Mine.hd.heap_1 w.params).In h) (hp : h.get? 130 = some (tblO ps)) (ht : TriplesOk ps.toList) : h.IsCode 134 130 ps ∧ h.TableAt 134 130 ps := by
  have ho := X 134 _ rfl
  exact ⟨⟨_, _, _, _, _, _, _, _, _, _, ho, rfl, rfl, rfl, rfl, rfl, rfl, hp, rfl, ht, by decide⟩, ⟨_, _, ho, rfl, rfl, rfl⟩, hp⟩
theorem fp_ledger {g h : Heap} {L : Addr} (N0 : ∀ b o, h.get? b = some o → b ≠ L → g.get? b = some o ∨ g.get? b = none) : ∀ FP : List Addr, (∀ b ∈ FP, b ≠ L) →
    ∃ l, News g L h l ∧ ∀ b ∈ FP, ∀ o, h.get? b = some o → g.get? b = some o ∨ (b, o) ∈ l
  | [], _ => ⟨[], News.nil, fun _ hb => nomatch hb⟩
  | a :: r, hL => by
    obtain ⟨l, N, hl⟩ := fp_ledger N0 r fun b hb => hL b (.tail _ hb)
    cases e : h.get? a with
    | none =>
      refine ⟨l, N, fun b hb o ho => ?_⟩
      rcases List.mem_cons.mp hb with rfl | hb
      · rw [e] at ho; cases ho
      · exact hl b hb o ho
    | some oa =>
      rcases N0 a oa e (hL a (.head _)) with hg | hg
      · refine ⟨l, N, fun b hb o ho => ?_⟩
        rcases List.mem_cons.mp hb with rfl | hb
        · rw [e] at ho; cases ho; exact .inl hg
        · exact hl b hb o ho
      · refine ⟨(a, oa) :: l, fun p hp => ?_, fun b hb o ho => ?_⟩
        · rcases List.mem_cons.mp hp with rfl | hp
          · exact ⟨e, hL a (.head _), hg⟩
          · exact N p hp
        · rcases List.mem_cons.mp hb with rfl | hb
          · rw [e] at ho; cases ho; exact .inr (.head _)
          · rcases hl b hb o ho with q | q
            · exact .inl q
            · exact .inr (.tail _ q)
noncomputable def WitAt (news : List (Addr × Obj)) (vs : List Value) (ts : List Int) : Prop :=
  vs.length = ts.length ∧ ∀ (i : Nat) (v : Value), vs[i]? = some v → ∃ ai t rest n, v = .ref ai ∧ (ai, tupO (.int (ts.getD i 0) t :: rest) n) ∈ news ∧ 0 ≤ ts.getD i 0 ∧ ts.getD i 0 < 1000000
structure GenHeld (prog : Program) (w : World) (A : Around) (g : Heap) (L : Addr) (news : List (Addr × Obj)) (ts : List Int) (a : Addr) (lfp : List (Addr × Obj)) (ps' : Array Value) (FP : List Addr) (C : Addr) (wr : List Addr) (s₅ : Shared) : Prop where
  x : GenX prog w A a FP wr C ts.length (fun i y => ∃ u, y = .str (wordOf (ts.getD i 0)) u) s₅
  held : ∀ b ∈ a :: C :: FP, ∀ o, s₅.heap.get? b = some o → g.get? b = some o ∨ (b, o) ∈ lfp
  size : ∀ b ∈ a :: C :: FP, @LE.le Nat _ b a
  off : ∀ b ∈ C :: wr, b ≠ L ∧ g.get? b = none ∧ ∀ p ∈ (130, tblO ps') :: news, p.1 ≠ b
section
variable {prog : Program} {w : World} {A : Around} {E : Value → Shared → Prop} {s : Shared}
theorem gen_wit {scF : Scope} {g : Heap} {L : Addr} {m : Str → Option Value} {news : List (Addr × Obj)} {mean : ExcName → Option Value} {mg mb : Str → Option Value} {l : Addr} {vs : List Value} {k : Nat} {ts : List Int} {Q : Value → Shared → Prop} {p1 p2 p3 p4 p5 p6 p7 pos : Pos} {scG : Scope}
    (F : Fr g L s.heap m) (N : News g L s.heap ((130, tblO #[]) :: news)) (X : (Mine.hd.heap_1 w.params).In g) (T : Top P0 L0 mean mg mb g) (G : AllBare s.gens)
    (n130 : ∀ p ∈ news, p.1 ≠ 130) (hw : m "w" = some (.ref l)) (hl : (l, W.listOf vs.toArray k) ∈ news) (hW : WitAt news vs ts) (hh : A.handled = none) (hroom : A.depth < recursionLimit)
    (hkF : scF.kind = .function) (hwF : (envOf "format_witnesses" scF L 135 (.ref 134)).kindOf "w" = some .local)
    (hG : scG = { kind := .function, names := [(".0", .local), ("tup", .local), ("str", .globalImplicit)], isGenerator := true, isCoroutine := false })
    (hQ : ∀ a lfp ps' FP C wr s₅, Fr g L s₅.heap m → News g L s₅.heap (lfp ++ ((130, tblO ps') :: news)) → AllBare s₅.gens → s₅.os = s.os → GenHeld prog w A g L news ts a lfp ps' FP C wr s₅ → Q (.ref a) s₅) :
    wpAny (model prog w) A (eval (.GeneratorExp (.Call (.Name "str" p1) [.Subscript (.Name "tup" p2) (.Constant (.int 0) 0 p3) p4] [] p5) [⟨.Name "tup" p6, .Name "w" p7, [], 0⟩] scG pos) (envOf "format_witnesses" scF L 135 (.ref 134))) Q E s := by
  subst hG
  obtain ⟨hlen, hW⟩ := hW
  have nL : g.get? L = none := kts_self F
  have hgsz : g.objs.size ≤ L := F.above
  have hLs : L < s.heap.objs.size := F.ns.lt
  have hlg := (N _ (.tail _ hl)).1
  have hlL := (N _ (.tail _ hl)).2.1
  have hlt : l < s.heap.objs.size := Heap.lt_size hlg
  have h130 := (N _ (.head _)).1
  have g130 : g.get? 130 = none := (N _ (.head _)).2.2
  have hl130 : l ≠ 130 := fun e => by
    have h2 := hlg
    rw [e] at h2
    rw [show s.heap.get? 130 = _ from h130] at h2
    cases h2
  have hL130 : (130 : Addr) ≠ L := (N _ (.head _)).2.1
  obtain ⟨bm, ob, b1, b2, b3, b4, b5, b6⟩ := T.bmain
  have bm130 : bm ≠ 130 := fun e => by rw [e, g130] at b3; cases b3
  refine genFp hh rfl rfl (by decide) rfl rfl rfl hroom ?_ (fun _ => rfl)
  refine wpAny_Name (wpAny_loadName_local hkF hwF F.ns hw ?_)
  have hI : s.heap.IsList l vs.toArray := ⟨_, hlg, rfl, _, rfl⟩
  refine wpAny_pyIter_list hI ?_
  generalize hit : ({ cls := .type "list_iterator", data := .fields #[.ref l, .int 0 0] } : Obj) = it
  have kp : ∀ b o, s.heap.get? b = some o → (s.heap.push it).get? b = some o := fun b o e => Heap.get?_push_of_some _ e
  have kg : ∀ b o, g.get? b = some o → (s.heap.push it).get? b = some o := fun b o e => kp b o (F.keep b o e)
  have X₂ : (Mine.hd.heap_1 w.params).In (s.heap.push it) := fun a o e => kg a o (X a o e)
  obtain ⟨ic, itb⟩ := codeFW X₂ (kp _ _ h130) (by trivial)
  have nolim : (s.heap.push it).NoLimit := T.nolimit.keeps kg
  refine ⟨nolim, wpAny_genexprCodeX rfl ic itb rfl fun c' h₃ tk₃ hx₃ hge hlt₃ _ _ htab₃ _ => ?_⟩
  have ext : ∀ b o, b ≠ 130 → (s.heap.push it).get? b = some o → h₃.get? b = some o := fun b o hb e => hx₃ b o hb e
  have kg₃ : ∀ b o, g.get? b = some o → h₃.get? b = some o := fun b o e => ext b o (fun q => by rw [q, g130] at e; cases e) (kg b o e)
  refine wpAny_builtinsFor (T.g.keeps kg₃) b1 b2 (kg₃ _ _ b3) b4 b5 b6 ?_
  have hsz₂ : (s.heap.push it).objs.size = s.heap.objs.size + 1 := Heap.size_push _ _
  have hge' : (s.heap.push it).objs.size ≤ c' := hge
  have hsz₃ : s.heap.objs.size + 1 ≤ h₃.objs.size := by rw [hsz₂] at hge'; exact Nat.le_trans hge' (Nat.le_of_lt hlt₃)
  have hit₃ : h₃.get? s.heap.objs.size = some it := ext _ _ (fun q => by
    have := Heap.lt_size h130
    rw [q] at this
    exact absurd this (Nat.lt_irrefl _)) (Heap.get?_push_size _ (by rw [← hit]; rfl))
  obtain ⟨FP, hFPd⟩ : ∃ FP, FP = (List.range h₃.objs.size).filter (fun b => b != L) := ⟨_, rfl⟩
  have mFP : ∀ b, b ∈ FP ↔ b < h₃.objs.size ∧ b ≠ L := fun b => by rw [hFPd]; simp
  have hcs : ∃ oc, g.get? cStatics = some oc := by
    obtain ⟨mc, hns, _⟩ := T.nodigits
    obtain ⟨oc, _, _, hoc, _⟩ := hns
    exact ⟨oc, hoc⟩
  obtain ⟨ocs, hocs⟩ := hcs
  have csL : cStatics ≠ L := fun q => by rw [q, nL] at hocs; cases hocs
  have csI : cStatics ≠ s.heap.objs.size := Nat.ne_of_lt (Heap.lt_size (F.keep _ _ hocs))
  refine ⟨s.heap.objs.size, [s.heap.objs.size, l], [s.heap.objs.size], vs.toArray.size, fun i v => vs.toArray[i]? = some v, fun i h => h.IsListIter s.heap.objs.size l i ∧ h.IsList l vs.toArray, fun i y => ∃ u, y = .str (wordOf (ts.getD i 0)) u, FP, rfl,
    fun A' hA => Walks.list hA _ _ (Nat.ne_of_lt hlt) vs.toArray, ⟨⟨_, hit₃.trans (by rw [← hit]), rfl, rfl⟩, ⟨_, ext _ _ hl130 (kp _ _ hlg), rfl, _, rfl⟩⟩, ?_, fun b hb => ((mFP b).mp hb).1, (mFP _).mpr ⟨Heap.lt_size (kg₃ _ _ hocs), csL⟩, T.nolimit.keeps kg₃, ?_, ?_, ?_⟩
  · intro b hb
    simp only [List.mem_cons, List.not_mem_nil, or_false] at hb
    rcases hb with q | q
    · rw [q]; exact (mFP s.heap.objs.size).mpr ⟨hsz₃, Ne.symm (Nat.ne_of_lt hLs)⟩
    · rw [q]; exact (mFP l).mpr ⟨Nat.lt_of_lt_of_le hlt (Nat.le_of_succ_le hsz₃), hlL⟩
  · exact fun hb => csI (List.mem_singleton.mp hb)
  · intro href hk
    refine ⟨fun A' E' i v s₂ m₂ hA hP hn hm hold => ?_, fun A' E' i v s₂ m₂ hA hP _ hn hm hold => ?_⟩
    · rw [List.forIn_nil]
      exact wpAny_pure ⟨rfl, _, _, rfl, fun _ _ e => e⟩
    · obtain ⟨ai, t, rest, n, rfl, hai, hk0, hk1⟩ := hW i v (by simpa using hP)
      have q := N _ (.tail _ hai)
      have back : ∀ b o, g.get? b = some o → s₂.heap.get? b = some o := fun b o e => hold b ((mFP b).mpr ⟨Heap.lt_size (kg₃ b o e), fun z => by rw [z, nL] at e; cases e⟩) (fun z => by
        have h1 := Heap.lt_size e
        rw [List.mem_singleton.mp z] at h1
        exact absurd (Nat.lt_of_lt_of_le h1 (Nat.le_trans hgsz (Nat.le_of_lt hLs))) (Nat.lt_irrefl _)) o (hk b o (kg₃ b o e))
      have hai3 : h₃.get? ai = some (tupO (.int (ts.getD i 0) t :: rest) n) := ext ai _ (fun z => by
        have h2 := q.1
        rw [show (ai, tupO (.int (ts.getD i 0) t :: rest) n).1 = ai from rfl, z] at h2
        rw [show s.heap.get? 130 = _ from h130] at h2
        cases h2) (kp _ _ q.1)
      refine elt_wit (ai := ai) (t := t) (rest := rest) (n := n) rfl rfl rfl rfl rfl hn hm (hold ai ((mFP ai).mpr ⟨Heap.lt_size hai3, q.2.1⟩) (fun z => by
        have h1 := Heap.lt_size q.1
        rw [show (ai, tupO (.int (ts.getD i 0) t :: rest) n).1 = ai from rfl, List.mem_singleton.mp z] at h1
        exact absurd h1 (Nat.lt_irrefl _)) _ (hk _ _ hai3)) (T.g.keeps back) (T.free "str" (by decide +kernel) (by decide +kernel) (by decide +kernel) (by decide +kernel) (by decide +kernel)) (T.b.keeps back) ((T.builtins "str" (by decide +kernel)).trans (by decide +kernel)) hk0 hk1
  · intro a h₅ tk gs hgb hag hsz₅ hk₅ GX
    have kg₅ : ∀ b o, g.get? b = some o → h₅.get? b = some o := fun b o e => hk₅ b o (kg₃ b o e)
    have F₅ : Fr g L h₅ m := ⟨(F.ns.extBut (fun b o hb e => hk₅ b o (ext b o hb (kp b o e))) (Ne.symm hL130)), kg₅, F.above⟩
    obtain ⟨lfp, Nl, hlf⟩ := fp_ledger (g := g) (h := h₅) (L := L) (fun b o e _ => by
      cases q : g.get? b with
      | none => exact .inr rfl
      | some o' => exact .inl (by rw [← e, kg₅ b o' q])) (a :: h₃.objs.size :: FP) (fun b hb => by
      rcases List.mem_cons.mp hb with rfl | hb
      · exact fun q => by rw [q] at hag; exact absurd (Nat.lt_trans hag (Nat.lt_of_lt_of_le hLs (Nat.le_of_succ_le hsz₃))) (Nat.lt_irrefl _)
      rcases List.mem_cons.mp hb with rfl | hb
      · exact fun q => by
          have h1 : L < h₃.objs.size := Nat.lt_of_lt_of_le hLs (Nat.le_of_succ_le hsz₃)
          rw [q] at h1
          exact absurd h1 (Nat.lt_irrefl _)
      · exact ((mFP b).mp hb).2)
    have Nn : ∀ p ∈ news, h₅.get? p.1 = some p.2 := fun p hp => by
      have q := N p (.tail _ hp)
      refine hk₅ _ _ (ext _ _ (fun z => ?_) (kp _ _ q.1))
      exact n130 p hp z
    have N₅ : News g L h₅ (lfp ++ ((130, tblO (#[] ++ #[rawInt pos.line, rawInt pos.col, .ref c'])) :: news)) := fun p hp => by
      rcases List.mem_append.mp hp with hp | hp
      · exact Nl p hp
      rcases List.mem_cons.mp hp with rfl | hp
      · exact ⟨hk₅ _ _ htab₃.2, hL130, g130⟩
      · have q := N p (.tail _ hp)
        exact ⟨Nn p hp, q.2⟩
    have hag' : h₃.objs.size < a := hag
    refine hQ a lfp _ FP h₃.objs.size [s.heap.objs.size] _ F₅ N₅ (G.push hgb) rfl ⟨hlen ▸ (by simpa using GX), hlf, fun b hb => ?_, fun b hb => ?_⟩
    · rcases List.mem_cons.mp hb with rfl | hb
      · exact Nat.le_refl _
      rcases List.mem_cons.mp hb with rfl | hb
      · exact Nat.le_of_lt hag'
      · exact Nat.le_of_lt (Nat.lt_trans ((mFP b).mp hb).1 hag')
    · have hb' : s.heap.objs.size ≤ b := by
        rcases List.mem_cons.mp hb with rfl | hb
        · exact Nat.le_of_succ_le hsz₃
        · rw [List.mem_singleton.mp hb]; exact Nat.le_refl _
      refine ⟨fun q => absurd (Nat.lt_of_lt_of_le (q ▸ hLs) hb') (Nat.lt_irrefl _), ?_, fun p hp q => ?_⟩
      · cases e : g.get? b with
        | none => rfl
        | some o => exact absurd (Nat.lt_of_lt_of_le (Heap.lt_size e) (Nat.le_trans hgsz (Nat.le_of_lt (Nat.lt_of_lt_of_le hLs hb')))) (Nat.lt_irrefl _)
      · have hlt2 : p.1 < s.heap.objs.size := by
          rcases List.mem_cons.mp hp with rfl | hp
          · exact Heap.lt_size h130
          · exact Heap.lt_size (N p (.tail _ hp)).1
        exact absurd (Nat.lt_of_lt_of_le (q ▸ hlt2) hb') (Nat.lt_irrefl _)
theorem join_wit2 {g h : Heap} {L : Addr} {m : Str → Option Value} {news lfp : List (Addr × Obj)} {ts : List Int} {a C : Addr} {ps' : Array Value} {FP wr : List Addr} {s₅ : Shared} {t : Tok} {tk : Nat} {Q : Value → Shared → Prop}
    (GH : GenHeld prog w A g L news ts a lfp ps' FP C wr s₅) (F : Fr g L h m) (N : News g L h (lfp ++ ((130, tblO ps') :: news))) (hh : A.handled = none) (hl : ts.length ≤ 1000) (hb : ∀ i, 0 ≤ ts.getD i 0 ∧ ts.getD i 0 < 10 ^ 6)
    (hQ : ∀ s' t', Fr g L s'.heap m → News g L s'.heap ((130, tblO ps') :: news) → (AllBare s₅.gens → AllBare s'.gens) → s'.os = s₅.os → Q (.str (Txt.join (Str.ofString ", ") (ts.map wordOf)) t') s') :
    wpAny (model prog w) A (call (.builtin "str.join") [.str (Str.ofString ", ") t, .ref a]) Q E { s₅ with heap := h, toks := tk } := by
  have kp : ∀ b ∈ a :: C :: FP, ∀ o, s₅.heap.get? b = some o → h.get? b = some o := fun b hb o e => (GH.held b hb o e).elim (F.keep b o) fun q => (N _ (List.mem_append_left _ q)).1
  have X' := GH.x.keeps (tk := tk) kp
  obtain ⟨_, hoff2⟩ := F.ns.lt, GH.off
  have haa : @LT.lt Nat _ a h.objs.size := by
    obtain ⟨_, ⟨⟨o, _, _, ho, _⟩, _⟩, _⟩ := GH.x
    exact Heap.lt_size (kp a (.head _) o ho)
  have e1 : (List.range ts.length).map (fun i => wordOf (ts.getD i 0)) = ts.map wordOf := by
    apply List.ext_getElem?
    intro i
    by_cases hi : i < ts.length
    · simp [hi, List.getD_eq_getElem?_getD]
    · simp [hi, Nat.le_of_not_lt hi]
  have hok : JoinOk (Str.ofString ", ") ((List.range ts.length).map (fun i => wordOf (ts.getD i 0))) = true := by
    refine joinOk_of ?_
    have h1 : ((((List.range ts.length).map (fun i => wordOf (ts.getD i 0))).map (·.length)).sum) ≤ ((((List.range ts.length).map (fun i => wordOf (ts.getD i 0))).map (·.length)).length) * 7 := sum_le fun x hx => by
      obtain ⟨y, hy, rfl⟩ := List.mem_map.mp hx
      obtain ⟨i, hi, rfl⟩ := List.mem_map.mp hy
      exact Nat.le_trans (toString_length_le (hb i).1 (by decide) (hb i).2) (by decide)
    have h2 : (Str.ofString ", ").length = 2 := by decide +kernel
    simp only [List.length_map, List.length_range] at h1 ⊢
    rw [h2]
    omega
  refine join_wit X' hh (fun b hb => Nat.lt_of_le_of_lt (GH.size b hb) haa) (tx := fun i => wordOf (ts.getD i 0)) (fun i v hv => hv) hok (Nat.le_trans hl (by rw [sizeLine_eq]; decide)) fun s' t' k' G' o' => ?_
  rw [e1]
  have out : ∀ b o, (∀ q ∈ C :: wr, q ≠ b) → h.get? b = some o → s'.heap.get? b = some o := fun b o hq e => k' b o (fun hm => hq b hm rfl) e
  refine hQ s' t' ⟨F.ns.at' fun o e => out L o (fun q hq => (GH.off q hq).1) e, fun b o e => out b o (fun q hq z => ?_) (F.keep b o e), F.above⟩ (fun p hp => ?_) G' o'
  · have := (GH.off q hq).2.1
    rw [z, e] at this; cases this
  · have q := N p (List.mem_append_right _ hp)
    exact ⟨out _ _ (fun b hb z => (GH.off b hb).2.2 p hp z.symm) q.1, q.2⟩
end
noncomputable def fmtS (ts : List Int) : Str := (if 1 < ts.length then Str.ofString "at tab sizes" else Str.ofString "at tab size") ++ Str.ofString " " ++ Txt.join (Str.ofString ", ") (ts.map wordOf)
theorem fmtS_more {ts : List Int} (h : 1 < ts.length) : Str.ofString "at tab sizes" ++ Str.ofString " " ++ Txt.join (Str.ofString ", ") (ts.map wordOf) = fmtS ts := by unfold fmtS; rw [if_pos h]
theorem fmtS_one {ts : List Int} (h : ¬ 1 < ts.length) : Str.ofString "at tab size" ++ Str.ofString " " ++ Txt.join (Str.ofString ", ") (ts.map wordOf) = fmtS ts := by unfold fmtS; rw [if_neg h]
end Mine

-- CF2
namespace Mine
theorem cFmt (w : World) (news : List (Addr × Obj)) (l : Addr) (vs : List Value) (k : Nat) (ts : List Int) (hl : (l, W.listOf vs.toArray k) ∈ news) (hW : WitAt news vs ts) (n130 : ∀ p ∈ news, p.1 ≠ 130) (hts : ts.length ≤ 1000) (htb : ∀ i, 0 ≤ ts.getD i 0 ∧ ts.getD i 0 < 10 ^ 6) :
    ∀ (mean : ExcName → Option Value) (mg mb : Str → Option Value) (dp un : Nat) (gd : Option (List Code)) (cn : Str) (cs : Scope) (ad : Addr) (ccd : Value) (cl : List (Str × Addr)) (outer : List Env) (A₀ : Around) (base h₀ : Heap) (L : Addr) (m : Str → Option Value) (s : Shared) (Q E : Value → Shared → Prop)
    (_ : Below A₀ base outer h₀) (_ : Fr h₀ L s.heap m) (_ : (Mine.hd.heap_1 w.params).In h₀) (_ : News h₀ L s.heap ((130, tblO #[]) :: news)) (_ : Top P0 L0 mean mg mb h₀) (_ : cs.kind = .function)
    (_ : dp + 1 < recursionLimit) (_ : un + 100 < cLine) (_ : AllBare s.gens)
    (_ : ∀ t s' ps', Fr h₀ L s'.heap m → News h₀ L s'.heap ((130, tblO ps') :: news) → AllBare s'.gens → s'.os = s.os → Q (.str (fmtS ts) t) s'),
    wpAny (model PySem.Challenge.rw_wn0113_01.row.prog w) (ktrTop dp un gd cn cs L ad ccd cl outer) (call (.ref 135) [.ref l]) Q E s := by
  k_fill
  intro mean mg mb dp un gd cn cs ad ccd cl outer A₀ base h₀ L m s Q E B F X N T hk hdp hun G ret
  k_with_none
  k_with "m eval Name" => (k_here; name_kind "local"; k_dflt (refine' ld (by k_asm) ?_ ?_; (first | exact rfl | (rotate_left; exact rfl)); k_whole))
  k_with "m k_mem" => first | with_reducible assumption | (refine' List.mem_append_left _ ?_; k_mem) | (refine' List.mem_append_right _ ?_; k_mem)
  k_with "m ne" => first | assumption | (rename ∀ p ∈ _, _ ≠ Prod.fst p => hh2; k_extra "m ne1") | (refine ne_of_stored (by assumption) ?_; decide +kernel)
  k_with "m ne1" => (rename ∀ p ∈ _, _ ≠ Prod.fst p => hh2; first | (have hh3 := hh2 _ (List.Mem.head _); exact hh3) | (replace hh2 := ne_tail hh2; k_extra "m ne1"))
  k_with "m nes" => first | exact fa0 | (refine faC ?_ ?_; (k_extra "m ne"); (k_extra "m nes"))
  k_with "m same1" => first | (refine kstB_out ?_ (by assumption); k_extra "m nes") | (refine (if_neg ?_).trans ?_; (k_extra "m ne"); (k_extra "m same1"))
  k_with "m same" => (intro z h1 h2 h3; k_extra "m same1")
  k_with "m sameW" => (intro z h2 h3; k_extra "m same1")
  k_with "m k_all" => first | with_reducible assumption | (refine' List.forall_mem_append.mpr ⟨?_, ?_⟩; (k_all); (k_all))
  k_with "hk on" => fail_if_success (fail_if_success (with_reducible rename HkOn => hkOn))
  k_with "hk ne" => first | exact neAround | exact neShared | exact neWorld | exact neDrawn | exact neGen | exact neSCtx | exact neI | exact Nonempty.intro (by constructor <;> first | exact default | (constructor <;> exact default))
  k_with "m execs cons" => (k_extra "hk on"; (try k_made); (with_reducible refine wpAny_execs_cons ?_); try dsimp only)
  k_with "m execs nil" => (k_extra "hk on"; refine wpAny_execs_nil ?_)
  k_with "hk omega" => ((k_extra "hk on"); dsimp +zetaDelta only; first | lia | omega +splitDisjunctions)
  k_with "hk ne" => exact neWsD
  k_with "m k_mem" => first | (with_reducible assumption) | exact List.Mem.head _ | ((with_reducible refine' List.mem_append_left _ ?_); k_mem) | ((with_reducible refine' List.mem_append_right _ ?_); k_mem) | ((with_reducible refine' List.Mem.tail _ ?_); (try show (_ : Addr × Obj) ∈ (_ : List (Addr × Obj))); k_mem)
  k_with "m same2" => first | with_reducible rfl | (refine (if_neg ?_).trans ?_; (k_extra "m ne"); (k_extra "m same2"))
  k_with "m same3" => first | (refine kstB_out ?_ (by assumption); k_extra "m nes") | (refine (kstB_f (cPs_out ?_ (by assumption))).trans ?_; (k_extra "m ne"); refine (if_neg (at_out (by assumption))).trans ?_; k_extra "m same3") | (refine (if_neg ?_).trans ?_; (k_extra "m ne"); (k_extra "m same3"))
  have hvl : vs.length = ts.length := hW.1
  have hj : (Txt.join (Str.ofString ", ") (ts.map wordOf)).length ≤ 10000 := by
    have e : Txt.join (Str.ofString ", ") (ts.map wordOf) = Str.join (Str.ofString ", ") (ts.map wordOf) := StrLaws.glued_eq_join _ _
    have h := StrLaws.join_length_le (Str.ofString ", ") (ts.map wordOf)
    have h1 : (((ts.map wordOf).map (·.length)).sum) ≤ (((ts.map wordOf).map (·.length)).length) * 7 := sum_le fun x hx => by
      obtain ⟨y, hy, rfl⟩ := List.mem_map.mp hx
      obtain ⟨z, hz, rfl⟩ := List.mem_map.mp hy
      obtain ⟨i, hi, rfl⟩ := List.mem_iff_getElem.mp hz
      have q := htb i
      rw [List.getD_eq_getElem?_getD, List.getElem?_eq_getElem hi] at q
      exact Nat.le_trans (toString_length_le q.1 (by decide) q.2) (by decide)
    have h2 : (Str.ofString ", ").length = 2 := by decide +kernel
    rw [e]
    rw [h2] at h
    simp only [List.length_map] at h h1
    omega
  k_with_none
  k_with "m eval Name" => (k_here; name_kind "local"; k_dflt (refine' ld (by k_asm) ?_ ?_; (first | exact rfl | (rotate_left; exact rfl)); k_whole))
  k_with "m k_mem" => first | with_reducible assumption | (refine' List.mem_append_left _ ?_; k_mem) | (refine' List.mem_append_right _ ?_; k_mem)
  k_with "m ne" => first | assumption | (rename ∀ p ∈ _, _ ≠ Prod.fst p => hh2; k_extra "m ne1") | (refine ne_of_stored (by assumption) ?_; decide +kernel)
  k_with "m ne1" => (rename ∀ p ∈ _, _ ≠ Prod.fst p => hh2; first | (have hh3 := hh2 _ (List.Mem.head _); exact hh3) | (replace hh2 := ne_tail hh2; k_extra "m ne1"))
  k_with "m nes" => first | exact fa0 | (refine faC ?_ ?_; (k_extra "m ne"); (k_extra "m nes"))
  k_with "m same1" => first | (refine kstB_out ?_ (by assumption); k_extra "m nes") | (refine (if_neg ?_).trans ?_; (k_extra "m ne"); (k_extra "m same1"))
  k_with "m same" => (intro z h1 h2 h3; k_extra "m same1")
  k_with "m sameW" => (intro z h2 h3; k_extra "m same1")
  k_with "m k_all" => first | with_reducible assumption | (refine' List.forall_mem_append.mpr ⟨?_, ?_⟩; (k_all); (k_all))
  k_with "hk on" => fail_if_success (fail_if_success (with_reducible rename HkOn => hkOn))
  k_with "hk ne" => first | exact neAround | exact neShared | exact neWorld | exact neDrawn | exact neGen | exact neSCtx | exact neI | exact Nonempty.intro (by constructor <;> first | exact default | (constructor <;> exact default))
  k_with "m execs cons" => (k_extra "hk on"; (try k_made); (with_reducible refine wpAny_execs_cons ?_); try dsimp only)
  k_with "m execs nil" => (k_extra "hk on"; refine wpAny_execs_nil ?_)
  k_with "hk omega" => ((k_extra "hk on"); dsimp +zetaDelta only; first | lia | omega +splitDisjunctions)
  k_with "hk ne" => exact neWsD
  k_with "m k_mem" => first | (with_reducible assumption) | exact List.Mem.head _ | ((with_reducible refine' List.mem_append_left _ ?_); k_mem) | ((with_reducible refine' List.mem_append_right _ ?_); k_mem) | ((with_reducible refine' List.Mem.tail _ ?_); (try show (_ : Addr × Obj) ∈ (_ : List (Addr × Obj))); k_mem)
  k_with "m same2" => first | with_reducible rfl | (refine (if_neg ?_).trans ?_; (k_extra "m ne"); (k_extra "m same2"))
  k_with "m same3" => first | (refine kstB_out ?_ (by assumption); k_extra "m nes") | (refine (kstB_f (cPs_out ?_ (by assumption))).trans ?_; (k_extra "m ne"); refine (if_neg (at_out (by assumption))).trans ?_; k_extra "m same3") | (refine (if_neg ?_).trans ?_; (k_extra "m ne"); (k_extra "m same3"))
  k_with "m eval GeneratorExp" =>
    rename Fr _ _ _ _ => F6
    rename News _ _ _ _ => N6
    (
    refine gen_wit F6 N6 (by k_asm) (by k_asm) G n130 rfl hl hW rfl (by ktr_room) rfl rfl rfl (fun a9 lfp9 ps9 FP9 C9 wr9 s9 F' N' G9 o9 GH => ?_))
    (try k_fold)
  k_with "m call builtin:len" =>
    rename News _ _ _ _ => N6
    refine kst_len N6 (List.mem_append_right _ (.tail _ hl)) hvl (by omega) ?_
  k_with "m call builtin:str.join" =>
    rename Fr _ _ _ _ => F6
    rename News _ _ _ _ => N6
    (
    refine join_wit2 GH F6 N6 rfl hts htb (fun s8 t8 F' N' G8 o8 => ?_))
    (try k_fold)
  refine wpAny_call ?_
  k_dflt cell_enter
  (repeat' (first | (k_unfold; (try dsimp only)) | (k_end; kc_close) | (walk1; (try dsimp only)) | (dsimp only; walk1) | (leave1; (try dsimp only)) | fail "no step"))
  all_goals
    rename Fr h₀ _ _ _ => F5
    rename News h₀ _ _ _ => N5
    first
    | (
      have e9 := fmtS_more (ts := ts) (by omega)
      rw [e9]
      exact ret _ _ _ F5 N5 (G8 G9) (o8.trans o9))
    | (
      have e9 := fmtS_one (ts := ts) (by omega)
      rw [e9]
      exact ret _ _ _ F5 N5 (G8 G9) (o8.trans o9))
end Mine

-- CG
section
open Builtin Builtin.ObjectAttr
namespace Mine
section
variable {prog : Program} {w : World} {A : Around} {E : Value → Shared → Prop} {s : Shared} {R : Result → Shared → Prop} {x : Addr} {ox : Obj} {od : Option Obj} {name : Str} {tk : Tok} {v : Value}
noncomputable def nagCls : ClassData := { name := "NannyNag", bases := [.type "Exception"], mro := [.ref 59, .type "Exception", .type "BaseException", .type "object"], ns := 58, qualname := "NannyNag" }
theorem nag_clsIn (w : World) : clsIn (Mine.hd.heap_1 w.params) 59 = some nagCls := rfl
theorem osa_nag (X : (Mine.hd.heap_1 w.params).In s.heap) (I : InstAt s.heap x ox 59 od) (ht : takerIn (Mine.hd.heap_1 w.params) 59 name = some none)
    (h : ∀ b, wpAny (model prog w) A.in1 (storeInOwnDict (.ref x) (.ref 59) (.str name tk) name v b)
      (fun fin s' => match fin with | .done f => R (.ok f) s' | .again c' => c'.quiet = true ∧ codeAny (model prog w) A c' R s') (fun e s' => R (.error e) s') s) :
    codeAny (model prog w) A (.call (.builtin "object.__setattr__") ⟨[.ref x, .str name tk, v], []⟩) R s := by
  have SF := PySem.F.store_object
  have hc := nag_clsIn w
  have sub : Looks (model prog w) s.heap (isInstance (.ref x) (.type "object")) true := I.type.andThen (looks_mroIn X (by unfold mroIn; rw [hc]; rfl))
  refine codeAny_call_builtin SF.slot.plain SF.entry (@check_slot (model prog w) _ _ s "object.__setattr__" "object" "__setattr__" (.ref x) [.str name tk, v] [] _ SF.kind SF.split sub (SF.args (.ref x) (.str name tk) v) ?_)
  obtain ⟨attr, ha, hr⟩ := Option.bind_eq_some_iff.mp ht
  have hm : Looks (model prog w) s.heap (mroOf (.ref 59)) nagCls.mro := (looks_clsIn X hc).andThen .now
  have L3 : Looks (model prog w) s.heap (storeTaker? attr) none := by
    cases attr with
    | none => exact .now
    | some a =>
      obtain ⟨b, hb, e⟩ := Option.map_eq_some_iff.mp hr
      refine (looks_takesIn X hb).andThen ?_
      cases b with
      | false => exact .now
      | true => cases e
  rw [osa_eq, refuse_eq]
  refine wpAny_bind (wpAny_bind (I.type.here (wpAny_bind (hm.here ?_))))
  rw [show nagCls.mro = .ref 59 :: [.type "Exception", .type "BaseException", .type "object"] from rfl, refuseLoop_ref, PySem.F.store_Exception.passes]
  refine wpAny_pure (wpAny_bind (I.type.here (wpAny_bind ((looks_findIn X ha).here (wpAny_bind (L3.here ?_))))))
  exact h _
end
section
variable {prog : Program} {w : World} {A : Around} {E : Value → Shared → Prop} {s : Shared} {x dx L : Addr} {h₀ : Heap} {m : Str → Option Value} {name : Str} {tk : Tok} {v : Value} {pre post : List (Addr × Obj)} {es es' : List DictEntry} {n n' : Nat}
theorem store_in {Q : Fin → Shared → Prop} (F : Fr h₀ L s.heap m) (N : News h₀ L s.heap (pre ++ (dx, dictOf es n) :: post)) (hl : (lookIn name (dictOf es n)).isSome = true) (h1 : ∀ p ∈ pre, p.1 ≠ dx) (h2 : ∀ p ∈ post, p.1 ≠ dx)
    (e : Obj.putName name (PyData.keyHash w.params name) (.str name s.toks) v (dictOf es n) = dictOf es' n') (hz : es'.length ≤ 1000)
    (h : ∀ h', Fr h₀ L h' m → News h₀ L h' (pre ++ (dx, dictOf es' n') :: post) → Q (.done (.ret .none)) { s with heap := h', toks := s.toks + 1 }) :
    wpAny (model prog w) A (storeInDict dx (.str name tk) name v) Q E s := by
  obtain ⟨U1, U2⟩ := news_upd (f := Obj.putName name (PyData.keyHash w.params name) (.str name s.toks) v) F N h1 h2 e rfl
  have D : s.heap.get? dx = some (dictOf es n) := (N (dx, dictOf es n) (by simp)).1
  have D' : (s.heap.update dx (Obj.putName name (PyData.keyHash w.params name) (.str name s.toks) v)).get? dx = some (dictOf es' n') := (U2 (dx, dictOf es' n') (by simp)).1
  refine wpAny_bind (wpAny_pure (wpAny_bind ?_))
  unfold nsSet
  refine wpAny_bind (wpAny_bind (wpAny_askSetting (wpAny_pure (wpAny_bind (wpAny_mkText (wpAny_bind (wpAny_loadPart D ?_)))))))
  have c : (!es.toArray.any (·.key.isStr name) && es.toArray.any (·.refKey)) = false := by
    rw [← Array.any_toList, ← Array.any_toList]
    unfold lookIn at hl
    dsimp only at hl
    split at hl
    · rename_i en he
      rw [List.any_eq_true.mpr ⟨en, List.mem_of_find?_eq_some he, List.find?_some he⟩]; rfl
    · split at hl
      · cases hl
      · rename_i z; rw [Bool.not_eq_true] at z; rw [z, Bool.and_false]
  dsimp only
  rw [aRefKeyMayBeTheName_at, c]
  refine wpAny_updatePart D ?_
  refine wpAny_bind (wpAny_lookBehind D' (pastItsLine_dict (by rw [List.size_toArray, sizeLine_eq]; omega)) ?_)
  exact wpAny_pure (h _ U1 U2)
noncomputable abbrev excO (d : Option Addr) (T : Addr) : Obj := { cls := .ref 59, dict := d, data := .fields #[.ref T, .none, .none, .none, .bool false, .none] }
theorem own_some {Q : Fin → Shared → Prop} {T : Addr} {b : Bool} (F : Fr h₀ L s.heap m) (N : News h₀ L s.heap (pre ++ (dx, dictOf es n) :: post)) (X : (Mine.hd.heap_1 w.params).In s.heap) (hx : s.heap.get? x = some (excO (some dx) T)) (hl : (lookIn name (dictOf es n)).isSome = true) (h1 : ∀ p ∈ pre, p.1 ≠ dx) (h2 : ∀ p ∈ post, p.1 ≠ dx)
    (e : Obj.putName name (PyData.keyHash w.params name) (.str name s.toks) v (dictOf es n) = dictOf es' n') (hz : es'.length ≤ 1000)
    (h : ∀ h', Fr h₀ L h' m → News h₀ L h' (pre ++ (dx, dictOf es' n') :: post) → Q (.done (.ret .none)) { s with heap := h', toks := s.toks + 1 }) :
    wpAny (model prog w) A (storeInOwnDict (.ref x) (.ref 59) (.str name tk) name v b) Q E s := by
  refine wpAny_bind (wpAny_pure (wpAny_bind (wpAny_bind (wpAny_loadPart hx (wpAny_bind ((looks_clsIn X (nag_clsIn w)).here ?_))))))
  rw [show nagCls.hasDict = true from rfl]
  refine wpAny_pure (a := some dx) ?_
  exact store_in F N hl h1 h2 e hz h
theorem own_none {Q : Fin → Shared → Prop} {T : Addr} {b : Bool} (F : Fr h₀ L s.heap m) (N : News h₀ L s.heap ((x, excO none T) :: post)) (X : (Mine.hd.heap_1 w.params).In s.heap) (h2 : ∀ p ∈ post, p.1 ≠ x)
    (h : ∀ D h', Fr h₀ L h' m → News h₀ L h' ((D, dictOf [⟨PyData.keyHash w.params name, .str name s.toks, v⟩] 1) :: (x, excO (some D) T) :: post) → (∀ p ∈ (x, excO none T) :: post, p.1 < D) → Q (.done (.ret .none)) { s with heap := h', toks := s.toks + 1 }) :
    wpAny (model prog w) A (storeInOwnDict (.ref x) (.ref 59) (.str name tk) name v b) Q E s := by
  have hx := (N _ (.head _)).1
  refine wpAny_bind (wpAny_pure (wpAny_bind (wpAny_bind (wpAny_loadPart hx (wpAny_bind ((looks_clsIn X (nag_clsIn w)).here ?_))))))
  rw [show nagCls.hasDict = true from rfl]
  have lt : ∀ p ∈ (x, excO none T) :: post, p.1 < s.heap.objs.size := fun p hp => Heap.lt_size (N p hp).1
  have N₁ := N.push F emptyDict
  have F₁ := F.push emptyDict
  obtain ⟨F₂, N₂⟩ := news_upd (pre := [(s.heap.objs.size, emptyDict)]) (d := x) (o := excO none T) (o' := excO (some s.heap.objs.size) T) (f := fun o => { o with dict := some s.heap.objs.size }) F₁ N₁ (fa1 (Ne.symm (Nat.ne_of_lt (lt _ (.head _))))) h2 rfl rfl
  have hx₁ : (s.heap.push emptyDict).get? x = some (excO none T) := Heap.get?_push_of_some _ hx
  show wpAny _ _ (alloc emptyDict >>= _) _ _ _
  refine wpAny_bind (wpAny_alloc' (wpAny_bind (wpAny_update' hx₁ (wpAny_pure ?_))))
  refine store_in (pre := []) (es := []) (n := 0) F₂ N₂ rfl fa0 (faC (Nat.ne_of_lt (lt (x, excO none T) (.head _))) fun p hp => Nat.ne_of_lt (lt p (.tail _ hp))) rfl (show 1 ≤ 1000 by decide) fun h' F' N' => h _ h' F' N' lt
theorem nag_setNew {Q : Unit → Shared → Prop} {T : Addr} (F : Fr h₀ L s.heap m) (X₀ : (Mine.hd.heap_1 w.params).In h₀) (N : News h₀ L s.heap ((x, excO none T) :: post)) (h2 : ∀ p ∈ post, p.1 ≠ x) (ht : takerIn (Mine.hd.heap_1 w.params) 59 name = some none)
    (h : ∀ D h', Fr h₀ L h' m → News h₀ L h' ((D, dictOf [⟨PyData.keyHash w.params name, .str name (s.toks + 1), v⟩] 1) :: (x, excO (some D) T) :: post) → (∀ p ∈ (x, excO none T) :: post, p.1 < D) → Q () { s with heap := h', toks := s.toks + 2 }) :
    wpAny (model prog w) A (setAttr (.ref x) name v) Q E s := by
  have X := X₀.keeps F.keep
  have I : InstAt s.heap x (excO none T) 59 none := ⟨(N _ (.head _)).1, rfl, rfl, trivial⟩
  refine set_plain X I rfl (osa_nag (s := { s with toks := s.toks + 1 }) X I ht fun b => ?_)
  exact own_none F N X h2 fun D h' F' N' l => h D h' F' N' l
theorem nag_setMore {Q : Unit → Shared → Prop} {T : Addr} (F : Fr h₀ L s.heap m) (X₀ : (Mine.hd.heap_1 w.params).In h₀) (N : News h₀ L s.heap ((dx, dictOf es n) :: post)) (hm : (x, excO (some dx) T) ∈ post) (h2 : ∀ p ∈ post, p.1 ≠ dx) (ht : takerIn (Mine.hd.heap_1 w.params) 59 name = some none)
    (hl : (lookIn name (dictOf es n)).isSome = true) (e : Obj.putName name (PyData.keyHash w.params name) (.str name (s.toks + 1)) v (dictOf es n) = dictOf es' n') (hz : es'.length ≤ 1000)
    (h : ∀ h', Fr h₀ L h' m → News h₀ L h' ((dx, dictOf es' n') :: post) → Q () { s with heap := h', toks := s.toks + 2 }) :
    wpAny (model prog w) A (setAttr (.ref x) name v) Q E s := by
  have X := X₀.keeps F.keep
  have hx := (N _ (.tail _ hm)).1
  have I : InstAt s.heap x (excO (some dx) T) 59 (some (dictOf es n)) := ⟨hx, rfl, rfl, (N _ (.head _)).1⟩
  refine set_plain X I rfl (osa_nag (s := { s with toks := s.toks + 1 }) X I ht fun b => ?_)
  exact own_some (pre := []) F N X hx hl fa0 h2 e hz fun h' F' N' => h h' F' N'
end
section
variable {prog : Program} {w : World} {A : Around} {s : Shared} {L : Addr} {h₀ : Heap} {m : Str → Option Value} {news : List (Addr × Obj)} {R : Result → Shared → Prop}
theorem nag_make {rest : List Value} (F : Fr h₀ L s.heap m) (X₀ : (Mine.hd.heap_1 w.params).In h₀) (N : News h₀ L s.heap news) (hrest : rest.length ≤ sizeLine)
    (hq : ∀ T e h', Fr h₀ L h' m → News h₀ L h' ((e, excO none T) :: (T, tupO rest 0) :: news) → @LT.lt Nat _ T e → (∀ p ∈ news, @LT.lt Nat _ p.1 T) →
      codeAny (model prog w) (A.under (.builtin "type.__call__" ⟨.ref 59 :: rest, []⟩)) (.call (.ref 35) ⟨.ref e :: rest, []⟩) (InitBack e R) { s with heap := h' }) :
    codeAny (model prog w) A (.call (.ref 59) ⟨rest, []⟩) R s := by
  obtain ⟨h, g, d, t, os⟩ := s
  have X : (Mine.hd.heap_1 w.params).In h := X₀.keeps F.keep
  have hC : h.get? 59 = some (excClassObj "NannyNag" "NannyNag" 59 58 [.type "Exception"] [.type "Exception", .type "BaseException", .type "object"] true [] [] false none none (some (.ref 22)) none (some (.str "NannyNag" 196)) (some (.str "NannyNag" 204)) (some (.bool true)) "Exception.__new__") := X 59 _ rfl
  have Fx := PySem.F.excBase_Exception
  have f1 := tc_lookup
  have f2 := tc_bind (.ref 59)
  have hT : (⟨h, g, d, t, os⟩ : Shared).TypeIs (.ref 59) "type" := ⟨_, hC, rfl⟩
  refine codeAny_of_tree ?_
  show wpAny _ _ (callAny (.ref 59) _) _ _ _
  repeat (any_goals (first | assumption | with_reducible refine wpAny_loadPart_at hC ?_ | wp_step))
  refine ⟨rfl, ?_⟩
  refine codeAny_call_builtin_at (Code.quiet_builtin _ (by decide +kernel)) entry_typeCall (wpAny_check_type_call_sub hC ?_)
  repeat (first | with_reducible refine wpAny_loadPart_at hC ?_ | with_reducible refine wpAny_madeBy_exc hC ?_ | wp_step)
  refine codeAny_call_builtin_code (Code.quiet_builtin _ Fx.quiet) (wpAny_check_new_sub Fx hC ?_)
  refine codeAny_exc_new_sub Fx hC ?_ hrest
  show wpAny _ _ _ _ _ _
  have N₁ := N.push F { cls := .type "tuple", data := .seq rest.toArray }
  have F₁ := F.push { cls := .type "tuple", data := .seq rest.toArray }
  have N₂ := N₁.push F₁ (excO none h.objs.size)
  have F₂ := F₁.push (excO none h.objs.size)
  have X₂ : (Mine.hd.heap_1 w.params).In ((h.push { cls := .type "tuple", data := .seq rest.toArray }).push (excO none h.objs.size)) := fun a o e => F₂.keep a o (X₀ a o e)
  have hC₁ := X₂ 59 _ rfl
  have hget : ((h.push { cls := .type "tuple", data := .seq rest.toArray }).push (excO none h.objs.size)).get? (h.objs.size + 1) = some (excO none h.objs.size) := by heap_get
  rw [Heap.size_push] at N₂
  have k9 := hq h.objs.size (h.objs.size + 1) _ F₂ N₂ (Nat.lt_succ_self _) (fun p hp => Heap.lt_size (N p hp).1)
  have t1 : Looks (model prog w) ((h.push { cls := .type "tuple", data := .seq rest.toArray }).push (excO none h.objs.size)) (typeOf (.ref (h.objs.size + 1))) (.ref 59) := (Looks.ld hget).andThen .now
  have s1 : Looks (model prog w) ((h.push { cls := .type "tuple", data := .seq rest.toArray }).push (excO none h.objs.size)) (isSubtype (.ref 59) (.ref 59)) true := looks_mroIn X₂ rfl
  have i1 : Looks (model prog w) ((h.push { cls := .type "tuple", data := .seq rest.toArray }).push (excO none h.objs.size)) (typeLookup (.ref 59) "__init__") (some (.ref 35)) := looks_findIn X₂ rfl
  have b1 := bind_fn (M := model prog w) X₂ (f := 35) (.ref (h.objs.size + 1)) rfl
  show wpAny _ _ _ _ _ ⟨(h.push { cls := .type "tuple", data := .seq rest.toArray }).push (excO none h.objs.size), g, d, t, os⟩
  unfold isInstance callSpecial? specialOf
  repeat (first | with_reducible refine wpAny_call ?_ | lk)
  refine codeAny_mono k9 fun r s' z => ?_
  rcases r with e | (v | _ | _ | _) <;> first | exact z | exact z.elim | skip
  obtain ⟨rfl, z⟩ := z
  exact wpAny_pure (wpAny_pure z)
end
end Mine

end
-- CG2
namespace Mine
noncomputable abbrev nagEs (w : World) (k : Int) (msg line : Str) (t1 t2 t3 u1 u2 u3 : Tok) : List DictEntry :=
  [⟨PyData.keyHash w.params "lineno", .str "lineno" u1, .int k t1⟩, ⟨PyData.keyHash w.params "msg", .str "msg" u2, .str msg t2⟩, ⟨PyData.keyHash w.params "line", .str "line" u3, .str line t3⟩]
theorem rot1 {a b : Addr × Obj} {r : List (Addr × Obj)} : ∀ p ∈ b :: a :: r, p ∈ a :: b :: r := fun p hp => by
  rcases List.mem_cons.mp hp with rfl | hp
  · exact .tail _ (.head _)
  rcases List.mem_cons.mp hp with rfl | hp
  · exact .head _
  · exact .tail _ (.tail _ hp)
theorem cNag (w : World) (news : List (Addr × Obj)) (k : Int) (msg line : Str) (t1 t2 t3 : Tok) :
    ∀ (mean : ExcName → Option Value) (mg mb : Str → Option Value) (dp un : Nat) (gd : Option (List Code)) (cn : Str) (cs : Scope) (ad : Addr) (ccd : Value) (cl : List (Str × Addr)) (outer : List Env) (A₀ : Around) (base h₀ : Heap) (L : Addr) (m : Str → Option Value) (s : Shared) (Q E : Value → Shared → Prop)
    (_ : Below A₀ base outer h₀) (_ : Fr h₀ L s.heap m) (_ : (Mine.hd.heap_1 w.params).In h₀) (_ : News h₀ L s.heap news) (_ : Top P0 L0 mean mg mb h₀) (_ : cs.kind = .function)
    (_ : dp + 2 < recursionLimit) (_ : un + 100 < cLine)
    (_ : ∀ e D T n1 u1 u2 u3 h' tk', Fr h₀ L h' m → News h₀ L h' ((D, dictOf (nagEs w k msg line t1 t2 t3 u1 u2 u3) n1) :: (e, excO (some D) T) :: (T, tupO [.int k t1, .str msg t2, .str line t3] 0) :: news) → @Ne Nat e D → @Ne Nat T D → @Ne Nat T e → Q (.ref e) { s with heap := h', toks := tk' }),
    wpAny (model PySem.Challenge.rw_wn0113_01.row.prog w) (ktrTop dp un gd cn cs L ad ccd cl outer) (call (.ref 59) [.int k t1, .str msg t2, .str line t3]) Q E s := by
  k_fill
  intro mean mg mb dp un gd cn cs ad ccd cl outer A₀ base h₀ L m s Q E B F X N T hk hdp hun ret
  k_with_none
  k_with "m eval Name" => (k_here; name_kind "local"; k_dflt (refine' ld (by k_asm) ?_ ?_; (first | exact rfl | (rotate_left; exact rfl)); k_whole))
  k_with "m k_mem" => first | with_reducible assumption | (refine' List.mem_append_left _ ?_; k_mem) | (refine' List.mem_append_right _ ?_; k_mem)
  k_with "m ne" => first | assumption | (rename ∀ p ∈ _, _ ≠ Prod.fst p => hh2; k_extra "m ne1") | (refine ne_of_stored (by assumption) ?_; decide +kernel)
  k_with "m ne1" => (rename ∀ p ∈ _, _ ≠ Prod.fst p => hh2; first | (have hh3 := hh2 _ (List.Mem.head _); exact hh3) | (replace hh2 := ne_tail hh2; k_extra "m ne1"))
  k_with "m nes" => first | exact fa0 | (refine faC ?_ ?_; (k_extra "m ne"); (k_extra "m nes"))
  k_with "m same1" => first | (refine kstB_out ?_ (by assumption); k_extra "m nes") | (refine (if_neg ?_).trans ?_; (k_extra "m ne"); (k_extra "m same1"))
  k_with "m same" => (intro z h1 h2 h3; k_extra "m same1")
  k_with "m sameW" => (intro z h2 h3; k_extra "m same1")
  k_with "m k_all" => first | with_reducible assumption | (refine' List.forall_mem_append.mpr ⟨?_, ?_⟩; (k_all); (k_all))
  k_with "hk on" => fail_if_success (fail_if_success (with_reducible rename HkOn => hkOn))
  k_with "hk ne" => first | exact neAround | exact neShared | exact neWorld | exact neDrawn | exact neGen | exact neSCtx | exact neI | exact Nonempty.intro (by constructor <;> first | exact default | (constructor <;> exact default))
  k_with "m execs cons" => (k_extra "hk on"; (try k_made); (with_reducible refine wpAny_execs_cons ?_); try dsimp only)
  k_with "m execs nil" => (k_extra "hk on"; refine wpAny_execs_nil ?_)
  k_with "hk omega" => ((k_extra "hk on"); dsimp +zetaDelta only; first | lia | omega +splitDisjunctions)
  k_with "hk ne" => exact neWsD
  k_with "m k_mem" => first | (with_reducible assumption) | exact List.Mem.head _ | ((with_reducible refine' List.mem_append_left _ ?_); k_mem) | ((with_reducible refine' List.mem_append_right _ ?_); k_mem) | ((with_reducible refine' List.Mem.tail _ ?_); (try show (_ : Addr × Obj) ∈ (_ : List (Addr × Obj))); k_mem)
  k_with "m same2" => first | with_reducible rfl | (refine (if_neg ?_).trans ?_; (k_extra "m ne"); (k_extra "m same2"))
  k_with "m same3" => first | (refine kstB_out ?_ (by assumption); k_extra "m nes") | (refine (kstB_f (cPs_out ?_ (by assumption))).trans ?_; (k_extra "m ne"); refine (if_neg (at_out (by assumption))).trans ?_; k_extra "m same3") | (refine (if_neg ?_).trans ?_; (k_extra "m ne"); (k_extra "m same3"))
  k_with_none
  k_with "m eval Name" => (k_here; name_kind "local"; k_dflt (refine' ld (by k_asm) ?_ ?_; (first | exact rfl | (rotate_left; exact rfl)); k_whole))
  k_with "m k_mem" => first | with_reducible assumption | (refine' List.mem_append_left _ ?_; k_mem) | (refine' List.mem_append_right _ ?_; k_mem)
  k_with "m ne" => first | assumption | (rename ∀ p ∈ _, _ ≠ Prod.fst p => hh2; k_extra "m ne1") | (refine ne_of_stored (by assumption) ?_; decide +kernel)
  k_with "m ne1" => (rename ∀ p ∈ _, _ ≠ Prod.fst p => hh2; first | (have hh3 := hh2 _ (List.Mem.head _); exact hh3) | (replace hh2 := ne_tail hh2; k_extra "m ne1"))
  k_with "m nes" => first | exact fa0 | (refine faC ?_ ?_; (k_extra "m ne"); (k_extra "m nes"))
  k_with "m same1" => first | (refine kstB_out ?_ (by assumption); k_extra "m nes") | (refine (if_neg ?_).trans ?_; (k_extra "m ne"); (k_extra "m same1"))
  k_with "m same" => (intro z h1 h2 h3; k_extra "m same1")
  k_with "m sameW" => (intro z h2 h3; k_extra "m same1")
  k_with "m k_all" => first | with_reducible assumption | (refine' List.forall_mem_append.mpr ⟨?_, ?_⟩; (k_all); (k_all))
  k_with "hk on" => fail_if_success (fail_if_success (with_reducible rename HkOn => hkOn))
  k_with "hk ne" => first | exact neAround | exact neShared | exact neWorld | exact neDrawn | exact neGen | exact neSCtx | exact neI | exact Nonempty.intro (by constructor <;> first | exact default | (constructor <;> exact default))
  k_with "m execs cons" => (k_extra "hk on"; (try k_made); (with_reducible refine wpAny_execs_cons ?_); try dsimp only)
  k_with "m execs nil" => (k_extra "hk on"; refine wpAny_execs_nil ?_)
  k_with "hk omega" => ((k_extra "hk on"); dsimp +zetaDelta only; first | lia | omega +splitDisjunctions)
  k_with "hk ne" => exact neWsD
  k_with "m k_mem" => first | (with_reducible assumption) | exact List.Mem.head _ | ((with_reducible refine' List.mem_append_left _ ?_); k_mem) | ((with_reducible refine' List.mem_append_right _ ?_); k_mem) | ((with_reducible refine' List.Mem.tail _ ?_); (try show (_ : Addr × Obj) ∈ (_ : List (Addr × Obj))); k_mem)
  k_with "m same2" => first | with_reducible rfl | (refine (if_neg ?_).trans ?_; (k_extra "m ne"); (k_extra "m same2"))
  k_with "m same3" => first | (refine kstB_out ?_ (by assumption); k_extra "m nes") | (refine (kstB_f (cPs_out ?_ (by assumption))).trans ?_; (k_extra "m ne"); refine (if_neg (at_out (by assumption))).trans ?_; k_extra "m same3") | (refine (if_neg ?_).trans ?_; (k_extra "m ne"); (k_extra "m same3"))
  k_with "m setAttr ref" =>
    rename Fr _ _ _ _ => F6
    rename News _ _ _ _ => N6
    first
    | ((with_reducible show wpAny _ _ (setAttr (Value.ref _) ("lineno" : Str) _) _ _ _)
       (
       refine nag_setNew F6 (by k_asm) (news_sub N6 rot1) (faC (by show @Ne Nat _ _; omega) (faC (by show @Ne Nat _ _; omega) (fun p hp => Nat.ne_of_lt (Nat.lt_trans (l2 p hp) l1)))) (by rfl) (fun D9 h9 F' N' l9 => ?_)
       have q1 := l9 (_, _) (.head _)
       have q2 := l9 (_, _) (.tail _ (.head _))
       have q3 := l9 (_, _) (.tail _ (.tail _ (.head _)))
       have q4 := fun p hp => l9 p (.tail _ (.tail _ (.tail _ hp)))))
    | ((with_reducible show wpAny _ _ (setAttr (Value.ref _) ("msg" : Str) _) _ _ _)
       (
       refine nag_setMore F6 (by k_asm) N6 (.head _) (faC (Nat.ne_of_lt q1) (faC (Nat.ne_of_lt q2) (faC (Nat.ne_of_lt q3) fun p hp => Nat.ne_of_lt (q4 p hp)))) (by rfl) (by rfl) (by exact rfl) (by exact (show 2 ≤ 1000 by decide)) (fun h9 F' N' => ?_)))
    | ((with_reducible show wpAny _ _ (setAttr (Value.ref _) ("line" : Str) _) _ _ _)
       (
       refine nag_setMore F6 (by k_asm) N6 (.head _) (faC (Nat.ne_of_lt q1) (faC (Nat.ne_of_lt q2) (faC (Nat.ne_of_lt q3) fun p hp => Nat.ne_of_lt (q4 p hp)))) (by rfl) (by rfl) (by exact rfl) (by exact (show 3 ≤ 1000 by decide)) (fun h9 F' N' => ?_)))
  refine wpAny_call ?_
  refine nag_make F X N (by show 3 ≤ sizeLine; rw [sizeLine_eq]; decide) (fun T9 e9 h1 F1 N1 l1 l2 => ?_)
  k_dflt cell_enter
  (repeat' (first | (k_unfold; (try dsimp only)) | (k_end; kc_close) | (walk1; (try dsimp only)) | (dsimp only; walk1) | (leave1; (try dsimp only)) | fail "no step"))
  all_goals
    rename Fr h₀ _ _ _ => F5
    rename News h₀ _ _ _ => N5
    (
    exact ret _ _ _ _ _ _ _ _ _ F5 (news_sub N5 (fun p hp => by
      rcases List.mem_cons.mp hp with rfl | hp
      · exact .head _
      rcases List.mem_cons.mp hp with rfl | hp
      · exact .tail _ (.head _)
      · exact .tail _ (.tail _ (.tail _ hp)))) (Nat.ne_of_lt q1) (Nat.ne_of_lt q3) (Nat.ne_of_lt l1))
end Mine

-- CH
namespace Mine
noncomputable abbrev nagO (D T : Addr) (tb : Value) : Obj := { cls := .ref 59, dict := some D, data := .fields #[.ref T, tb, .none, .none, .bool false, .none] }
structure Nag (h : Heap) (e D T : Addr) (tb : Value) : Prop where
  at_ : h.get? e = some (nagO D T tb)
  ok : tb = .none ∨ ∃ TB oT ts, tb = .ref TB ∧ @Ne Nat TB e ∧ h.get? TB = some oT ∧ oT.data = .fields ts ∧ ts[3]? = some .none
structure Lands (fs : List Addr) (e : Addr) (tb : Value) (h h' : Heap) : Prop where
  keep : ∀ b o, h.get? b = some o → b ∉ fs → b ≠ e → tb ≠ .ref b → h'.get? b = some o
  slots : ∀ b o, h.get? b = some o → (∀ vs, o.data ≠ .fields vs) → ∃ sl, h'.get? b = some { o with slots := sl }
section
variable {M : Model} {A : Around} {E : Value → Shared → Prop} {s : Shared} {base : Heap} {env : Env} {outer : List Env} {L e D T : Addr} {tb : Value} {W : Shared → Prop}
theorem entry_land {head : Value} {hadNext : Bool} (hfr : A.frames = some (env :: outer)) (hl : s.heap.FunFrames base (env :: outer)) (hf : env.frame = some L) (he : s.heap.get? e = some (nagO D T tb))
    (h : ∀ h' TB', Lands (frs (env :: outer)) e .none s.heap h' → Nag h' e D T (.ref TB') → s.heap.get? TB' = none → W { s with heap := h' }) :
    wpAny M A (do let a ← frameOf env; let pl ← entryPlaceOf L hadNext; let b ← EntryCells.newEntry head a .none (rawInt L) .none pl; setField (.ref e) 1 b) (fun _ s₂ => wpAny M A (setFlight (.ref e) none) (fun _ s₃ => W s₃) E s₂) E s := by
  have hene : e ∉ frs (env :: outer) := fun hm => by
    obtain ⟨_, o, ho, hnf⟩ := hl.mem hm
    rw [he] at ho; cases ho; exact hnf _ rfl
  refine wpAny_bind (wpAny_frameOf_fun hfr hl hf fun h₁ hs₁ => ?_)
  refine wpAny_bind (wpAny_entryPlaceOf fun pl hpl => ?_)
  unfold EntryCells.newEntry newFields
  refine wpAny_bind (wpAny_newObj_type ?_ (hpl.sizeOk5 _ _ _ _ _))
  have he₁ : h₁.get? e = some (nagO D T tb) := (hs₁.2.1 e hene).trans he
  generalize hTO : ({ cls := .type "traceback", dict := none, data := .fields ([head, .ref L, .none, rawInt L, .none] ++ (if pl.isEmpty then List.replicate 6 Value.none else pl)).toArray } : Obj) = TO
  have hTf : TO.isFreed = false := by rw [← hTO]; rfl
  have hsz : 3 < (([head, .ref L, .none, rawInt L, .none] ++ (if pl.isEmpty then List.replicate 6 Value.none else pl)).toArray).size := by simp
  have hTd : TO.data = .fields ([head, .ref L, .none, rawInt L, .none] ++ (if pl.isEmpty then List.replicate 6 Value.none else pl)).toArray := by rw [← hTO]
  have he₂ : (h₁.push TO).get? e = some (nagO D T tb) := Heap.get?_push_of_some _ he₁
  have hTBe : @Ne Nat h₁.objs.size e := Nat.ne_of_gt (Heap.lt_size he₁)
  refine wpAny_setField he₂ rfl (by show 1 < 6; decide) ?_
  have he₃ : ((h₁.push TO).update e (Obj.mapFields (·.setIfInBounds 1 (.ref h₁.objs.size)))).get? e = some (nagO D T (.ref h₁.objs.size)) := Heap.get?_update_self _ he₂ rfl
  have hT₃ : ((h₁.push TO).update e (Obj.mapFields (·.setIfInBounds 1 (.ref h₁.objs.size)))).get? h₁.objs.size = some TO := (Heap.get?_update_other _ _ (Ne.symm hTBe)).trans (Heap.get?_push_size h₁ hTf)
  unfold setFlight
  refine wpAny_bind (wpAny_field he₃ rfl (x := .ref h₁.objs.size) rfl ?_)
  rw [if_pos (show (Value.ref h₁.objs.size != Value.none) = true from by simp)]
  refine wpAny_setField hT₃ hTd hsz ?_
  have hf₀ := Obj.data_mapFields hTd (·.setIfInBounds 3 Value.none)
  have new1 : s.heap.get? h₁.objs.size = none := by
    cases q : s.heap.get? h₁.objs.size with
    | none => rfl
    | some o =>
      obtain ⟨sl, hs⟩ := hs₁.2.2 _ o q
      exact absurd (Heap.lt_size hs) (Nat.lt_irrefl _)
  have thru : ∀ b o, b ≠ e → h₁.get? b = some o → (((h₁.push TO).update e (Obj.mapFields (·.setIfInBounds 1 (.ref h₁.objs.size)))).update h₁.objs.size (Obj.mapFields (·.setIfInBounds 3 ((none : Option Addr).elim Value.none fun f => rawInt f)))).get? b = some o := fun b o hbe hb => by
    rw [Heap.get?_update_other _ _ (Ne.symm (Nat.ne_of_lt (Heap.lt_size hb))), Heap.get?_update_other _ _ (Ne.symm hbe)]
    exact Heap.get?_push_of_some _ hb
  refine h _ h₁.objs.size ⟨fun b o hb hn hbe _ => thru b o hbe ((hs₁.2.1 b hn).trans hb), fun b o hb hnf => ?_⟩ ⟨?_, .inr ⟨h₁.objs.size, _, _, rfl, hTBe, Heap.get?_update_self _ hT₃ (Obj.isFreed_of_fields hf₀), hf₀, by simp⟩⟩ new1
  · obtain ⟨sl, hs⟩ := hs₁.2.2 b o hb
    refine ⟨sl, thru b _ (fun q => ?_) hs⟩
    rw [q, he] at hb; cases hb
    exact hnf _ rfl
  · rw [Heap.get?_update_other _ _ hTBe]
    exact he₃
theorem note_land (hfr : A.frames = some (env :: outer)) (hl : s.heap.FunFrames base (env :: outer)) (hf : env.frame = some L) (Ng : Nag s.heap e D T tb)
    (h : ∀ h' TB', Lands (frs (env :: outer)) e tb s.heap h' → Nag h' e D T (.ref TB') → s.heap.get? TB' = none → W { s with heap := h' }) :
    wpAny M A (noteFrame (.ref e) env) (fun _ s₂ => wpAny M A (setFlight (.ref e) none) (fun _ s₃ => W s₃) E s₂) E s := by
  obtain ⟨he, ok⟩ := Ng
  unfold noteFrame
  simp only [hf]
  rcases ok with rfl | ⟨TB, oT, ts, rfl, hTe, hT, hTd, h3⟩
  · refine wpAny_bind (wpAny_field he rfl (x := .none) rfl ?_)
    rw [if_neg (by decide)]
    exact entry_land hfr hl hf he h
  · refine wpAny_bind (wpAny_field he rfl (x := .ref TB) rfl ?_)
    rw [if_pos (show (Value.ref TB != Value.none) = true from by simp)]
    refine wpAny_bind (wpAny_field hT hTd h3 ?_)
    rw [if_neg (show ¬ ((Value.none == rawInt L) = true) from by simp [rawInt])]
    refine wpAny_bind (wpAny_setField hT hTd (Array.getElem?_eq_some_iff.mp h3).1 ?_)
    have other : ∀ b, b ≠ TB → (s.heap.update TB (Obj.mapFields (·.setIfInBounds 3 Value.none))).get? b = s.heap.get? b := fun b hb => Heap.get?_update_other _ _ (Ne.symm hb)
    have nof : ∀ b o, s.heap.get? b = some o → (∀ vs, o.data ≠ .fields vs) → b ≠ TB := fun b o hb hnf q => by
      rw [q, hT] at hb; cases hb; exact hnf ts hTd
    have hTB' : (s.heap.update TB (Obj.mapFields (·.setIfInBounds 3 Value.none))).get? TB ≠ none := by
      rw [Heap.get?_update_self _ hT (Obj.isFreed_of_fields (Obj.data_mapFields hTd _))]
      exact fun q => by cases q
    refine entry_land hfr (hl.of_keeps fun b o hb hnf => ⟨o, (other b (nof b o hb hnf)).trans hb, rfl⟩) hf ((other e (Ne.symm hTe)).trans he) fun h' TB' Ld Ng' hn => ?_
    refine h h' TB' ⟨fun b o hb hfs hbe hbt => ?_, fun b o hb hnf => ?_⟩ Ng' ?_
    · have hbT : b ≠ TB := fun q => hbt (by rw [q])
      exact Ld.keep b o ((other b hbT).trans hb) hfs hbe (by intro q; cases q)
    · exact Ld.slots b o ((other b (nof b o hb hnf)).trans hb) hnf
    · by_cases q : TB' = TB
      · rw [q] at hn
        exact absurd hn hTB'
      · rw [← other TB' q]; exact hn
theorem land_again (Ng : Nag s.heap e D T tb) (htb : tb ≠ .none) (h : ∀ h', Lands [] e tb s.heap h' → Nag h' e D T tb → W { s with heap := h' }) :
    wpAny M A (setFlight (.ref e) none) (fun _ s₃ => W s₃) E s := by
  obtain ⟨he, ok⟩ := Ng
  rcases ok with rfl | ⟨TB, oT, ts, rfl, hTe, hT, hTd, h3⟩
  · exact absurd rfl htb
  unfold setFlight
  refine wpAny_bind (wpAny_field he rfl (x := .ref TB) rfl ?_)
  rw [if_pos (show (Value.ref TB != Value.none) = true from by simp)]
  have h3' := (Array.getElem?_eq_some_iff.mp h3).1
  refine wpAny_setField hT hTd h3' ?_
  have hf₀ := Obj.data_mapFields hTd (·.setIfInBounds 3 Value.none)
  refine h _ ⟨fun b o hb _ hbe hbt => ?_, fun b o hb hnf => ⟨o.slots, ?_⟩⟩ ⟨?_, .inr ⟨TB, _, _, rfl, hTe, Heap.get?_update_self _ hT (Obj.isFreed_of_fields hf₀), hf₀, by simp [h3']⟩⟩
  · exact (Heap.get?_update_other _ _ (fun q => hbt (by rw [q]))).trans hb
  · refine (Heap.get?_update_other _ _ (fun q => ?_)).trans hb
    rw [← q, hT] at hb; cases hb
    exact hnf ts hTd
  · exact (Heap.get?_update_other _ _ hTe).trans he
end
end Mine

-- MKp
namespace Mine
theorem less_yes {u v : WSt} (h : LessIs u v true) : u.n < v.n ∧ (((u.cnt.length : Int) ≤ 1 ∧ (v.cnt.length : Int) ≤ 1 ∧ u.nt ≤ v.nt) ∨ ∀ ts, 2 ≤ ts → ts ≤ max u.long v.long + 1 → u.lv ts < v.lv ts) := by
  generalize hb : true = b at h
  cases h with
  | short h => cases hb
  | simple h h1 h2 => exact ⟨h, .inl ⟨h1, h2, of_decide_eq_true hb.symm⟩⟩
  | no h ts h2 h3 h4 => cases hb
  | yes h h2 => exact ⟨h, .inr h2⟩
noncomputable def topW (p : List WSt) : WSt := p.getLastD ⟨[], 0, 0, 0⟩
structure KSt where
  pile : List WSt
  host : Str
  told : List Dat
inductive KOut where
  | done (told : List Dat)
  | nag (told : List Dat) (k : Int) (msg line : Str)
inductive PopR (lead : WSt) : List WSt → List WSt → Prop
  | one {p : List WSt} (h : p.length ≤ 1) : PopR lead p p
  | stop {p : List WSt} (h : 1 < p.length) (h1 : LessIs lead (topW p) false) : PopR lead p p
  | pop {p q : List WSt} (h : 1 < p.length) (h1 : LessIs lead (topW p) true) (r : PopR lead p.dropLast q) : PopR lead p q
inductive PileR (pile : List WSt) (lead : WSt) (q : List WSt) : Prop
  | push (h : LessIs (topW pile) lead true) (r : PopR lead (pile ++ [lead]) q) : PileR pile lead q
  | stay (h : LessIs (topW pile) lead false) (r : PopR lead pile q) : PileR pile lead q
noncomputable def nagMsg (u v : WSt) : Str := Str.ofString "indent not equal e.g. " ++ fmtS (witTs u v (max u.long v.long + 1).toNat)
inductive RunR : List Str → Int → KSt → KOut → Prop
  | done {k : Int} {st : KSt} : RunR [] k st (.done st.told)
  | go {line : Str} {r : List Str} {k : Int} {st : KSt} {q : List WSt} {o : KOut} (h : PileR st.pile (wsOf line) q) (he : (topW q).cnt = (wsOf line).cnt ∧ (topW q).b = (wsOf line).b)
      (n : RunR r (k + 1) ⟨q, hostOf st.host (ansD (Txt.slice line (some (wsOf line).n) none) st.host), st.told ++ [.tuple [.int ((q.length : Int) - 1), ansD (Txt.slice line (some (wsOf line).n) none) st.host]]⟩ o) : RunR (line :: r) k st o
  | nag {line : Str} {r : List Str} {k : Int} {st : KSt} {q : List WSt} (h : PileR st.pile (wsOf line) q) (he : ¬ ((topW q).cnt = (wsOf line).cnt ∧ (topW q).b = (wsOf line).b)) : RunR (line :: r) k st (.nag st.told (k + 1) (nagMsg (topW q) (wsOf line)) line)
end Mine

-- CKl
namespace Mine
noncomputable def Later (I : Nat → Shared → Prop) (n : Nat) (s : Shared) : Prop := ∃ m, m < n ∧ I m s
section
variable {prog : Program} {w : World} {A : Around} {E : Value → Shared → Prop} {s : Shared} {env : Env}
theorem forC {target : Expr} {it : Value} {body : List Stmt} {Q : Flow → Shared → Prop} (I : Nat → Shared → Prop) (hE : PassesOwn (model prog w) A env E)
    (turn : ∀ n s, I n s → wpAny (model prog w) A (pyNext it) (fun r s₁ => match r with
      | none => Q .next s₁
      | some v => wpAny (model prog w) A (assign target env v) (fun _ s₂ => wpC (model prog w) A (execs body env) (fun f s₃ => match f with
          | .next | .cont => Later I n s₃
          | .brk => Q .next s₃
          | .ret v => Q (.ret v) s₃) E s₂) E s₁) E s)
    (n : Nat) (h : I n s) (ht : ∀ v, letOwnedTupleGo target it v = pure () := by intro _; rfl) :
    codeC (model prog w) A (.forLoop target it body [] env) (fun r s' => match r with | .ok f => Q f s' | .error e => cameBackBy (model prog w) A env E e s') s := by
  refine codeC_forLoop I (fun n s hI => ?_) n h ht
  refine wpAny_mono (turn n s hI) (fun r s₁ h₁ => ?_) hE
  cases r with
  | none => exact wpC_any (wpAny_execs_nil h₁)
  | some v => exact wpAny_mono h₁ (fun _ s₂ h₂ => wpC_mono h₂ (fun f s₃ h₃ => h₃) hE) hE
theorem exprAny {e : Expr} {pos : Pos} {Q : Flow → Shared → Prop} (h : wpAny (model prog w) A (eval e env) (fun _ s' => Q .next s') E s)
    (hi : interactive env = false := by rfl) (hs : swapsWith e none pos.line env = pure false := by rfl) : wpAny (model prog w) A (exec (.Expr e pos) env) Q E s := by
  rw [exec_Expr env e pos hi hs]
  exact wpAny_bind (wpAny_standAt (wpAny_bind (wpAny_mono h (fun v s' h' => wpAny_dropValue h') fun _ _ x => x)))
theorem raise_own {ex : Expr} {pos : Pos} {Q : Flow → Shared → Prop} (hh : A.handled = none)
    (h : wpAny (model prog w) A (eval ex env) (fun v s₁ => ∃ e D T, v = .ref e ∧ (Mine.hd.heap_1 w.params).In s₁.heap ∧
      s₁.heap.get? e = some { cls := .ref 59, dict := some D, data := .fields #[.ref T, .none, .none, .none, .bool false, .none] } ∧ E (.ref e) s₁) E s) :
    wpAny (model prog w) A (exec (.Raise (some ex) none pos) env) Q E s := by
  rw [arm_exec_Raise]
  refine wpAny_bind (wpAny_standAt ?_)
  show wpAny (model prog w) A (raiseStmt env (some (do let v ← eval ex env; standAt pos; pure v)) none) Q E s
  unfold raiseStmt
  refine wpAny_bind (wpAny_bind (wpAny_mono h (fun v s₁ h₁ => wpAny_bind (wpAny_standAt (wpAny_pure ?_))) fun _ _ x => x))
  obtain ⟨e, D, T, rfl, X, he, hE⟩ := h₁
  obtain ⟨hp, g, d, tk, os⟩ := s₁
  have hC : hp.get? 59 = some (excClassObj "NannyNag" "NannyNag" 59 58 [.type "Exception"] [.type "Exception", .type "BaseException", .type "object"] true [] [] false none none (some (.ref 22)) none (some (.str "NannyNag" 196)) (some (.str "NannyNag" 204)) (some (.bool true)) "Exception.__new__") := X 59 _ rfl
  have hcB : (Value.ref 59 :: [Value.type "Exception", .type "BaseException", .type "object"]).contains (.type "BaseException") = true := by decide
  repeat (first | with_reducible refine wpAny_loadPart_at he ?_ | with_reducible refine wpAny_loadPart_at hC ?_ | (with_reducible refine wpAny_isSubtype_exc hC ?_; rw [hcB]) | wp_step)
  exact wpAny_raiseNew_none hh hE
end
end Mine

-- CKr
namespace Mine
noncomputable def Cls3 (o : Obj) : Prop := o.cls ≠ .type "list" ∧ o.cls ≠ .none ∧ o.cls ≠ .type "range_iterator" ∧ o.cls ≠ .ref 59
noncomputable def LT2 (o : Obj) : Prop := o.cls = .type "list" ∨ o.cls = .type "tuple"
inductive WsAll (w : World) (led : List (Addr × Obj)) : List Value → List WSt → Prop
  | nil : WsAll w led [] []
  | cons {x : Addr} {u : WSt} {vs : List Value} {us : List WSt} (h : WsIn w led x u) (r : WsAll w led vs us) : WsAll w led (.ref x :: vs) (u :: us)
theorem WsAll.mono {w : World} {led led' : List (Addr × Obj)} {vs : List Value} {us : List WSt} (h : WsAll w led vs us) (hs : ∀ p ∈ led, p ∈ led') : WsAll w led' vs us := by
  induction h with
  | nil => exact .nil
  | cons h _ ih => exact .cons (h.mono hs) ih
theorem WsAll.length {w : World} {led : List (Addr × Obj)} {vs : List Value} {us : List WSt} (h : WsAll w led vs us) : vs.length = us.length := by
  induction h with
  | nil => rfl
  | cons _ _ ih => simp [ih]
theorem WsAll.snoc {w : World} {led : List (Addr × Obj)} {vs : List Value} {us : List WSt} {x : Addr} {u : WSt} (h : WsAll w led vs us) (hx : WsIn w led x u) : WsAll w led (vs ++ [.ref x]) (us ++ [u]) := by
  induction h with
  | nil => exact .cons hx .nil
  | cons h _ ih => exact .cons h ih
theorem topW_cons {u u2 : WSt} {us : List WSt} : topW (u :: u2 :: us) = topW (u2 :: us) := rfl
theorem WsAll.last {w : World} {led : List (Addr × Obj)} {vs : List Value} {us : List WSt} (h : WsAll w led vs us) (hne : 1 ≤ us.length) :
    ∃ p x, vs = p ++ [.ref x] ∧ WsIn w led x (topW us) ∧ WsAll w led p us.dropLast := by
  induction h with
  | nil => exact absurd hne (by decide)
  | @cons x u vs us h r ih =>
    cases r with
    | nil => exact ⟨[], x, rfl, h, .nil⟩
    | @cons x2 u2 vs2 us2 h2 r2 =>
      obtain ⟨p, y, e, hy, hp⟩ := ih (by simp)
      refine ⟨.ref x :: p, y, by rw [e]; rfl, hy, .cons h hp⟩
theorem topW_snoc (p : List WSt) (u : WSt) : topW (p ++ [u]) = u := by
  unfold topW
  rw [List.getLastD_eq_getLast?, List.getLast?_append]
  rfl
theorem ws_small {w : World} {led : List (Addr × Obj)} {x : Addr} {u : WSt} (h : WsIn w led x u) : ∃ l4, (∀ p ∈ l4, p ∈ led) ∧ (∀ p ∈ l4, Cls3 p.2) ∧ WsIn w l4 x u := by
  obtain ⟨⟨dx, nm, ct, raw, cvs, k1, k2, k3, k4, k5, t1, t2, t3, t4, n1, n2, n3, h1, h2, h3, h4, h5, h6⟩, h7⟩ := h
  refine ⟨[_, _, _, _], ?_, ?_, ⟨dx, nm, ct, raw, cvs, k1, k2, k3, k4, k5, t1, t2, t3, t4, n1, n2, n3, .head _, .tail _ (.head _), .tail _ (.tail _ (.head _)), .tail _ (.tail _ (.tail _ (.head _))), h5, h6⟩, h7⟩
  · exact faC h1 (faC h2 (faC h3 (fa1 h4)))
  · refine faC ?_ (faC ?_ (faC ?_ (fa1 ?_))) <;> (unfold Cls3; refine ⟨?_, ?_, ?_, ?_⟩ <;> (intro q; revert q; show ¬ _; first | (intro q; cases q; done) | (simp [instObj, dictOf]; done) | decide))
theorem ans_inv {tl : List (Addr × Obj)} {r : Value} {A : Dat} (h : DatIn tl r A) (hf : FlatA A) : ∃ tl', (∀ p ∈ tl', p ∈ tl) ∧ (∀ p ∈ tl', p.2.cls = .type "tuple") ∧ DatIn tl' r A := by
  cases hf with
  | int i => cases h with
    | int _ u => exact ⟨[], fa0, fa0, .int _ _⟩
  | str x => cases h with
    | str _ u => exact ⟨[], fa0, fa0, .str _ _⟩
  | pair x i =>
    cases h with
    | @tuple a vs n _ hm hr =>
      cases hr with
      | cons h1 hr =>
        cases h1 with
        | str _ u =>
          cases hr with
          | cons h2 hr =>
            cases h2 with
            | int _ u2 =>
              cases hr
              exact ⟨[_], fa1 hm, fa1 rfl, .tuple (.head _) (.cons (.str _ _) (.cons (.int _ _) .nil))⟩
theorem ans_flat (x h : Str) : FlatA (ansD x h) := by
  unfold ansD
  split
  · split
    · exact .int _
    · exact .int _
    · exact .int _
    · exact .pair _ _
  · exact .str _
mutual
theorem dat_small {tl : List (Addr × Obj)} : ∀ {v : Value} {d : Dat}, DatIn tl v d → ∃ tl', (∀ p ∈ tl', p ∈ tl) ∧ (∀ p ∈ tl', LT2 p.2) ∧ DatIn tl' v d
  | _, _, .none => ⟨[], fa0, fa0, .none⟩
  | _, _, .bool b => ⟨[], fa0, fa0, .bool b⟩
  | _, _, .int i t => ⟨[], fa0, fa0, .int i t⟩
  | _, _, .str x t => ⟨[], fa0, fa0, .str x t⟩
  | _, _, .bytes b t => ⟨[], fa0, fa0, .bytes b t⟩
  | _, _, .tuple hm r => by
    obtain ⟨t1, h1, h2, h3⟩ := dats_small r
    exact ⟨_ :: t1, faC hm h1, faC (.inr rfl) h2, .tuple (.head _) (h3.mono fun p hp => .tail _ hp)⟩
  | _, _, .list hm r => by
    obtain ⟨t1, h1, h2, h3⟩ := dats_small r
    exact ⟨_ :: t1, faC hm h1, faC (.inl rfl) h2, .list (.head _) (h3.mono fun p hp => .tail _ hp)⟩
theorem dats_small {tl : List (Addr × Obj)} : ∀ {vs : List Value} {ds : List Dat}, DatAll tl vs ds → ∃ tl', (∀ p ∈ tl', p ∈ tl) ∧ (∀ p ∈ tl', LT2 p.2) ∧ DatAll tl' vs ds
  | _, _, .nil => ⟨[], fa0, fa0, .nil⟩
  | _, _, .cons h r => by
    obtain ⟨t1, h1, h2, h3⟩ := dat_small h
    obtain ⟨t2, g1, g2, g3⟩ := dats_small r
    exact ⟨t1 ++ t2, fun p hp => (List.mem_append.mp hp).elim (h1 p) (g1 p), fun p hp => (List.mem_append.mp hp).elim (h2 p) (g2 p), .cons (h3.mono fun p hp => List.mem_append_left _ hp) (g3.mono fun p hp => List.mem_append_right _ hp)⟩
end
section
variable {prog : Program} {w : World} {A : Around} {E : Value → Shared → Prop} {s : Shared} {h₀ : Heap} {L : Addr} {led : List (Addr × Obj)}
theorem item_lastw {Q : Value → Shared → Prop} {value slice : Expr} {l : Addr} {vs p : List Value} {v : Value} {n : Nat} {u : Tok} (N : News h₀ L s.heap led) (hm : (l, W.listOf vs.toArray n) ∈ led) (hv : vs = p ++ [v])
    (h : Q v s)
    (hs : subscripted slice false (.ref l) (.int (-1) u) = operate [.ref l, .int (-1) u] (getItem (.ref l) (.int (-1) u)) := by with_unfolding_all rfl) (hg : ∀ r, letTemporaryGo value (.ref l) r = pure () := by intro _; with_unfolding_all rfl) :
    wpAny (model prog w) A (subscriptTail value slice (.ref l) (.int (-1) u)) Q E s := by
  subst hv
  exact item_last (News.isList N hm) h hs hg
theorem strs_at {vs : List Value} {xs : List Str} (h : StrsAre vs xs) {k : Int} {x : Str} (hx : xs[k.toNat]? = some x) : ∃ t, vs[k.toNat]? = some (.str x t) := by
  generalize k.toNat = n at hx ⊢
  induction h generalizing n with
  | nil => simp at hx
  | cons y t _ ih =>
    cases n with
    | zero => simp only [List.getElem?_cons_zero, Option.some.injEq] at hx; exact ⟨t, by rw [hx]; rfl⟩
    | succ n => simpa using ih n (by simpa using hx)
theorem item_str {Q : Value → Shared → Prop} {value slice : Expr} {l : Addr} {vs : List Value} {xs : List Str} {x : Str} {n : Nat} {k : Int} {u : Tok} (N : News h₀ L s.heap led) (hm : (l, W.listOf vs.toArray n) ∈ led) (hS : StrsAre vs xs) (h0 : 0 ≤ k) (hk : k < 1000) (hx : xs[k.toNat]? = some x)
    (h : ∀ t, Q (.str x t) s)
    (hs : subscripted slice false (.ref l) (.int k u) = operate [.ref l, .int k u] (getItem (.ref l) (.int k u)) := by with_unfolding_all rfl) (hg : ∀ r, letTemporaryGo value (.ref l) r = pure () := by intro _; with_unfolding_all rfl) :
    wpAny (model prog w) A (subscriptTail value slice (.ref l) (.int k u)) Q E s := by
  obtain ⟨t, ht⟩ := strs_at hS hx
  exact item_list (News.isList N hm) h0 (by omega) (by rw [List.getElem?_toArray]; exact ht) (h t) hs hg
end
structure Gd (w : World) (fs : List Addr) (g0 : Heap) (A : Around) (base : Heap) (out : List Env) (mean : ExcName → Option Value) (mg mb : Str → Option Value) (g : Heap) : Prop where
  turn : KtsTurn fs g0 g
  below : Below A base out g
  frag : (Mine.hd.heap_1 w.params).In g
  top : Top P0 L0 mean mg mb g
  dicts : KtsDicts fs g
theorem back_gd {w : World} {g0 : Heap} {A : Around} {base : Heap} {out : List Env} {mean : ExcName → Option Value} {mg mb : Str → Option Value} {g g' h : Heap} {L : Addr} {m : Str → Option Value} {news : List (Addr × Obj)}
    (G : Gd w (frs out) g0 A base out mean mg mb g) (B : Back A base out (Mine.hd.heap_1 w.params) P0 L0 mean mg mb g L m news h g') : Gd w (frs out) g0 A base out mean mg mb g' :=
  ⟨G.turn.trans B.turn, B.below, B.frag, B.top, B.dicts⟩
theorem back_none {A₀ : Around} {base : Heap} {K : Frag} {p : Program} {loose : List Str} {mean : ExcName → Option Value} {mg mb : Str → Option Value} {h₀ h h₀' : Heap} {L : Addr} {m : Str → Option Value} {news : List (Addr × Obj)}
    (B : Back A₀ base [] K p loose mean mg mb h₀ L m news h h₀') : Fr h₀ L h m ∧ News h₀ L h news := by
  have k : ∀ b o, h₀.get? b = some o → h₀'.get? b = some o := fun b o e => B.turn.other b o e (fun hm => nomatch hm)
  refine ⟨⟨B.fr.ns, fun b o e => B.fr.keep b o (k b o e), by have := B.fr.above; rw [B.turn.size] at this; exact this⟩, fun q hq => ⟨(B.news q hq).1, (B.news q hq).2.1, kts_none k (B.news q hq).2.2⟩⟩
theorem ns_slots {h h' : Heap} {L : Addr} {m : Str → Option Value} {o : Obj} {sl : Array (Option Value)} (hn : h.Ns L m) (ho : h.get? L = some o) (hs : h'.get? L = some { o with slots := sl }) : h'.Ns L m := by
  obtain ⟨o', es, ep, h1, h2, h3⟩ := hn
  rw [ho] at h1
  obtain rfl := Option.some.inj h1
  exact ⟨_, es, ep, hs, h2, h3⟩
section
variable {prog : Program} {w : World} {A₁ : Around} {E : Value → Shared → Prop} {s : Shared} {base h₀ g0 g : Heap} {L L' a a' e D T : Addr} {m m' : Str → Option Value} {cn cn' : Str} {cs cs' : Scope} {ccd ccd' : Value} {led : List (Addr × Obj)} {oD oT : Obj} {Q : Unit → Shared → Prop}
theorem nag_leaves (K : Below A₁ base (envOf cn cs L a ccd :: []) g) (F : Fr g L' s.heap m') (N : News g L' s.heap ((D, oD) :: (e, excO (some D) T) :: led)) (FG : Fr h₀ L g0 m) (TT : KtsTurn (frs (envOf cn cs L a ccd :: [])) g0 g)
    (hne : ∀ p ∈ (D, oD) :: led, p.1 ≠ e)
    (hQ : ∀ h' TB oTB ts, Fr h₀ L h' m → News h₀ L h' ((e, nagO D T (.ref TB)) :: (TB, oTB) :: (D, oD) :: led) → oTB.data = .fields ts → ts[3]? = some .none → @Ne Nat TB e → (∀ p ∈ (D, oD) :: led, p.1 ≠ e ∧ p.1 ≠ TB) → Q () { s with heap := h' }) (hk : cs'.kind = .function := by rfl) :
    wpAny (model prog w) (A₁.deeper (envOf cn' cs' L' a' ccd')) (leaving (envOf cn' cs' L' a' ccd') (.ref e)) Q E s := by
  have B2 := K.push (name := cn') (a := a') (cd := ccd') F hk
  unfold leaving
  refine wpAny_bind ?_
  refine note_land (W := fun s => Q () s) B2.stack B2.frames rfl ⟨(N _ (.tail _ (.head _))).1, .inl rfl⟩ fun h' TB Ld Ng hTB => ?_
  have nL0 : h₀.get? L = none := kts_self FG
  have st : ∀ b o, h₀.get? b = some o → s.heap.get? b = some o := fun b o q => by
    have q1 := FG.keep b o q
    refine F.keep b o (TT.other b o q1 fun hm => ?_)
    rcases kts_mem hm with rfl | hm
    · rw [nL0] at q; cases q
    · exact nomatch hm
  have hLo : ∃ o, g0.get? L = some o ∧ ∃ es ep, o.data = .dict es ep := by
    obtain ⟨o, es, ep, h1, h2, _⟩ := FG.ns
    exact ⟨o, h1, es, ep, h2⟩
  obtain ⟨oL, hL, es, ep, hLd⟩ := hLo
  obtain ⟨sl, hL1⟩ := TT.up hL
  have hL2 := F.keep _ _ hL1
  obtain ⟨sl2, hL3⟩ := Ld.slots L _ hL2 (fun vs q => by rw [show ({ oL with slots := sl } : Obj).data = oL.data from rfl, hLd] at q; cases q)
  have outF : ∀ b o, s.heap.get? b = some o → g.get? b = none → b ≠ L' → b ∉ frs (envOf cn' cs' L' a' ccd' :: envOf cn cs L a ccd :: []) := fun b o _ hn hb hm => by
    rcases kts_mem hm with q | hm
    · exact hb q
    rcases kts_mem hm with q | hm
    · rw [q, hL1] at hn; cases hn
    · exact nomatch hm
  have kept : ∀ p ∈ (D, oD) :: led, h'.get? p.1 = some p.2 := fun p hp => by
    have hp' : p ∈ (D, oD) :: (e, excO (some D) T) :: led := by
      rcases List.mem_cons.mp hp with q | q
      · exact q ▸ .head _
      · exact .tail _ (.tail _ q)
    obtain ⟨h1, h2, h3⟩ := N p hp'
    exact Ld.keep p.1 p.2 h1 (outF _ _ h1 h3 h2) (hne p hp) (by intro q; cases q)
  have newh : ∀ b, g.get? b = none → b ≠ L' → h₀.get? b = none := fun b hb hL' => by
    cases q : h₀.get? b with
    | none => rfl
    | some o =>
      have q1 := TT.up (FG.keep b o q)
      obtain ⟨sl', q2⟩ := q1
      rw [q2] at hb; cases hb
  have neL : ∀ b o, s.heap.get? b = some o → g.get? b = none → b ≠ L := fun b o _ hn q => by rw [q, hL1] at hn; cases hn
  obtain ⟨_, TBx, oTB, ts, e1, e2, e3, e4, e5⟩ : True ∧ ∃ TBx oT ts, (Value.ref TB) = .ref TBx ∧ @Ne Nat TBx e ∧ h'.get? TBx = some oT ∧ oT.data = .fields ts ∧ ts[3]? = some .none := by
    rcases Ng.ok with q | q
    · cases q
    · exact ⟨trivial, q⟩
  injection e1 with e1
  subst e1
  have hTB0 : h₀.get? TB = none := by
    cases q : h₀.get? TB with
    | none => rfl
    | some o => rw [st _ _ q] at hTB; cases hTB
  have hTBL : TB ≠ L := fun q => by rw [q, hL2] at hTB; cases hTB
  obtain ⟨z1, z2, z3⟩ := N (e, _) (.tail _ (.head _))
  refine hQ h' TB oTB ts ⟨ns_slots (sl := sl2) FG.ns hL hL3, fun b o q => ?_, FG.above⟩ ?_ e4 e5 e2 fun p hp => ⟨hne p hp, fun q => ?_⟩
  · have q0 := st b o q
    refine Ld.keep b o q0 (fun hm => ?_) (fun q1 => ?_) (by intro q; cases q)
    · rcases kts_mem hm with q1 | hm
      · have q2 := TT.up (FG.keep b o q)
        obtain ⟨sl', q3⟩ := q2
        rw [q1, kts_self F] at q3; cases q3
      rcases kts_mem hm with q1 | hm
      · rw [q1, nL0] at q; cases q
      · exact nomatch hm
    · have q2 := newh e z3 z2
      rw [← q1, q] at q2; cases q2
  · refine faC ⟨Ng.at_, neL e _ z1 z3, newh e z3 z2⟩ (faC ⟨e3, hTBL, hTB0⟩ fun p hp => ?_)
    have hp' : p ∈ (D, oD) :: (e, excO (some D) T) :: led := by
      rcases List.mem_cons.mp hp with q | q
      · exact q ▸ .head _
      · exact .tail _ (.tail _ q)
    obtain ⟨h1, h2, h3⟩ := N p hp'
    exact ⟨kept p hp, neL _ _ h1 h3, newh _ h3 h2⟩
  · have hp' : p ∈ (D, oD) :: (e, excO (some D) T) :: led := by
      rcases List.mem_cons.mp hp with q | q
      · exact q ▸ .head _
      · exact .tail _ (.tail _ q)
    have h1 := (N p hp').1
    rw [q, hTB] at h1; cases h1
end
end Mine

-- CKs
namespace Mine
theorem padTo_len (cnt : List Int) (b : Int) (hb : 0 ≤ b) : ((padTo cnt b).length : Int) ≤ cnt.length + b + 1 := by
  unfold padTo
  split
  · rw [List.length_append, List.length_replicate]; omega
  · omega
theorem wsRun_bound : ∀ (l : List Nat) (s : WSt), 0 ≤ s.b → 0 ≤ (wsRun l s).b ∧ (wsRun l s).b + (wsRun l s).cnt.length ≤ s.b + s.cnt.length + l.length
  | [], s, h => by simp only [wsRun, List.length_nil]; exact ⟨h, by omega⟩
  | c :: r, s, h => by
    rw [wsRun]
    split
    · have q := wsRun_bound r s.space (by show 0 ≤ s.b + 1; omega)
      have e1 : s.space.b = s.b + 1 := rfl
      have e2 : s.space.cnt = s.cnt := rfl
      rw [e1, e2] at q
      rw [List.length_cons]
      omega
    split
    · have q := wsRun_bound r s.tab (Int.le_refl 0)
      have e1 : s.tab.b = 0 := rfl
      have e2 : s.tab.cnt.length = (padTo s.cnt s.b).length := by show (List.set _ _ _).length = _; rw [List.length_set]
      have := padTo_len s.cnt s.b h
      rw [e1, e2] at q
      rw [List.length_cons]
      omega
    · rw [List.length_cons]; omega
theorem wsOf_bound (x : Str) : 0 ≤ (wsOf x).b ∧ (wsOf x).b + (wsOf x).cnt.length ≤ x.length := by
  have q := wsRun_bound x.cps.toList ⟨[], 0, 0, 0⟩ (Int.le_refl 0)
  have e : x.cps.toList.length = x.length := by simp [PySem.Str.length]
  rw [e] at q
  unfold wsOf
  simp only [List.length_nil] at q
  omega
theorem ws_in {w : World} {led : List (Addr × Obj)} {x1 : Addr} {x : Str} (h : WsAt w led x1 (wsOf x).n (wsOf x).nt (wsOf x).b (wsOf x).cnt) (hx : x.length ≤ 900) : WsIn w led x1 (wsOf x) := by
  have := wsOf_bound x
  exact ⟨h, by omega, by omega, by omega⟩
theorem witTs_mem (u v : WSt) : ∀ n, ∀ t ∈ witTs u v n, 1 ≤ t ∧ t ≤ n
  | 0, t, h => nomatch h
  | n + 1, t, h => by
    rw [witTs] at h
    split at h
    · have := witTs_mem u v n t h; omega
    · rcases List.mem_append.mp h with h | h
      · have := witTs_mem u v n t h; omega
      · obtain rfl := List.mem_singleton.mp h; omega
theorem wit_all {tl : List (Addr × Obj)} {u v : WSt} : ∀ {ts : List Int} {vs : List Value}, (∀ t ∈ ts, 0 ≤ t ∧ t < 1000000) → DatAll tl vs (ts.map fun t => Dat.tuple [.int t, .int (u.lv t), .int (v.lv t)]) → WitAt tl vs ts
  | [], _, _, .nil => ⟨rfl, fun i v h => by simp at h⟩
  | t :: ts, _, hb, .cons h r => by
    obtain ⟨l, q⟩ := wit_all (fun t ht => hb t (.tail _ ht)) r
    refine ⟨by simp [l], fun i v hv => ?_⟩
    cases i with
    | zero =>
      simp only [List.getElem?_cons_zero, Option.some.injEq] at hv
      subst hv
      obtain ⟨b1, b2⟩ := hb t (.head _)
      cases h with
      | tuple hm hr =>
        cases hr with
        | cons h1 hr =>
          cases h1 with
          | int _ tk => exact ⟨_, tk, _, _, rfl, hm, b1, b2⟩
    | succ i =>
      have q2 := q i v (by simpa using hv)
      simpa using q2
theorem wit_at {tl : List (Addr × Obj)} {u v : WSt} {n : Nat} {vs : List Value} (h : DatAll tl vs (witD u v n)) (hn : n ≤ 1000) : WitAt tl vs (witTs u v n) :=
  wit_all (fun t ht => by have := witTs_mem u v n t ht; omega) h
theorem witTs_get (u v : WSt) (n : Nat) (hn : n ≤ 1000) (i : Nat) : 0 ≤ (witTs u v n).getD i 0 ∧ (witTs u v n).getD i 0 < 10 ^ 6 := by
  rw [List.getD_eq_getElem?_getD]
  cases e : (witTs u v n)[i]? with
  | none => exact ⟨Int.le_refl 0, by decide⟩
  | some t =>
    have := witTs_mem u v n t (List.mem_of_getElem? e)
    show 0 ≤ t ∧ t < 10 ^ 6
    omega
structure LineOk (x : Str) : Prop where
  len : x.length ≤ 600
  sz : ∀ y, (parts229 (Txt.slice x (some (wsOf x).n) none))[3]? = some y → PySem.intText? y = none → (reprText y).length ≤ sizeLine
structure KH where
  tvs : List Value
  tk : Nat
  pvs : List Value
  pk : Nat
  tl : List (Addr × Obj)
  st : KSt
  th : Tok
noncomputable abbrev kLed (tA pA : Addr) (cst : List (Addr × Obj)) (c : KH) : List (Addr × Obj) := (tA, W.listOf c.tvs.toArray c.tk) :: (pA, W.listOf c.pvs.toArray c.pk) :: (130, tblO #[]) :: (c.tl ++ cst)
noncomputable abbrev kPs (lA tA pA : Addr) (c : KH) : List (Str × Value) := [(Str.ofString "lines", .ref lA), (Str.ofString "told", .ref tA), (Str.ofString "pile", .ref pA), (Str.ofString "host", .str c.st.host c.th)]
noncomputable abbrev kSt0 : KSt := ⟨[wsOf (Str.ofString "")], Str.ofString "home", []⟩
structure KInv (w : World) (lines : List Str) (i : Nat) (c : KH) : Prop where
  pile : WsAll w c.tl c.pvs c.st.pile
  told : DatAll c.tl c.tvs c.st.told
  cls : ∀ p ∈ c.tl, Cls3 p.2
  p1 : 1 ≤ c.st.pile.length
  p2 : c.st.pile.length ≤ 1 + i
  tl : c.st.told.length = i
  run : ∀ o, RunR (lines.drop i) (i : Int) c.st o → RunR lines 0 kSt0 o
noncomputable abbrev itO (i n : Int) : Obj := { cls := .type "range_iterator", dict := none, data := .fields #[rawInt i, rawInt (n - i), rawInt 1], slots := #[] }
structure KAt (w : World) (fs : List Addr) (g0 : Heap) (A : Around) (base : Heap) (out : List Env) (mean : ExcName → Option Value) (mg mb : Str → Option Value) (L' lA tA pA I : Addr) (cst : List (Addr × Obj)) (lines : List Str) (i : Nat) (c : KH) (u : Str → Option Value) (g h : Heap) : Prop where
  inv : KInv w lines i c
  fr : Fr g L' h (kstB u (kPs lA tA pA c))
  news : News g L' h ((I, itO i lines.length) :: kLed tA pA cst c)
  gd : Gd w fs g0 A base out mean mg mb g
noncomputable def KLoop (w : World) (fs : List Addr) (g0 : Heap) (A : Around) (base : Heap) (out : List Env) (mean : ExcName → Option Value) (mg mb : Str → Option Value) (L' lA tA pA I : Addr) (cst : List (Addr × Obj)) (lines : List Str) (s : Shared) (n : Nat) (s' : Shared) : Prop :=
  ∃ i c u g h tk, n = lines.length - i ∧ i ≤ lines.length ∧ s' = { s with heap := h, toks := tk } ∧ KAt w fs g0 A base out mean mg mb L' lA tA pA I cst lines i c u g h
section
variable {prog : Program} {w : World} {A : Around} {E : Value → Shared → Prop} {s : Shared} {g : Heap} {L I : Addr} {m : Str → Option Value} {led : List (Addr × Obj)}
theorem next_led {i n : Int} {Q : Option Value → Shared → Prop} (hh : A.handled = none) (F : Fr g L s.heap m) (N : News g L s.heap ((I, itO i n) :: led)) (hI : ∀ p ∈ led, p.1 ≠ I)
    (hmore : i < n → ∀ t h', Fr g L h' m → News g L h' ((I, itO (i + 1) n) :: led) → Q (some (.int i t)) { s with heap := h', toks := s.toks + 1 })
    (hdone : ¬ i < n → ∀ h', Fr g L h' m → News g L h' led → Q none { s with heap := h' }) : wpAny (model prog w) A (pyNext (.ref I)) Q E s := by
  have hit : IsRangeIter s.heap I i (n - i) 1 := (N _ (.head _)).1
  obtain ⟨_, z2, z3⟩ := N (I, itO i n) (.head _)
  by_cases h : i < n
  · refine wpAny_pyNext_range_item hit (by omega) fun h' hit' hs' => ?_
    have e : n - i - 1 = n - (i + 1) := by omega
    rw [e] at hit'
    exact hmore h _ h' (F.change hs' z2 z3) (N.setHead hI hs' hit')
  · refine wpAny_pyNext_range_end hh hit (by omega) fun h' he => ?_
    refine hdone h h' ⟨?_, fun b o q => he b o (fun q1 => by rw [q1, z3] at q; cases q) (F.keep b o q), F.above⟩ fun p hp => ?_
    · obtain ⟨o, es, ep, h1, h2⟩ := F.ns
      exact ⟨o, es, ep, he _ _ (fun q => z2 q.symm) h1, h2⟩
    · obtain ⟨y1, y2⟩ := N p (.tail _ hp)
      exact ⟨he _ _ (hI p hp) y1, y2⟩
end
theorem kk_sub {l4 tl news : List (Addr × Obj)} (h : ∀ p ∈ l4, p ∈ tl ++ news) : ∀ p ∈ l4 ++ news, p ∈ tl ++ news := fun p hp => (List.mem_append.mp hp).elim (h p) fun q => List.mem_append_right _ q
theorem kOff {g h : Heap} {L' I tA pA : Addr} {c : KH} {cst : List (Addr × Obj)} {i n : Int} (N : News g L' h ((I, itO i n) :: kLed tA pA cst c)) (hc : ∀ p ∈ c.tl, Cls3 p.2) (hcst : ∀ p ∈ cst, LT2 p.2) (htA : ∀ p ∈ cst, p.1 ≠ tA) (hpA : ∀ p ∈ cst, p.1 ≠ pA) (hne : @Ne Nat pA tA) :
    (∀ p ∈ kLed tA pA cst c, p.1 ≠ I) ∧ (∀ p ∈ c.tl, p.1 ≠ tA) ∧ (∀ p ∈ c.tl, p.1 ≠ pA) ∧ (∀ p ∈ c.tl ++ cst, p.1 ≠ 130) ∧ @Ne Nat I tA ∧ @Ne Nat I pA ∧ @Ne Nat I 130 ∧ @Ne Nat 130 tA ∧ @Ne Nat 130 pA := by
  have mI : (I, itO i n) ∈ (I, itO i n) :: kLed tA pA cst c := .head _
  have mT : (tA, W.listOf c.tvs.toArray c.tk) ∈ (I, itO i n) :: kLed tA pA cst c := .tail _ (.head _)
  have mP : (pA, W.listOf c.pvs.toArray c.pk) ∈ (I, itO i n) :: kLed tA pA cst c := .tail _ (.tail _ (.head _))
  have m1 : ((130 : Addr), tblO #[]) ∈ (I, itO i n) :: kLed tA pA cst c := .tail _ (.tail _ (.tail _ (.head _)))
  have mt : ∀ p ∈ c.tl, p ∈ (I, itO i n) :: kLed tA pA cst c := fun p hp => .tail _ (.tail _ (.tail _ (.tail _ (List.mem_append_left _ hp))))
  have mc : ∀ p ∈ cst, p ∈ (I, itO i n) :: kLed tA pA cst c := fun p hp => .tail _ (.tail _ (.tail _ (.tail _ (List.mem_append_right _ hp))))
  have q1 : Value.type "list" ≠ Value.type "range_iterator" := by decide
  have q2 : Value.none ≠ Value.type "range_iterator" := by decide
  have q3 : Value.type "tuple" ≠ Value.type "range_iterator" := by decide
  have q4 : Value.none ≠ Value.type "list" := by decide
  have q5 : Value.type "list" ≠ Value.none := by decide
  have q6 : Value.type "tuple" ≠ Value.none := by decide
  refine ⟨?_, fun p hp => ne_of_cls N (mt p hp) mT (hc p hp).1, fun p hp => ne_of_cls N (mt p hp) mP (hc p hp).1, ?_, (ne_of_cls N mT mI q1).symm, (ne_of_cls N mP mI q1).symm, (ne_of_cls N m1 mI q2).symm, ne_of_cls N m1 mT q4, ne_of_cls N m1 mP q4⟩
  · refine faC (ne_of_cls N mT mI q1) (faC (ne_of_cls N mP mI q1) (faC (ne_of_cls N m1 mI q2) fun p hp => ?_))
    rcases List.mem_append.mp hp with hp | hp
    · exact ne_of_cls N (mt p hp) mI (hc p hp).2.2.1
    · refine ne_of_cls N (mc p hp) mI ?_
      rcases hcst p hp with e | e
      · rw [e]; exact q1
      · rw [e]; exact q3
  · intro p hp
    rcases List.mem_append.mp hp with hp | hp
    · exact ne_of_cls N (mt p hp) m1 (hc p hp).2.1
    · refine ne_of_cls N (mc p hp) m1 ?_
      rcases hcst p hp with e | e
      · rw [e]; exact q5
      · rw [e]; exact q6
theorem kk_turn {a b d e : Addr × Obj} {r : List (Addr × Obj)} : ∀ p ∈ b :: d :: e :: a :: r, p ∈ a :: b :: d :: e :: r := fun p hp => by
  simp only [List.mem_cons] at hp ⊢
  rcases hp with q | q | q | q | q
  · exact .inr (.inl q)
  · exact .inr (.inr (.inl q))
  · exact .inr (.inr (.inr (.inl q)))
  · exact .inl q
  · exact .inr (.inr (.inr (.inr q)))
section
variable {prog : Program} {w : World} {A : Around} {E : Value → Shared → Prop} {s : Shared} {g : Heap} {L : Addr} {m : Str → Option Value} {led : List (Addr × Obj)}
theorem kIter {r : Addr} {n : Int} {t u v : Tok} {Q : Value → Shared → Prop} (hr : IsRange s.heap r 0 n 1 t u v) (F : Fr g L s.heap m) (N : News g L s.heap led) (h0 : 0 ≤ n) (hn : n ≤ 1000)
    (k : ∀ I h', Fr g L h' m → News g L h' ((I, itO 0 n) :: led) → (∀ p ∈ led, p.1 ≠ I) → Q (.ref I) { s with heap := h' }) : wpAny (model prog w) A (pyIter (.ref r)) Q E s := by
  refine wpAny_pyIter_range hr (small_one (by omega) (by omega) (by omega) (by omega)) ?_
  have e : Builtin.Range.rangeSize 0 n 1 = n := by
    unfold Builtin.Range.rangeSize
    simp
    omega
  rw [e]
  have e2 : ({ cls := .type "range_iterator", data := .fields #[rawInt 0, rawInt n, rawInt 1] } : Obj) = itO 0 n := by
    show _ = ({ cls := .type "range_iterator", dict := none, data := .fields #[rawInt 0, rawInt (n - 0), rawInt 1], slots := #[] } : Obj)
    rw [Int.sub_zero]
  rw [e2]
  refine k _ _ (F.push _) ?_ (fun p hp q => absurd (Heap.lt_size (N p hp).1) (q ▸ Nat.lt_irrefl _))
  exact faC ⟨Heap.get?_push_size _ rfl, fun e => absurd F.ns.lt (e ▸ Nat.lt_irrefl _), next_is_new F⟩ fun p hp => ⟨Heap.get?_push_of_some _ (N p hp).1, (N p hp).2⟩
end
structure Cut2 (w : World) (led : List (Addr × Obj)) (pile0 : List WSt) (lead : WSt) (d : List Value × Nat × List WSt) : Prop where
  ws : WsAll w led d.1 d.2.2
  le1 : 1 ≤ d.2.2.length
  le2 : d.2.2.length ≤ pile0.length + 1
  go : ∀ q, PopR lead d.2.2 q → PileR pile0 lead q
structure Cut3 (w : World) (led : List (Addr × Obj)) (pile0 : List WSt) (lead : WSt) (d : List Value × Nat × List WSt) : Prop where
  ws : WsAll w led d.1 d.2.2
  le1 : 1 ≤ d.2.2.length
  le2 : d.2.2.length ≤ pile0.length + 1
  is : PileR pile0 lead d.2.2
noncomputable def NagDone (w : World) (E : Value → Shared → Prop) (v : Value) (s₁ : Shared) : Prop := ∃ e D T, v = .ref e ∧ (Mine.hd.heap_1 w.params).In s₁.heap ∧
      s₁.heap.get? e = some { cls := .ref 59, dict := some D, data := .fields #[.ref T, .none, .none, .none, .bool false, .none] } ∧ E (.ref e) s₁
theorem raise_nag {prog : Program} {w : World} {A : Around} {E : Value → Shared → Prop} {s : Shared} {env : Env} {ex : Expr} {pos : Pos} {Q : Flow → Shared → Prop} (hh : A.handled = none)
    (h : wpAny (model prog w) A (eval ex env) (NagDone w E) E s) :
    wpAny (model prog w) A (exec (.Raise (some ex) none pos) env) Q E s := raise_own hh h
theorem last_snoc {vs p : List Value} {y : Value} (h : vs = p ++ [y]) : kl_last vs.toArray.toList = some (p, y) := by
  subst h
  exact kpa_last y p
theorem fmtS_len (u v : WSt) (n : Nat) (hn : n ≤ 1000) : (fmtS (witTs u v n)).length ≤ 10100 := by
  have hts := witTs_len u v n
  have htb := witTs_get u v n hn
  generalize witTs u v n = ts at hts htb
  have hj : (Txt.join (Str.ofString ", ") (ts.map wordOf)).length ≤ 10000 := by
    have e : Txt.join (Str.ofString ", ") (ts.map wordOf) = Str.join (Str.ofString ", ") (ts.map wordOf) := StrLaws.glued_eq_join _ _
    have h := StrLaws.join_length_le (Str.ofString ", ") (ts.map wordOf)
    have h1 : (((ts.map wordOf).map (·.length)).sum) ≤ (((ts.map wordOf).map (·.length)).length) * 7 := sum_le fun x hx => by
      obtain ⟨y, hy, rfl⟩ := List.mem_map.mp hx
      obtain ⟨z, hz, rfl⟩ := List.mem_map.mp hy
      obtain ⟨i, hi, rfl⟩ := List.mem_iff_getElem.mp hz
      have q := htb i
      rw [List.getD_eq_getElem?_getD, List.getElem?_eq_getElem hi] at q
      exact Nat.le_trans (toString_length_le q.1 (by decide) q.2) (by decide)
    have h2 : (Str.ofString ", ").length = 2 := by decide +kernel
    rw [e]
    rw [h2] at h
    simp only [List.length_map] at h h1
    omega
  have l1 : (Str.ofString "at tab sizes").length = 12 := by decide +kernel
  have l2 : (Str.ofString "at tab size").length = 11 := by decide +kernel
  have l3 : (Str.ofString " ").length = 1 := by decide +kernel
  unfold fmtS
  split <;> simp only [Str.length_append] <;> omega
theorem kLine {lines : List Str} (hx : ∀ x ∈ lines, LineOk x) {i : Nat} (h : i < lines.length) : ∃ x9, lines[(i : Int).toNat]? = some x9 ∧ LineOk x9 :=
  ⟨lines[i], List.getElem?_eq_getElem h, hx _ (List.getElem_mem h)⟩
theorem kk_if1 {a b d e : Addr × Obj} {l r q : List (Addr × Obj)} : ∀ p ∈ b :: a :: d :: e :: ((l ++ r) ++ q), p ∈ l ++ a :: b :: d :: e :: (r ++ q) := fun p hp => by
  simp only [List.mem_cons, List.mem_append] at hp ⊢
  rcases hp with q | q | q | q | (q | q) | q
  · simp [q]
  · simp [q]
  · simp [q]
  · simp [q]
  · exact .inl q
  · simp [q]
  · simp [q]
theorem kLead {g h : Heap} {L' I tA pA : Addr} {l4 r : List (Addr × Obj)} {tvs pvs : Array Value} {tk pk : Nat} {i n : Int} (N : News g L' h (l4 ++ (tA, W.listOf tvs tk) :: (pA, W.listOf pvs pk) :: (130, tblO #[]) :: (I, itO i n) :: r)) (hc : ∀ p ∈ l4, Cls3 p.2) :
    News g L' h (l4 ++ (tA, W.listOf tvs tk) :: (pA, W.listOf pvs pk) :: (130, tblO #[]) :: (I, itO i n) :: r) ∧ (∀ p ∈ l4, p.1 ≠ tA) ∧ (∀ p ∈ l4, p.1 ≠ pA) ∧ (∀ p ∈ l4, p.1 ≠ 130) ∧ (∀ p ∈ l4, p.1 ≠ I) ∧ True := by
  have mt : ∀ p ∈ l4, p ∈ l4 ++ (tA, W.listOf tvs tk) :: (pA, W.listOf pvs pk) :: (130, tblO #[]) :: (I, itO i n) :: r := fun p hp => List.mem_append_left _ hp
  exact ⟨N, fun p hp => ne_of_cls N (mt p hp) (List.mem_append_right _ (.head _)) (hc p hp).1, fun p hp => ne_of_cls N (mt p hp) (List.mem_append_right _ (.tail _ (.head _))) (hc p hp).1,
    fun p hp => ne_of_cls N (mt p hp) (List.mem_append_right _ (.tail _ (.tail _ (.head _)))) (hc p hp).2.1, fun p hp => ne_of_cls N (mt p hp) (List.mem_append_right _ (.tail _ (.tail _ (.tail _ (.head _))))) (hc p hp).2.2.1, trivial⟩
section
variable {w : World} {l4 tl led : List (Addr × Obj)} {pile : List WSt} {lead : WSt} {pvs pT : List Value} {x1 : Addr} {b : Bool} {k : Nat} {d : List Value × Nat × List WSt} {y : Value}
theorem cut2_push (hI : WsAll w tl pvs pile) (h1 : WsIn w l4 x1 lead) (hless : LessIs (topW pile) lead b) (hb : b = true) (_h0 : 1 ≤ pile.length) : Cut2 w (l4 ++ tl) pile lead (pvs ++ [.ref x1], k, pile ++ [lead]) := by
  subst hb
  exact ⟨(hI.mono fun p hp => List.mem_append_right _ hp).snoc (h1.mono fun p hp => List.mem_append_left _ hp), by simp, by simp, fun q r => .push hless r⟩
theorem cut2_stay (hI : WsAll w tl pvs pile) (hless : LessIs (topW pile) lead b) (hb : b = false) (h0 : 1 ≤ pile.length) : Cut2 w (l4 ++ tl) pile lead (pvs, k, pile) := by
  subst hb
  exact ⟨hI.mono fun p hp => List.mem_append_right _ hp, h0, Nat.le_succ _, fun q r => .stay hless r⟩
theorem cut3_one (hd : Cut2 w led pile lead d) (h : ¬ (1 : Int) < (d.2.2.length : Int)) : Cut3 w led pile lead d := ⟨hd.ws, hd.le1, hd.le2, hd.go _ (.one (by omega))⟩
theorem cut3_stop (hd : Cut2 w led pile lead d) (h : (1 : Int) < (d.2.2.length : Int)) (hless : LessIs lead (topW d.2.2) b) (hb : b = false) : Cut3 w led pile lead d := by
  subst hb
  exact ⟨hd.ws, hd.le1, hd.le2, hd.go _ (.stop (by omega) hless)⟩
theorem cut2_pop (hd : Cut2 w led pile lead d) (h : (1 : Int) < (d.2.2.length : Int)) (hless : LessIs lead (topW d.2.2) b) (hb : b = true) (hp : WsAll w led pT d.2.2.dropLast) : Cut2 w led pile lead (pT, k, d.2.2.dropLast) := by
  subst hb
  refine ⟨hp, by rw [List.length_dropLast]; omega, by have := hd.le2; rw [List.length_dropLast]; omega, fun q r => hd.go q (.pop (by omega) hless r)⟩
end
theorem kRest {tA pA I : Addr} {oT oB oI : Obj} {l4 tl cst : List (Addr × Obj)} (h1 : @Ne Nat tA pA) (h2 : @Ne Nat 130 pA) (h3 : @Ne Nat I pA) (h4 : ∀ p ∈ l4, p.1 ≠ pA) (h5 : ∀ p ∈ tl, p.1 ≠ pA) (h6 : ∀ p ∈ cst, p.1 ≠ pA) :
    ∀ p ∈ (tA, oT) :: (130, oB) :: (I, oI) :: ((l4 ++ tl) ++ cst), p.1 ≠ pA :=
  faC h1 (faC h2 (faC h3 fun p hp => by
    rcases List.mem_append.mp hp with hp | hp
    · rcases List.mem_append.mp hp with hp | hp
      · exact h4 p hp
      · exact h5 p hp
    · exact h6 p hp))
theorem kFmt {g h : Heap} {L' I tA pA lw : Addr} {tw l4 tl cst : List (Addr × Obj)} {tvs pvs vw : Array Value} {tk pk kw : Nat} {i n : Int}
    (N : News g L' h ((lw, W.listOf vw kw) :: (tw ++ (pA, W.listOf pvs pk) :: (tA, W.listOf tvs tk) :: (130, tblO #[]) :: (I, itO i n) :: ((l4 ++ tl) ++ cst)))) (hw : ∀ p ∈ tw, LT2 p.2) (h4 : ∀ p ∈ l4, p.1 ≠ 130) (h5 : ∀ p ∈ tl ++ cst, p.1 ≠ 130) (h1 : @Ne Nat 130 tA) (h2 : @Ne Nat 130 pA) (h3 : @Ne Nat I 130) :
    News g L' h ((130, tblO #[]) :: (lw, W.listOf vw kw) :: (tw ++ (pA, W.listOf pvs pk) :: (tA, W.listOf tvs tk) :: (I, itO i n) :: ((l4 ++ tl) ++ cst))) ∧ ∀ p ∈ (lw, W.listOf vw kw) :: (tw ++ (pA, W.listOf pvs pk) :: (tA, W.listOf tvs tk) :: (I, itO i n) :: ((l4 ++ tl) ++ cst)), p.1 ≠ 130 := by
  have q5 : Value.type "list" ≠ Value.none := by decide
  have q6 : Value.type "tuple" ≠ Value.none := by decide
  have m1 : ((130 : Addr), tblO #[]) ∈ (lw, W.listOf vw kw) :: (tw ++ (pA, W.listOf pvs pk) :: (tA, W.listOf tvs tk) :: (130, tblO #[]) :: (I, itO i n) :: ((l4 ++ tl) ++ cst)) := .tail _ (List.mem_append_right _ (.tail _ (.tail _ (.head _))))
  refine ⟨news_sub N fun p hp => ?_, ?_⟩
  · simp only [List.mem_cons, List.mem_append] at hp ⊢
    rcases hp with q | q | q | q | q | q | (q | q) | q <;> simp [q]
  · refine faC (ne_of_cls N (.head _) m1 q5) fun p hp => ?_
    rcases List.mem_append.mp hp with hp | hp
    · refine ne_of_cls N (.tail _ (List.mem_append_left _ hp)) m1 ?_
      rcases hw p hp with e | e
      · rw [e]; exact q5
      · rw [e]; exact q6
    · rcases List.mem_cons.mp hp with rfl | hp
      · exact h2.symm
      rcases List.mem_cons.mp hp with rfl | hp
      · exact h1.symm
      rcases List.mem_cons.mp hp with rfl | hp
      · exact h3
      rcases List.mem_append.mp hp with hp | hp
      · rcases List.mem_append.mp hp with hp | hp
        · exact h4 p hp
        · exact h5 p (List.mem_append_left _ hp)
      · exact h5 p (List.mem_append_right _ hp)
theorem kk_wit {a : Addr × Obj} {tw tw2 r : List (Addr × Obj)} (h : ∀ p ∈ tw2, p ∈ tw) : ∀ p ∈ a :: (tw2 ++ r), p ∈ (a :: tw) ++ r := fun p hp => by
  rcases List.mem_cons.mp hp with q | hp
  · exact q ▸ .head _
  rcases List.mem_append.mp hp with hp | hp
  · exact .tail _ (List.mem_append_left _ (h p hp))
  · exact .tail _ (List.mem_append_right _ hp)
theorem drop_line {lines : List Str} {i : Nat} {x : Str} (h : lines[(i : Int).toNat]? = some x) : lines.drop i = x :: lines.drop (i + 1) := by
  have h : lines[i]? = some x := h
  obtain ⟨h1, h2⟩ := List.getElem?_eq_some_iff.mp h
  rw [List.drop_eq_getElem_cons h1, h2]
theorem kk_nag {a b t : Addr × Obj} {n130 pA I : Addr × Obj} {lw tA : Addr × Obj} {tw l4 tl cst : List (Addr × Obj)} : ∀ p ∈ a :: b :: tA :: n130 :: (tl ++ cst), p ∈ a :: b :: t :: n130 :: lw :: (tw ++ pA :: tA :: I :: ((l4 ++ tl) ++ cst)) := fun p hp => by
  simp only [List.mem_cons, List.mem_append] at hp ⊢
  rcases hp with q | q | q | q | q | q <;> simp [q]
theorem kNe {g h : Heap} {L' tA D e : Addr} {es : List DictEntry} {n1 : Nat} {oe : Obj} {tl cst : List (Addr × Obj)} {tvs ps : Array Value} {tk : Nat} (N : News g L' h ((D, dictOf es n1) :: (e, oe) :: (tA, W.listOf tvs tk) :: (130, tblO ps) :: (tl ++ cst))) (he : oe.cls = .ref 59) (h1 : @Ne Nat e D) (hc : ∀ p ∈ tl, Cls3 p.2) (hcst : ∀ p ∈ cst, LT2 p.2) :
    ∀ p ∈ (D, dictOf es n1) :: (tA, W.listOf tvs tk) :: (130, tblO ps) :: (tl ++ cst), p.1 ≠ e := by
  have me : (e, oe) ∈ (D, dictOf es n1) :: (e, oe) :: (tA, W.listOf tvs tk) :: (130, tblO ps) :: (tl ++ cst) := .tail _ (.head _)
  refine faC h1.symm (faC (ne_of_cls N (.tail _ (.tail _ (.head _))) me (by rw [he]; exact fun q => by cases q)) (faC (ne_of_cls N (.tail _ (.tail _ (.tail _ (.head _)))) me (by rw [he]; exact fun q => by cases q)) fun p hp => ?_))
  have mp : p ∈ (D, dictOf es n1) :: (e, oe) :: (tA, W.listOf tvs tk) :: (130, tblO ps) :: (tl ++ cst) := .tail _ (.tail _ (.tail _ (.tail _ hp)))
  rcases List.mem_append.mp hp with hp | hp
  · exact ne_of_cls N mp me (by rw [he]; exact (hc p hp).2.2.2)
  · refine ne_of_cls N mp me ?_
    rcases hcst p hp with q | q <;> (rw [q, he]; exact fun q => by cases q)
theorem kLong {w : World} {l l' : List (Addr × Obj)} {x y : Addr} {u v : WSt} (h : WsIn w l x u) (h' : WsIn w l' y v) : (max u.long v.long + 1).toNat ≤ 1000 := by
  obtain ⟨_, h1, h2, h3⟩ := h
  obtain ⟨_, g1, g2, g3⟩ := h'
  unfold WSt.long
  omega
theorem wit_mono {l l' : List (Addr × Obj)} {vs : List Value} {ts : List Int} (h : WitAt l vs ts) (hs : ∀ p ∈ l, p ∈ l') : WitAt l' vs ts :=
  ⟨h.1, fun i v hv => let ⟨ai, t, rest, n, e, hm, b⟩ := h.2 i v hv; ⟨ai, t, rest, n, e, hs _ hm, b⟩⟩
theorem kk_ans {a b e f : Addr × Obj} {tl8 tl9 r cst : List (Addr × Obj)} (h : ∀ p ∈ tl9, p ∈ tl8) : ∀ p ∈ a :: b :: e :: f :: ((tl9 ++ r) ++ cst), p ∈ tl8 ++ a :: b :: e :: f :: (r ++ cst) := fun p hp => by
  simp only [List.mem_cons, List.mem_append] at hp ⊢
  rcases hp with q | q | q | q | (q | q) | q
  · simp [q]
  · simp [q]
  · simp [q]
  · simp [q]
  · exact .inl (h p q)
  · simp [q]
  · simp [q]
theorem kst_all {g h : Heap} {L : Addr} {m : Str → Option Value} {ps : List (Str × Value)} (F : Fr g L h m) (hk : ∀ p ∈ ps, m p.1 = some p.2) : Fr g L h (kstB m ps) := by
  have e : kstB m ps = m := funext fun z => kstB_eq hk fun _ => rfl
  rw [e]; exact F
section
variable {w : World} {fs : List Addr} {g0 : Heap} {A : Around} {base : Heap} {out : List Env} {mean : ExcName → Option Value} {mg mb : Str → Option Value} {L' lA tA pA I T : Addr} {cst : List (Addr × Obj)} {lines : List Str} {s : Shared}
theorem kTurnEnd {i : Nat} {c : KH} {x9 : Str} {l4 tl9 led : List (Addr × Obj)} {d : List Value × Nat × List WSt} {r : Value} {A9 : Dat} {g8 h : Heap} {m' : Str → Option Value} {t1 th' : Tok} {n tk' tk : Nat}
    (hi : i < lines.length) (hx9 : lines[(i : Int).toNat]? = some x9) (hI : KInv w lines i c) (hd : Cut3 w (l4 ++ c.tl) c.st.pile (wsOf x9) d) (he : (topW d.2.2).cnt = (wsOf x9).cnt ∧ (topW d.2.2).b = (wsOf x9).b)
    (h42 : ∀ p ∈ l4, Cls3 p.2) (ht92 : ∀ p ∈ tl9, p.2.cls = .type "tuple") (hA : DatIn tl9 r (ansD (Txt.slice x9 (some (wsOf x9).n) none) c.st.host)) (hr9 : ansD (Txt.slice x9 (some (wsOf x9).n) none) c.st.host = A9)
    (G1 : KtsTurn fs g0 g8) (G2 : Below A base out g8) (G3 : (Mine.hd.heap_1 w.params).In g8) (G4 : Top P0 L0 mean mg mb g8) (G5 : KtsDicts fs g8)
    (F : Fr g8 L' h m') (N : News g8 L' h led) (g1 : (T, tupO [.int ((d.2.2.length : Int) - 1) t1, r] n) ∈ led) (g2 : (tA, W.listOf (c.tvs.toArray.push (.ref T)) tk') ∈ led) (g3 : (pA, W.listOf d.1.toArray d.2.1) ∈ led) (g4 : ((130 : Addr), tblO #[]) ∈ led) (g5 : (I, itO (i + 1) lines.length) ∈ led)
    (g6 : ∀ p ∈ (tl9 ++ (l4 ++ c.tl)) ++ cst, p ∈ led) (hk : ∀ p ∈ ([(Str.ofString "lines", .ref lA), (Str.ofString "told", .ref tA), (Str.ofString "pile", .ref pA), (Str.ofString "host", .str (hostOf c.st.host A9) th')] : List (Str × Value)), m' p.1 = some p.2) :
    Later (KLoop w fs g0 A base out mean mg mb L' lA tA pA I cst lines s) (lines.length - i) { s with heap := h, toks := tk } := by
  rw [listOf_push] at g2
  refine ⟨lines.length - (i + 1), by omega, i + 1, ⟨c.tvs ++ [.ref T], tk', d.1, d.2.1, (T, tupO [.int ((d.2.2.length : Int) - 1) t1, r] n) :: (tl9 ++ (l4 ++ c.tl)), ⟨d.2.2, hostOf c.st.host A9, c.st.told ++ [.tuple [.int ((d.2.2.length : Int) - 1), A9]]⟩, th'⟩, m', g8, h, tk, rfl, by omega, rfl, ⟨?_, kst_all F hk, ?_, ⟨G1, G2, G3, G4, G5⟩⟩⟩
  · rw [hr9] at hA
    refine ⟨hd.ws.mono fun p hp => .tail _ (List.mem_append_right _ hp), ?_, ?_, hd.le1, ?_, ?_, ?_⟩
    · exact (hI.told.mono fun p hp => .tail _ (List.mem_append_right _ (List.mem_append_right _ hp))).append (.one (.tuple (.head _) (.cons (.int _ _) (.cons (hA.mono fun p hp => .tail _ (List.mem_append_left _ hp)) .nil))))
    · have tc : ∀ o : Obj, o.cls = .type "tuple" → Cls3 o := fun o q => by
        unfold Cls3; rw [q]
        exact ⟨by decide, by decide, by decide, fun q => by cases q⟩
      refine faC (tc _ rfl) fun p hp => ?_
      rcases List.mem_append.mp hp with hp | hp
      · exact tc _ (ht92 p hp)
      rcases List.mem_append.mp hp with hp | hp
      · exact h42 p hp
      · exact hI.cls p hp
    · have := hd.le2; have := hI.p2; show d.2.2.length ≤ 1 + (i + 1); omega
    · show (c.st.told ++ [_]).length = i + 1
      rw [List.length_append, hI.tl]; rfl
    · intro o ho
      refine hI.run o ?_
      rw [drop_line hx9]
      refine .go hd.is he ?_
      rw [hr9]
      exact ho
  · refine news_sub N (faC g5 (faC g2 (faC g3 (faC g4 fun p hp => ?_))))
    rcases List.mem_append.mp hp with hp | hp
    · rcases List.mem_cons.mp hp with rfl | hp
      · exact g1
      · exact g6 p (List.mem_append_left _ hp)
    · exact g6 p (List.mem_append_right _ hp)
end
theorem kk_done {a b d : Addr × Obj} {r : List (Addr × Obj)} : ∀ p ∈ a :: d :: r, p ∈ a :: b :: d :: r := fun p hp => by
  simp only [List.mem_cons] at hp ⊢
  rcases hp with q | q | q <;> simp [q]
theorem kk_start {a b d e : Addr × Obj} {l r : List (Addr × Obj)} : ∀ p ∈ a :: d :: b :: e :: (l ++ r), p ∈ a :: b :: (l ++ d :: e :: r) := fun p hp => by
  simp only [List.mem_cons, List.mem_append] at hp ⊢
  rcases hp with q | q | q | q | q | q <;> simp [q]
end Mine

-- MHw
namespace Mine
theorem spec_useW {w : World} {f : Addr} {D U : Nat} {vs : List Value} {news : List (Addr × Obj)} {mean : ExcName → Option Value} {mg mb : Str → Option Value} {dp un : Nat} {gd : Option (List Code)} {cn : Str} {cs : Scope} {a : Addr} {ccd : Value} {cl : List (Str × Addr)} {outer : List Env} {A₀ : Around} {base h₀ : Heap} {L : Addr} {m : Str → Option Value} {s : Shared} {Q E : Value → Shared → Prop}
    {ds : List Dat} (C : Spec w f D U vs news (fun r tl => ∃ l vs' k tl', r = .ref l ∧ tl = (l, PySem.W.listOf (List.toArray vs') k) :: tl' ∧ DatAll tl' vs' ds))
    (B : Below A₀ base outer h₀) (F : Fr h₀ L s.heap m) (X : (Mine.hd.heap_1 w.params).In h₀) (N : News h₀ L s.heap news) (T : Top P0 L0 mean mg mb h₀) (hk : cs.kind = .function)
    (hd : dp + D < recursionLimit) (hu : un + U < cLine)
    (ret : ∀ l vs' k tw2 h' tk', Fr h₀ L h' m → News h₀ L h' ((l, PySem.W.listOf (List.toArray vs') k) :: (tw2 ++ news)) → (∀ p ∈ tw2, LT2 p.2) → DatAll tw2 vs' ds → Q (.ref l) { s with heap := h', toks := tk' }) :
    wpAny (model PySem.Challenge.rw_wn0113_01.row.prog w) (ktrTop dp un gd cn cs L a ccd cl outer) (call (.ref f) vs) Q E s :=
  spec_use C B F X N T hk hd hu fun r tl h' tk' F' N' hp => by
    obtain ⟨l, vs, k, tw, rfl, rfl, hD⟩ := hp
    obtain ⟨tw2, h1, h2, h3⟩ := dats_small hD
    exact ret l vs k tw2 h' tk' F' (news_sub N' (kk_wit h1)) h2 h3
end Mine

-- CK
noncomputable section
namespace Mine
theorem cChecked (w : World) (cst : List (Addr × Obj)) (lA tA : Addr) (lvs : List Value) (lk k0 : Nat) (lines : List Str)
    (hl : (lA, W.listOf lvs.toArray lk) ∈ cst) (hS : StrsAre lvs lines) (hcst : ∀ p ∈ cst, LT2 p.2) (htA : ∀ p ∈ cst, p.1 ≠ tA) (hn : lines.length ≤ 6) (hx : ∀ x ∈ lines, LineOk x) :
    ∀ (mean : ExcName → Option Value) (mg mb : Str → Option Value) (dp un : Nat) (gd : Option (List Code)) (cn : Str) (cs : Scope) (a : Addr) (ccd : Value) (A₀ : Around) (base h₀ : Heap) (L : Addr) (m : Str → Option Value) (s : Shared) (Q E : Value → Shared → Prop)
    (_ : Below A₀ base [] h₀) (_ : Fr h₀ L s.heap m) (_ : (Mine.hd.heap_1 w.params).In h₀) (_ : News h₀ L s.heap ((tA, W.listOf #[] k0) :: (130, tblO #[]) :: cst)) (_ : Top P0 L0 mean mg mb h₀) (_ : (Mine.hd.heap_1 w.params).In base) (_ : Top P0 L0 mean mg mb base) (_ : cs.kind = .function)
    (_ : dp + 6 < recursionLimit) (_ : un + 600 < cLine) (_ : AllBare s.gens)
    (_ : ∀ tvs tk tl told h' tk', Fr h₀ L h' m → News h₀ L h' ((tA, W.listOf tvs.toArray tk) :: (130, tblO #[]) :: (tl ++ cst)) → DatAll tl tvs told → (∀ p ∈ tl, Cls3 p.2) → RunR lines 0 kSt0 (.done told) → Q .none { s with heap := h', toks := tk' })
    (_ : ∀ tvs tk tl told k msg line t1 t2 t3 u1 u2 u3 e D T TB oTB ts n1 ps s', Fr h₀ L s'.heap m → News h₀ L s'.heap ((e, nagO D T (.ref TB)) :: (TB, oTB) :: (D, dictOf (nagEs w k msg line t1 t2 t3 u1 u2 u3) n1) :: (tA, W.listOf tvs.toArray tk) :: (130, tblO ps) :: (tl ++ cst)) → oTB.data = .fields ts → ts[3]? = some .none → @Ne Nat TB e →
      (∀ p ∈ (D, dictOf (nagEs w k msg line t1 t2 t3 u1 u2 u3) n1) :: (tA, W.listOf tvs.toArray tk) :: (130, tblO ps) :: (tl ++ cst), p.1 ≠ e ∧ p.1 ≠ TB) → DatAll tl tvs told → (∀ p ∈ tl, Cls3 p.2) → RunR lines 0 kSt0 (.nag told k msg line) → AllBare s'.gens → s'.os = s.os → E (.ref e) s'),
    wpC (model PySem.Challenge.rw_wn0113_01.row.prog w) (ktrTop dp un gd cn cs L a ccd [] []) (call (.ref 283) [.ref lA, .ref tA]) Q E s := by
  have hkOn := HkOn.mk
  revert w cst lA tA lvs lk k0 lines hl hS hcst htA hn hx
  intro w cst lA tA lvs lk k0 lines hl hS hcst htA hn hx
  k_fill
  intro mean mg mb dp un gd cn cs a ccd A₀ base h₀ L m s Q E B F X N T XB TB hk hdp hun G ret retx
  have hlv : lvs.length = lines.length := hS.length
  have D := ktsDicts_nil (g := h₀)
  (try dsimp +zetaDelta only at D hlv)
  k_with_none
  k_with "m eval Name" => (k_here; name_kind "local"; k_dflt (refine' ld (by k_asm) ?_ ?_; (first | exact rfl | (rotate_left; exact rfl)); k_whole))
  k_with "m k_mem" => first | with_reducible assumption | (refine' List.mem_append_left _ ?_; k_mem) | (refine' List.mem_append_right _ ?_; k_mem)
  k_with "m ne" => first | assumption | (rename ∀ p ∈ _, _ ≠ Prod.fst p => hh2; k_extra "m ne1") | (refine ne_of_stored (by assumption) ?_; decide +kernel)
  k_with "m ne1" => (rename ∀ p ∈ _, _ ≠ Prod.fst p => hh2; first | (have hh3 := hh2 _ (List.Mem.head _); exact hh3) | (replace hh2 := ne_tail hh2; k_extra "m ne1"))
  k_with "m nes" => first | exact fa0 | (refine faC ?_ ?_; (k_extra "m ne"); (k_extra "m nes"))
  k_with "m same1" => first | (refine kstB_out ?_ (by assumption); k_extra "m nes") | (refine (if_neg ?_).trans ?_; (k_extra "m ne"); (k_extra "m same1"))
  k_with "m same" => (intro z h1 h2 h3; k_extra "m same1")
  k_with "m sameW" => (intro z h2 h3; k_extra "m same1")
  k_with "m k_all" => first | with_reducible assumption | (refine' List.forall_mem_append.mpr ⟨?_, ?_⟩; (k_all); (k_all))
  k_with "hk on" => fail_if_success (fail_if_success (with_reducible rename HkOn => hkOn))
  k_with "hk ne" => first | exact neAround | exact neShared | exact neWorld | exact neDrawn | exact neGen | exact neSCtx | exact neI | exact Nonempty.intro (by constructor <;> first | exact default | (constructor <;> exact default))
  k_with "m execs cons" => (k_extra "hk on"; (try k_made); (with_reducible refine wpAny_execs_cons ?_); try dsimp only)
  k_with "m execs nil" => (k_extra "hk on"; refine wpAny_execs_nil ?_)
  k_with "hk omega" => ((k_extra "hk on"); dsimp +zetaDelta only; first | lia | omega +splitDisjunctions)
  k_with "hk ne" => exact neWsD
  k_with "m k_mem" => first | (with_reducible assumption) | exact List.Mem.head _ | ((with_reducible refine' List.mem_append_left _ ?_); k_mem) | ((with_reducible refine' List.mem_append_right _ ?_); k_mem) | ((with_reducible refine' List.Mem.tail _ ?_); (try show (_ : Addr × Obj) ∈ (_ : List (Addr × Obj))); k_mem)
  k_with "m same2" => first | with_reducible rfl | (refine (if_neg ?_).trans ?_; (k_extra "m ne"); (k_extra "m same2"))
  k_with "m same3" => first | (refine kstB_out ?_ (by assumption); k_extra "m nes") | (refine (kstB_f (cPs_out ?_ (by assumption))).trans ?_; (k_extra "m ne"); refine (if_neg (at_out (by assumption))).trans ?_; k_extra "m same3") | (refine (if_neg ?_).trans ?_; (k_extra "m ne"); (k_extra "m same3"))
  k_with_none
  k_with "m eval Name" => (k_here; name_kind "local"; k_dflt (refine' ld (by k_asm) ?_ ?_; (first | exact rfl | (rotate_left; exact rfl)); k_whole))
  k_with "m k_mem" => first | with_reducible assumption | (refine' List.mem_append_left _ ?_; k_mem) | (refine' List.mem_append_right _ ?_; k_mem)
  k_with "m ne" => first | assumption | (rename ∀ p ∈ _, _ ≠ Prod.fst p => hh2; k_extra "m ne1") | (refine ne_of_stored (by assumption) ?_; decide +kernel)
  k_with "m ne1" => (rename ∀ p ∈ _, _ ≠ Prod.fst p => hh2; first | (have hh3 := hh2 _ (List.Mem.head _); exact hh3) | (replace hh2 := ne_tail hh2; k_extra "m ne1"))
  k_with "m nes" => first | exact fa0 | (refine faC ?_ ?_; (k_extra "m ne"); (k_extra "m nes"))
  k_with "m same1" => first | (refine kstB_out ?_ (by assumption); k_extra "m nes") | (refine (if_neg ?_).trans ?_; (k_extra "m ne"); (k_extra "m same1"))
  k_with "m same" => (intro z h1 h2 h3; k_extra "m same1")
  k_with "m sameW" => (intro z h2 h3; k_extra "m same1")
  k_with "m k_all" => first | with_reducible assumption | (refine' List.forall_mem_append.mpr ⟨?_, ?_⟩; (k_all); (k_all))
  k_with "hk on" => fail_if_success (fail_if_success (with_reducible rename HkOn => hkOn))
  k_with "hk ne" => first | exact neAround | exact neShared | exact neWorld | exact neDrawn | exact neGen | exact neSCtx | exact neI | exact Nonempty.intro (by constructor <;> first | exact default | (constructor <;> exact default))
  k_with "m execs cons" => (k_extra "hk on"; (try k_made); (with_reducible refine wpAny_execs_cons ?_); try dsimp only)
  k_with "m execs nil" => (k_extra "hk on"; refine wpAny_execs_nil ?_)
  k_with "hk omega" => ((k_extra "hk on"); dsimp +zetaDelta only; first | lia | omega +splitDisjunctions)
  k_with "hk ne" => exact neWsD
  k_with "m k_mem" => first | (with_reducible assumption) | exact List.Mem.head _ | ((with_reducible refine' List.mem_append_left _ ?_); k_mem) | ((with_reducible refine' List.mem_append_right _ ?_); k_mem) | ((with_reducible refine' List.Mem.tail _ ?_); (try show (_ : Addr × Obj) ∈ (_ : List (Addr × Obj))); k_mem)
  k_with "m same2" => first | with_reducible rfl | (refine (if_neg ?_).trans ?_; (k_extra "m ne"); (k_extra "m same2"))
  k_with "m same3" => first | (refine kstB_out ?_ (by assumption); k_extra "m nes") | (refine (kstB_f (cPs_out ?_ (by assumption))).trans ?_; (k_extra "m ne"); refine (if_neg (at_out (by assumption))).trans ?_; k_extra "m same3") | (refine (if_neg ?_).trans ?_; (k_extra "m ne"); (k_extra "m same3"))
  k_with "m call ref" =>
    first | (show wpAny _ _ (call (Value.ref _) [_]) _ _ _) | (show wpAny _ _ (call (Value.ref _) [_, _]) _ _ _) | (show wpAny _ _ (call (Value.ref _) [_, _, _]) _ _ _) | (show wpAny _ _ (call (Value.ref _) [_, _, _, _]) _ _ _) | skip
    rename Fr _ _ _ _ => F3
    rename News _ _ _ _ => N3
    first
    | (with_reducible show wpAny _ _ (call (Value.ref 124) [_]) _ _ _
       refine spec_useE (cNew _ _ (Str.ofString "") _ (by decide +kernel)) (by k_asm) F3 (by k_asm) N3 (by k_asm) rfl (by ktr_room) (by ktr_units) ?_
       ((try dsimp +zetaDelta only); intro x0 tl7 h7 tk7 F7 N7' hW0; refine exE (ws_small (ws_in hW0 (by decide +kernel))) ?_; intro l40 hx40; obtain ⟨h41, h42, hW4⟩ := hx40; have N7 := news_sub N7' (kk_sub h41); clear hW0 F3 N3))
    | (with_reducible show wpAny _ _ (call (Value.ref 124) [Value.str x9 _]) _ _ _
       refine spec_useE (cNew _ _ _ _ (Nat.le_trans hok.len (by decide))) (by k_asm) F3 (by k_asm) N3 (by k_asm) rfl (by ktr_room) (by ktr_units) ?_
       ((try dsimp +zetaDelta only); intro x1 tl7 h7 tk7 F7 N7' hW0; refine exE (ws_small (ws_in hW0 (Nat.le_trans hok.len (by decide)))) ?_; intro l4 hx4; obtain ⟨h41, h42, hW1⟩ := hx4; obtain ⟨q1, q2, q3, q4, q5, q6⟩ := kLead (news_sub N7' (kk_sub h41)) h42; have hPA := kRest (oT := W.listOf c.tvs.toArray c.tk) (oB := tblO #[]) (oI := itO (i + 1) lines.length) hpt.symm o9 o6 q3 o3 hpc; (try dsimp +zetaDelta only at hPA); refine exE (WsAt.data hW1.1) ?_; intro b9 hb9; obtain ⟨by1, by2, by3, by4, by5, by6⟩ := hb9; clear hW0 F3 N3 N7'))
    | (with_reducible show wpAny _ _ (call (Value.ref 114) [Value.ref xT, Value.ref x1]) _ _ _
       refine spec_useE (c_less _ _ _ _ _ _ (hWT.mono (fun p hp => by k_mem)) (hW1.mono (fun p hp => by k_mem))) (by k_asm) F3 (by k_asm) N3 (by k_asm) rfl (by ktr_room) (by ktr_units) ?_
       ((try dsimp +zetaDelta only); intro b7 tl7 h7 tk7 F7 N7' hless; have N7 := news_sub N7' (fun p hp => List.mem_append_right _ hp); clear N7' F3 N3))
    | (with_reducible show wpAny _ _ (call (Value.ref 114) [Value.ref x1, Value.ref xT]) _ _ _
       refine spec_useE (c_less _ _ _ _ _ _ (hW1.mono (fun p hp => by k_mem)) (hWT.mono (fun p hp => by k_mem))) (by k_asm) F3 (by k_asm) N3 (by k_asm) rfl (by ktr_room) (by ktr_units) ?_
       ((try dsimp +zetaDelta only); intro b7 tl7 h7 tk7 F7 N7' hless; have N7 := news_sub N7' (fun p hp => List.mem_append_right _ hp); clear N7' F3 N3))
    | (with_reducible show wpAny _ _ (call (Value.ref 107) [Value.ref xT, Value.ref x1]) _ _ _
       refine spec_useW (c_witness _ _ _ _ _ _ (hWT.mono (fun p hp => by k_mem)) (hW1.mono (fun p hp => by k_mem))) (by k_asm) F3 (by k_asm) N3 (by k_asm) rfl (by ktr_room) (by ktr_units) ?_
       ((try dsimp +zetaDelta only); intro lw vw kw tw2 h7 tk7 F7 N7 ht2 hDw2; clear F3 N3))
    | (
       (with_reducible show wpAny _ _ (call (Value.ref 135) [Value.ref lw]) _ _ _)
       obtain ⟨N8, hn130⟩ := kFmt N3 ht2 q4 o4 o8 o9 o7
       have hwn : (max (topW d.2.2).long (wsOf x9).long + 1).toNat ≤ 1000 := kLong hWT hW1
       refine cFmt w _ lw vw kw (witTs (topW d.2.2) (wsOf x9) (max (topW d.2.2).long (wsOf x9).long + 1).toNat) (.head _) (wit_mono (wit_at hDw2 hwn) (fun p hp => .tail _ (List.mem_append_left _ hp))) hn130 (Nat.le_trans (witTs_len _ _ _) hwn) (witTs_get _ _ _ hwn) _ _ _ _ _ _ _ _ _ _ _ _ _ _ _ _ _ _ _ _ (by k_asm) F3 (by k_asm) N8 (by k_asm) rfl (by ktr_room) (by ktr_units) G (fun t7 s7 ps7 F7 N7 G7 o7x => ?_)
       all_goals (first | (revert t7 s7 ps7 F7 N7 G7 o7x; (try dsimp +zetaDelta only); intro t7 s7 ps7 F7 N7 G7 o7x) | skip)
       have hfl := fmtS_len (topW d.2.2) (wsOf x9) _ hwn
       clear N3 N8 F3)
    | (
       (with_reducible show wpAny _ _ (call (Value.ref 59) [Value.int _ _, Value.str _ _, Value.str _ _]) _ _ _)
       refine cNag w _ _ _ _ _ _ _ _ _ _ _ _ _ _ _ _ _ _ _ _ _ _ _ _ _ _ _ (by k_asm) F3 (by k_asm) N3 (by k_asm) rfl (by ktr_room) (by ktr_units) (fun e7 D7 T7 n7 u71 u72 u73 h7 tk7 F7 N7 he7 hT7 hT8 => ?_)
       all_goals (first | (revert e7 D7 T7 n7 u71 u72 u73 h7 tk7 F7 N7 he7 hT7 hT8; (try dsimp +zetaDelta only); intro e7 D7 T7 n7 u71 u72 u73 h7 tk7 F7 N7 he7 hT7 hT8) | skip)
       clear N3 F3)
    | (with_reducible show wpAny _ _ (call (Value.ref 100) [Value.ref xT, Value.ref x1]) _ _ _
       refine spec_useE (c_equal _ _ _ _ _ _ (hWT.mono (fun p hp => by k_mem)) (hW1.mono (fun p hp => by k_mem))) (by k_asm) F3 (by k_asm) N3 (by k_asm) rfl (by ktr_room) (by ktr_units) ?_
       ((try dsimp +zetaDelta only); intro b7 tl7 h7 tk7 F7 N7' heq; have N7 := news_sub N7' (fun p hp => List.mem_append_right _ hp); clear N7' F3 N3))
  k_with "m call builtin:len" =>
    rename News _ _ _ _ => N6
    first
    | ((with_reducible show wpAny _ _ (call (Value.builtin "len") [Value.ref lA]) _ _ _)
       refine kst_len N6 (by k_mem) hlv (by omega) ?_)
    | ((with_reducible show wpAny _ _ (call (Value.builtin "len") [Value.ref pA]) _ _ _)
       refine kst_len N6 (.head _) hd.ws.length (by have := hd.le2; omega) ?_)
  k_with "m subscriptTail" =>
    first
    | (
       (with_reducible show wpAny _ _ (subscriptTail _ _ (Value.ref lA) (Value.int _ _)) _ _ _)
       rename News _ _ _ _ => N6
       refine item_str N6 (by k_mem) hS (by omega) (by omega) hx9 (fun t6 => ?_)
       all_goals (first | (revert t6; (try dsimp +zetaDelta only); intro t6) | skip))
    | (
       (with_reducible show wpAny _ _ (subscriptTail _ _ (Value.ref pA) (Value.int (-1) _)) _ _ _)
       rename News _ _ _ _ => N6
       refine item_lastw N6 (.head _) hvT ?_)
  k_with "m execs cons If" =>
    first
    | (
       (with_reducible show wpAny _ _ (execs (Stmt.If (Expr.Call (Expr.Attribute (Expr.Subscript (Expr.Name (Str.ofString "pile") _) _ _) _ _) _ _ _) _ _ _ :: _) _) _ _ _)
       rename Fr _ _ _ _ => F6
       rename News _ _ _ _ => N6
       have N7 := news_sub (l' := (pA, W.listOf c.pvs.toArray c.pk) :: (tA, W.listOf c.tvs.toArray c.tk) :: (130, tblO #[]) :: (I9, itO (i + 1) lines.length) :: ((l4 ++ c.tl) ++ cst)) N6 (kk_if1)
       clear N6
       refine cutG (σ := List Value × Nat × List WSt) (own := []) (fun d => (pA, W.listOf d.1.toArray d.2.1) :: (tA, W.listOf c.tvs.toArray c.tk) :: (130, tblO #[]) :: (I9, itO (i + 1) lines.length) :: ((l4 ++ c.tl) ++ cst)) (fun _ => []) (Str.ofString "_") [] (Cut2 w (l4 ++ c.tl) c.st.pile (wsOf x9)) F6 ?_ (fun d uu h5 tk5 hd F' N5 => ?_)
       all_goals (first | (revert d uu h5 tk5 hd F' N5; (try dsimp +zetaDelta only); intro d uu h5 tk5 hd F' N5) | skip)
       rotate_left
       have N' := news_sub N5 (fun p hp => List.mem_append_left _ hp)
       clear N5 F6
       (try k_fold)
       rotate_left
       refine exE (hI.pile.last hI.p1) ?_
       intro pT hx5
       refine exE hx5 ?_
       clear hx5
       intro xT hx5
       obtain ⟨hvT, hWT, hpT⟩ := hx5
       have hWT := hWT.mono (fun p hp => List.mem_append_right l4 hp)
       refine exE (WsAt.data hWT.1) ?_
       intro a9 ha9
       obtain ⟨ay1, ay2, ay3, ay4, ay5, ay6⟩ := ha9
       (try k_fold))
    | (
       (with_reducible show wpAny _ _ (execs (Stmt.If (Expr.Call (Expr.Name (Str.ofString "isinstance") _) _ _ _) _ _ _ :: _) _) _ _ _)
       rename Fr _ _ _ _ => F8
       rename News _ _ _ _ => N8
       rcases flat_cases hf9 hA9 with h9 | h9 | h9
       all_goals
         refine exE h9 ?_
         clear h9
         intro k9 h9
         refine exE h9 ?_
         clear h9
         intro t9 h9
         obtain ⟨hr9, hv9⟩ := h9
         (first | (have hmT9 := hv9.2; have hv9 := hv9.1) | skip)
         (try rw [hv9] at N8)
         (try rw [hv9] at F8)
         (try rw [hv9] at hA9)
         (try rw [hv9])
         have hA8 := hA9
         ((with_reducible refine wpAny_execs_cons ?_); try dsimp only))
    | ((with_reducible refine wpAny_execs_cons ?_); try dsimp only)
  k_with "m execs cons While" =>
    rename Fr _ _ _ _ => F6
    rename News _ _ _ _ => N6
    (
    refine cutG (σ := List Value × Nat × List WSt) (own := []) (fun d => (pA, W.listOf d.1.toArray d.2.1) :: (tA, W.listOf c.tvs.toArray c.tk) :: (130, tblO #[]) :: (I9, itO (i + 1) lines.length) :: ((l4 ++ c.tl) ++ cst)) (fun _ => []) (Str.ofString "_") [] (Cut3 w (l4 ++ c.tl) c.st.pile (wsOf x9)) F6 ?_ (fun d uu h5 tk5 hd F' N5 => ?_)
    all_goals (first | (revert d uu h5 tk5 hd F' N5; (try dsimp +zetaDelta only); intro d uu h5 tk5 hd F' N5) | skip)
    rotate_left
    have N' := news_sub N5 (fun p hp => List.mem_append_left _ hp)
    clear N5 F6 N6
    refine exE (hd.ws.last hd.le1) ?_
    intro pT hx5
    refine exE hx5 ?_
    clear hx5
    intro xT hx5
    obtain ⟨hvT, hWT, hpT⟩ := hx5
    refine exE (WsAt.data hWT.1) ?_
    intro a9 ha9
    obtain ⟨ay1, ay2, ay3, ay4, ay5, ay6⟩ := ha9
    (try k_fold)
    rotate_left
    (try k_fold))
  k_with "m exec While BoolOp cons nil" =>
    rename Fr _ _ _ _ => lF'
    rename News _ _ _ _ => lN'
    (
    refine whG (σ := List Value × Nat × List WSt) (fun d => (pA, W.listOf d.1.toArray d.2.1) :: (tA, W.listOf c.tvs.toArray c.tk) :: (130, tblO #[]) :: (I9, itO (i + 1) lines.length) :: ((l4 ++ c.tl) ++ cst)) (fun _ => []) [] (Cut2 w (l4 ++ c.tl) c.st.pile (wsOf x9)) (fun d => d.2.2.length) lF' ⟨d, lN', fa0, hd⟩ (fun d u h5 tk5 hd F' N' => ?_) (by passes_own)
    all_goals (first | (revert d u h5 tk5 hd F' N'; (try dsimp +zetaDelta only); intro d u h5 tk5 hd F' N') | skip)
    clear lF' lN'
    refine exE (hd.ws.last hd.le1) ?_
    intro pT hx5
    refine exE hx5 ?_
    clear hx5
    intro xT hx5
    obtain ⟨hvT, hWT, hpT⟩ := hx5
    refine exE (WsAt.data hWT.1) ?_
    intro a9 ha9
    obtain ⟨ay1, ay2, ay3, ay4, ay5, ay6⟩ := ha9
    have hdl := hd.ws.length
    have hdh := hd.le2
    (try k_fold))
  k_with "m CutEnd" =>
    rename Fr _ _ _ _ => F6
    rename News _ _ _ _ => N6
    first
    | (
       exact cutEnd d F6 N6 (fun p hp => hp) fa0 fa0 (fun _ _ _ _ => rfl) (cut3_one hd (by with_reducible assumption)))
    | (
       exact cutEnd d F6 N6 (fun p hp => hp) fa0 fa0 (fun _ _ _ _ => rfl) (cut3_stop hd (by with_reducible assumption) hless (by with_reducible assumption)))
    | (
       exact cutEnd (c.pvs, c.pk, c.st.pile) F6 N6 (fun p hp => hp) fa0 fa0 (fun _ _ _ _ => rfl) (cut2_stay hI.pile hless (by with_reducible assumption) hI.p1))
    | (
       rw [listOf_push] at N6
       exact cutEnd (c.pvs ++ [Value.ref x1], c.pk + 1, c.st.pile ++ [wsOf x9]) F6 N6 (fun p hp => hp) fa0 fa0 (fun _ _ _ _ => rfl) (cut2_push hI.pile hW1 hless (by with_reducible assumption) hI.p1))
  k_with "m KswEnd" =>
    rename Fr _ _ _ _ => F6
    rename News _ _ _ _ => N6
    (
    exact ksw_end (pT, d.2.1 + 1, d.2.2.dropLast) F6 N6 (fun p hp => hp) trivial fa0 (fun _ _ _ => rfl) (cut2_pop hd (by with_reducible assumption) hless (by with_reducible assumption) hpT) (by show d.2.2.dropLast.length < d.2.2.length; rw [List.length_dropLast]; have := hd.le1; omega))
  k_with "m call builtin:list.append" =>
    (with_reducible show wpAny _ _ (call (Value.builtin _) [Value.ref _, _]) _ _ _)
    rename Fr _ _ _ _ => F6
    rename News _ _ _ _ => N6
    have q1 := WsAll.length hI.pile
    have q2 := DatAll.length hI.told
    have q3 := hI.p2
    have q4 := hI.tl
    (try dsimp +zetaDelta only at q1 q2 q3 q4)
    refine append_K F6 N6 (by k_upd) ?_ (by rw [List.size_toArray, sizeLine_eq]; omega)
    intro h6 F' N'
    clear q1 q2 q3 q4
    (try k_sweep)
  k_with "m call builtin:list.pop" =>
    rename Fr _ _ _ _ => F6
    rename News _ _ _ _ => N6
    (
    refine kl_pop F6 N6 (last_snoc hvT) (.head hPA) (show d.1.length ≤ sizeLine from by have := hd.ws.length; have := hd.le2; rw [sizeLine_eq]; omega) (fun h6 F' N' => ?_)
    all_goals (first | (revert h6 F' N'; (try dsimp +zetaDelta only); intro h6 F' N') | skip))
  k_with "m call builtin:isinstance" =>
    (with_reducible show wpAny _ _ (call (.builtin "isinstance") [.ref _, .type _]) _ _ _)
    rename News _ _ _ _ => N6
    rename (_, _) ∈ tl9 => mt9
    refine IsiPair.tuple_str (N6 _ (.tail _ (.tail _ (.tail _ (.tail _ (.tail _ (List.mem_append_left _ (List.mem_append_left _ mt9)))))))).1 rfl ?_
  k_with "m exec Raise some none" =>
    (
    refine raise_nag rfl ?_)
  k_with "m binaryOp Add str str" => (refine SB.add (fun t' k' => ?_) (by rw [sizeLine_eq]; have := hfl; have := (show (Str.ofString "indent not equal e.g. ").length = 22 from by decide +kernel); omega); all_goals (first | (revert t' k'; (try dsimp +zetaDelta only); intro t' k') | skip))
  k_with "m pyIter ref" =>
    rename IsRange _ _ _ _ _ _ _ _ => rgX
    rename News _ _ _ _ => N6
    rename Fr _ _ _ _ => F6
    (
    refine kIter rgX F6 N6 (by omega) (by omega) (fun I9 h9 F' N' hI9 => ?_)
    all_goals (first | (revert I9 h9 F' N' hI9; (try dsimp +zetaDelta only); intro I9 h9 F' N' hI9) | skip))
  refine wpC_call ?_
  refine' enterC ?k1 ?k2 ?k3 ?k4 ?k5 ?kX ?kT ?kD ?kA ?k6 ?k7 ?k8 ?k9 ?kB ?_ ?kK ?c2 ?c3 ?c4 ?c5
  case kA => exact rfl
  case kK => assumption
  case k1 => k_asm
  case k2 => k_asm
  case k3 => k_asm
  case k4 => k_asm
  case k5 => k_asm
  case kX => exact XB
  case kT => exact TB
  case kD => exact D
  case k6 => k_is
  case k7 => k_is
  case k8 => ktr_room
  case k9 => exact BindsTo.of_eq rfl
  case c5 => decide
  case kB => exact locs rfl
  case c2 => exact rfl
  case c3 => exact rfl
  case c4 => exact rfl
  k_whole
  intro g0 L' h1 FG F1 N1 B1 X1 T1 D1
  try dsimp only
  refine wpC_cutN 2 ?_
  simp only [List.take_succ_cons, List.take_zero, List.drop_succ_cons, List.drop_zero]
  (repeat' (first | (k_unfold; (try dsimp +zetaDelta only)) | (k_end; kc_close) | (walk1; (try dsimp +zetaDelta only)) | (dsimp only; walk1) | (leave1; (try dsimp +zetaDelta only)) | fail "no step"))
  all_goals try dsimp only
  rename_i pA _ lp _ _ _ _
  have hpt : @Ne Nat pA tA := (Nat.ne_of_lt (lp (tA, _) (List.mem_append_right _ (.head _)))).symm
  have hpc : ∀ p ∈ cst, p.1 ≠ pA := fun p hp => Nat.ne_of_lt (lp p (List.mem_append_right _ (.tail _ (.tail _ hp))))
  (try dsimp +zetaDelta only at hpt hpc)
  refine wpC_execs_cons (wpC_For ?_)
  (repeat' (first | (k_unfold; (try dsimp +zetaDelta only)) | (k_end; kc_close) | (walk1; (try dsimp +zetaDelta only)) | (dsimp only; walk1) | (leave1; (try dsimp +zetaDelta only)) | fail "no step"))
  all_goals try dsimp only
  refine forC (KLoop w (frs [envOf cn cs L a ccd]) g0 (ktrTop dp un gd cn cs L a ccd [] []) base [envOf cn cs L a ccd] mean mg mb L' lA tA pA I9 cst lines s) (by passes_own) ?turn (lines.length - 0) ?start
  case start =>
    exact ⟨0, ⟨[], k0, [.ref x0], 0, l40, kSt0, _⟩, _, g0, h9, _, rfl, Nat.zero_le _, rfl, ⟨⟨.cons hW4 .nil, .nil, h42, Nat.le_refl _, Nat.le_refl _, rfl, fun o h => h⟩, kst_all F' (faC (by exact rfl) (faC (by exact rfl) (faC (by exact rfl) (fa1 (by exact rfl))))), news_sub N' kk_start, ⟨KtsTurn.refl, B1, X1, T1, D1⟩⟩⟩
  case turn =>
    rintro n s' ⟨i, c, u, g, h, tk, rfl, hi, rfl, ⟨hI, F, N, Gg⟩⟩
    obtain ⟨o1, o2, o3, o4, o5, o6, o7, o8, o9⟩ := kOff N hI.cls hcst htA hpc hpt
    revert i c u g h tk
    (try dsimp +zetaDelta only)
    intro i c u g h tk hi hI F N Gg o1 o2 o3 o4
    (try dsimp +zetaDelta only at o1 o2 o3 o4 o5 o6 o7 o8 o9)
    refine next_led rfl F N o1 (fun hlt t h2 F2 N2 => ?_) (fun hge h2 F2 N2 => ?_)
    all_goals (first | (revert hlt t h2 F2 N2; (try dsimp +zetaDelta only); intro hlt t h2 F2 N2) | (revert hge h2 F2 N2; (try dsimp +zetaDelta only); intro hge h2 F2 N2) | skip)
    rotate_left
    · refine wpC_any (wpAny_execs_nil ?_)
      have hiN : i = lines.length := by omega
      (try dsimp +zetaDelta only at hiN)
      refine ⟨g, _, (tA, W.listOf c.tvs.toArray c.tk) :: (130, tblO #[]) :: (c.tl ++ cst), Gg.turn, F2, news_sub N2 kk_done, fun h₀' Bk => ?_⟩
      obtain ⟨Fz, Nz⟩ := back_none Bk
      exact ret c.tvs c.tk c.tl c.st.told h2 _ Fz Nz hI.told hI.cls (hI.run _ (by rw [hiN, List.drop_length]; exact .done))
    have N3 := news_sub (l' := (tA, W.listOf c.tvs.toArray c.tk) :: (pA, W.listOf c.pvs.toArray c.pk) :: (130, tblO #[]) :: (I9, itO (i + 1) lines.length) :: (c.tl ++ cst)) N2 kk_turn
    clear N2 F N
    (try dsimp only)
    have hxx : ∃ x9, lines[(i : Int).toNat]? = some x9 ∧ LineOk x9 := kLine hx (by omega)
    (try dsimp +zetaDelta only at hxx N3)
    refine exE hxx ?_
    clear hxx
    intro x9 hx90
    obtain ⟨hx9, hok⟩ := hx90
    obtain ⟨gT, gB, gX, gP, gD⟩ := Gg
    have hlt9 : i < lines.length := by omega
    have hpl := hI.pile.length
    have hokl := hok.len
    have hokl2 : (x9.length : Int) ≤ 600 := by omega
    (try dsimp +zetaDelta only at hlt9 hokl2)
    have hph := hI.p2
    have htl := DatAll.length hI.told
    have htl2 := hI.tl
    clear F' N' F6 N6 hI9 rgX
    refine wpAny_assign_Name ?_
    (repeat' (first | (k_unfold; (try dsimp +zetaDelta only)) | (k_end; kc_close) | (walk1; (try dsimp +zetaDelta only)) | (dsimp only; walk1) | (leave1; (try dsimp +zetaDelta only)) | fail "no step"))
    (try dsimp only)
    refine wpC_cutN 4 ?_
    simp only [List.take_succ_cons, List.take_zero, List.drop_succ_cons, List.drop_zero]
    (repeat' (first | (k_unfold; (try dsimp +zetaDelta only)) | (k_end; kc_close) | (walk1; (try dsimp +zetaDelta only)) | (dsimp only; walk1) | (leave1; (try dsimp +zetaDelta only)) | fail "no step"))
    all_goals first
    | (
       show NagDone _ _ _ _
       have N9 := news_sub (l' := (D7, _) :: (e7, excO (some D7) T7) :: (tA, W.listOf c.tvs.toArray c.tk) :: (130, tblO ps7) :: (c.tl ++ cst)) N7 kk_nag
       refine ⟨e7, D7, T7, rfl, gX.keeps F7.keep, (N9 _ (.tail _ (.head _))).1, ?_⟩
       have hb9 : ¬ ((topW d.2.2).cnt = (wsOf x9).cnt ∧ (topW d.2.2).b = (wsOf x9).b) := fun q => by
         have q1 := heq.mpr q
         have q2 : b7 = false := by with_reducible assumption
         have q3 : true = false := q1.symm.trans q2
         cases q3
       refine nag_leaves gB F7 N9 FG gT (kNe N9 rfl he7 hI.cls hcst) (fun h8 TB8 oTB8 ts8 F8 N8 e81 e82 e83 e84 => ?_)
       all_goals (first | (revert h8 TB8 oTB8 ts8 F8 N8 e81 e82 e83 e84; (try dsimp +zetaDelta only); intro h8 TB8 oTB8 ts8 F8 N8 e81 e82 e83 e84) | skip)
       exact retx c.tvs c.tk c.tl c.st.told (i + 1) (nagMsg (topW d.2.2) (wsOf x9)) x9 _ _ _ _ _ _ e7 D7 T7 TB8 oTB8 ts8 n7 ps7 _ F8 N8 e81 e82 e83 e84 hI.told hI.cls (hI.run _ (by rw [drop_line hx9]; exact .nag hd.is hb9)) G7 o7x)
    | skip
    (try dsimp only)
    have hb9 : (topW d.2.2).cnt = (wsOf x9).cnt ∧ (topW d.2.2).b = (wsOf x9).b := heq.mp (by with_reducible assumption)
    refine wpC_execs_cons (wpC_Assign_Name (wpC_Call ?_))
    (repeat' (first | (k_unfold; (try dsimp +zetaDelta only)) | (k_end; kc_close) | (walk1; (try dsimp +zetaDelta only)) | (dsimp only; walk1) | (leave1; (try dsimp +zetaDelta only)) | fail "no step"))
    refine wpC_callDef ?_
    (repeat' (first | (k_unfold; (try dsimp +zetaDelta only)) | (k_end; kc_close) | (walk1; (try dsimp +zetaDelta only)) | (dsimp only; walk1) | (leave1; (try dsimp +zetaDelta only)) | fail "no step"))
    rename Fr _ _ _ _ => F2
    rename News _ _ _ _ => N2
    refine atDef F2 gX (by k_is) ?_
    refine' specC_use (cAns w _ (Txt.slice x9 (some (wsOf x9).n) none) _ (Nat.le_trans (PyProof.Txt.length_slice_le x9 _ _) (Nat.le_trans hokl (by decide))) c.st.host _ hok.sz) ?zB ?zF ?zX ?zN ?zT ?zXB ?zTB ?zhk ?zhd ?zhu ?zD ?zret ?zretx
    case zB => exact gB
    case zF => exact F2
    case zX => exact gX
    case zN => exact N2
    case zT => exact gP
    case zXB => exact XB
    case zTB => exact TB
    case zhk => exact rfl
    case zhd => ktr_room
    case zhu => ktr_units
    case zD => exact gD
    case zretx => intro _ _ _ _ _ _ _ _ _ _ _ q; exact q.elim
    case zret =>
      intro r8 tl8 h8 tk8 g8 bk hp8
      obtain ⟨tl9, ht91, ht92, hA9⟩ := ans_inv hp8 (ans_flat _ _)
      have hf9 := ans_flat (Txt.slice x9 (some (wsOf x9).n) none) c.st.host
      obtain ⟨gT8, gB8, gX8, gP8, gD8⟩ := back_gd ⟨gT, gB, gX, gP, gD⟩ bk
      have F8 := bk.fr
      have N8 := news_sub (l' := (pA, W.listOf d.1.toArray d.2.1) :: (tA, W.listOf c.tvs.toArray c.tk) :: (130, tblO #[]) :: (I9, itO (i + 1) lines.length) :: ((tl9 ++ (l4 ++ c.tl)) ++ cst)) bk.news (kk_ans ht91)
      have ht93 : ∀ p ∈ tl9, p.1 ≠ tA := fun p hp => ne_of_cls N8 (.tail _ (.tail _ (.tail _ (.tail _ (List.mem_append_left _ (List.mem_append_left _ hp)))))) (.tail _ (.head _)) (by rw [ht92 p hp]; exact cls_lt)
      clear bk hp8 F2 N2 gT gB gX gP gD
      have hdl := hd.ws.length
      have hdh := hd.le2
      (repeat' (first | (k_unfold; (try dsimp +zetaDelta only)) | (k_end; kc_close) | (walk1; (try dsimp +zetaDelta only)) | (dsimp only; walk1) | (leave1; (try dsimp +zetaDelta only)) | fail "no step"))
      (try dsimp only)
      refine wpC_any ?_
      (repeat' (first | (k_unfold; (try dsimp +zetaDelta only)) | (k_end; kc_close) | (walk1; (try dsimp +zetaDelta only)) | (dsimp only; walk1) | (leave1; (try dsimp +zetaDelta only)) | fail "no step"))
      all_goals first
      | (
         rename Fr _ _ _ _ => F9
         rename News _ _ _ _ => N9
         refine kTurnEnd hlt9 hx9 hI hd hb9 h42 ht92 hA8 hr9 gT8 gB8 gX8 gP8 gD8 F9 N9 (.head _) (by k_mem) (by k_mem) (by k_mem) (by k_mem) ?_ (faC (by exact rfl) (faC (by exact rfl) (faC (by exact rfl) (fa1 (by exact rfl)))))
         exact fun p hp => .tail _ (.tail _ (.tail _ (.tail _ (.tail _ hp)))))
      | trace_state
end Mine
end

-- CNg
section
open Builtin
namespace Mine
theorem canon_bexc_ga : (Manifest.canonical "BaseException.__getattribute__" != "object.__getattribute__") = false := by decide +kernel
section
variable {prog : Program} {w : World} {A : Around} {E : Value → Shared → Prop} {s : Shared} {x : Addr} {ox : Obj} {od : Option Obj} {name : Str}
theorem nag_ga (w : World) : findIn (Mine.hd.heap_1 w.params) (.ref 59) "__getattribute__" = some (some (.builtin "BaseException.__getattribute__")) := rfl
theorem nag_gt (w : World) : findIn (Mine.hd.heap_1 w.params) (.ref 59) "__getattr__" = some none := rfl
theorem nag_method {f : Addr} {pl : Sem Bool} {Q : Value × List Value → Shared → Prop} (X : (Mine.hd.heap_1 w.params).In s.heap) (I : InstAt s.heap x ox 59 od)
    (hf : findIn (Mine.hd.heap_1 w.params) (.ref 59) name = some (some (.ref f))) (ht : typeIn (Mine.hd.heap_1 w.params) (.ref f) = some (.type "function")) (hs : shadowIn od name = some false) (h : Q (.ref f, [.ref x]) s) :
    wpAny (model prog w) A (getMethod (.ref x) name pl) Q E s := by
  have hcan := canon_bexc_ga
  unfold getMethod specialOf
  refine wpAny_bind (wpAny_bind (I.type.here ((looks_findIn X (nag_ga w)).here ?_)))
  dsimp only
  rw [hcan, if_neg (by decide)]
  refine wpAny_bind (wpAny_bind (I.type.here ((looks_findIn X (nag_gt w)).here ?_)))
  refine wpAny_bind (wpAny_bind (I.type.here ((looks_findIn X hf).here (wpAny_bind ((looks_typeIn X ht).here ?_)))))
  rw [if_neg (by decide +kernel)]
  refine wpAny_bind (wpAny_loadPart I.at_ ?_)
  have hd := I.dict
  cases e : ox.dict with
  | none => exact wpAny_bind (wpAny_rule (wpAny_pure h))
  | some dx =>
    cases od with
    | none => rw [e] at hd; exact hd.elim
    | some o =>
      rw [e] at hd
      obtain ⟨r, a, b⟩ := Option.map_eq_some_iff.mp hs
      refine wpAny_bind (wpAny_bind (wpAny_loadPart hd ?_))
      rw [nsLook_of a]
      refine wpAny_pure ?_
      rw [b]
      exact wpAny_bind (wpAny_rule (wpAny_pure h))
theorem nag_get {v : Value} {expr : Bool} {Q : Value → Shared → Prop} (X : (Mine.hd.heap_1 w.params).In s.heap) (I : InstAt s.heap x ox 59 od)
    (hf : findObj (Mine.hd.heap_1 w.params) 59 od name = some (.value v)) (hh : handedIn v = true) (h : Q v { s with toks := s.toks + 1 }) : wpAny (model prog w) A (getAttr (.ref x) name expr) Q E s := by
  obtain ⟨hp, g, d, t, os⟩ := s
  have L0 := I.type (M := model prog w)
  have L1 := looks_findIn (M := model prog w) X (nag_ga w)
  have L2 := looks_findIn (M := model prog w) X (nag_gt w)
  have L3 := looks_find (M := model prog w) X I hf
  have FB := PySem.F.attrBase_Exception
  have f3 := FB.ga.bind (.ref x)
  have hx2 : (Value.builtin "BaseException.__getattribute__" == Value.builtin "object.__getattribute__") = false := by decide +kernel
  have sub : Looks (model prog w) hp (isInstance (.ref x) (.type "BaseException")) true := L0.andThen (looks_mroIn X (by unfold mroIn; rw [nag_clsIn]; rfl))
  unfold getAttr getAttrBy
  refine wpAny_bind (wpAny_mkText (wpAny_holding (wpAny_bind (L0.at (wpAny_bind (L1.at ?_))))))
  dsimp only
  rw [hx2, Bool.and_false, if_neg (by decide)]
  unfold getAttrByItsOwn
  refine wpAny_bind (L2.at ?_)
  refine wpAny_bind (wpAny_attempt (wpAny_holding ?_))
  unfold callGetattribute
  have hx0 : (expr && onTheHeap (Value.builtin "BaseException.__getattribute__")) = false := by cases expr <;> rfl
  rw [hx0, if_neg (by decide)]
  unfold boundAndCalled
  refine wpAny_bind (wpAny_of_eq f3 ?_)
  refine wpAny_call (codeAny_call_builtin FB.ga.plain PySem.F.entry_bexc_ga (@check_slot (model prog w) _ _ _ "BaseException.__getattribute__" "BaseException" "__getattribute__" (.ref x) [.str name t] [] _ (by decide +kernel) (by decide +kernel) sub (PySem.F.args_bexc_ga _ _) ?_))
  unfold Builtin.«object.__getattribute__»
  refine wpAny_bind (wpAny_pure (wpAny_bind (wpAny_pure (wpAny_bind (L0.at (wpAny_bind (L3.at ?_)))))))
  refine wpAny_pure ?_
  show wpAny _ _ (handedOut v) _ _ _
  rw [handedOut_of hh]; exact wpAny_pure h
end
end Mine

end
-- CGt
namespace Mine
noncomputable abbrev ktrMark (dp un : Nat) (gd : Option (List Code)) (cn : Str) (cs : Scope) (L a : Addr) (ccd : Value) (cl : List (Str × Addr)) (outer : List Env) (hv : Value) : Around := { handled := some hv, depth := dp, frames := some (envX cn cs L a ccd cl :: outer), guards := gd, units := un }
noncomputable def SpecH (w : World) (f : Addr) (D U : Nat) (vs : List Value) (news : List (Addr × Obj)) (Post : Value → List (Addr × Obj) → Prop) : Prop :=
  ∀ (mean : ExcName → Option Value) (mg mb : Str → Option Value) (dp un : Nat) (gd : Option (List Code)) (cn : Str) (cs : Scope) (a : Addr) (ccd : Value) (cl : List (Str × Addr)) (outer : List Env) (A₀ : Around) (base h₀ : Heap) (L : Addr) (m : Str → Option Value) (s : Shared) (hv : Value) (Q E : Value → Shared → Prop),
    Below A₀ base outer h₀ → Fr h₀ L s.heap m → (Mine.hd.heap_1 w.params).In h₀ → News h₀ L s.heap news → Top P0 L0 mean mg mb h₀ → cs.kind = .function →
    dp + D < recursionLimit → un + U < cLine →
    (∀ r tl h' tk', Fr h₀ L h' m → News h₀ L h' (tl ++ news) → Post r tl → Q r { s with heap := h', toks := tk' }) →
    wpAny (model PySem.Challenge.rw_wn0113_01.row.prog w) (ktrMark dp un gd cn cs L a ccd cl outer hv) (call (.ref f) vs) Q E s
theorem cGetLineno (w : World) (news : List (Addr × Obj)) (e D T : Addr) (tb : Value) (k : Int) (msg line : Str) (t1 t2 t3 u1 u2 u3 : Tok) (n1 : Nat) (he : (e, nagO D T tb) ∈ news) (hD : (D, dictOf (nagEs w k msg line t1 t2 t3 u1 u2 u3) n1) ∈ news) :
    SpecH w 42 1 50 [.ref e] news (fun r _ => r = .int k t1) := by
  unfold SpecH
  k_fill
  intro mean mg mb dp un gd cn cs a ccd cl outer A₀ base h₀ L m s hv Q E B F X N TT hk hdp hun ret
  k_with_none
  k_with "m eval Name" => (k_here; name_kind "local"; k_dflt (refine' ld (by k_asm) ?_ ?_; (first | exact rfl | (rotate_left; exact rfl)); k_whole))
  k_with "m k_mem" => first | with_reducible assumption | (refine' List.mem_append_left _ ?_; k_mem) | (refine' List.mem_append_right _ ?_; k_mem)
  k_with "m ne" => first | assumption | (rename ∀ p ∈ _, _ ≠ Prod.fst p => hh2; k_extra "m ne1") | (refine ne_of_stored (by assumption) ?_; decide +kernel)
  k_with "m ne1" => (rename ∀ p ∈ _, _ ≠ Prod.fst p => hh2; first | (have hh3 := hh2 _ (List.Mem.head _); exact hh3) | (replace hh2 := ne_tail hh2; k_extra "m ne1"))
  k_with "m nes" => first | exact fa0 | (refine faC ?_ ?_; (k_extra "m ne"); (k_extra "m nes"))
  k_with "m same1" => first | (refine kstB_out ?_ (by assumption); k_extra "m nes") | (refine (if_neg ?_).trans ?_; (k_extra "m ne"); (k_extra "m same1"))
  k_with "m same" => (intro z h1 h2 h3; k_extra "m same1")
  k_with "m sameW" => (intro z h2 h3; k_extra "m same1")
  k_with "m k_all" => first | with_reducible assumption | (refine' List.forall_mem_append.mpr ⟨?_, ?_⟩; (k_all); (k_all))
  k_with "hk on" => fail_if_success (fail_if_success (with_reducible rename HkOn => hkOn))
  k_with "hk ne" => first | exact neAround | exact neShared | exact neWorld | exact neDrawn | exact neGen | exact neSCtx | exact neI | exact Nonempty.intro (by constructor <;> first | exact default | (constructor <;> exact default))
  k_with "m execs cons" => (k_extra "hk on"; (try k_made); (with_reducible refine wpAny_execs_cons ?_); try dsimp only)
  k_with "m execs nil" => (k_extra "hk on"; refine wpAny_execs_nil ?_)
  k_with "hk omega" => ((k_extra "hk on"); dsimp +zetaDelta only; first | lia | omega +splitDisjunctions)
  k_with "hk ne" => exact neWsD
  k_with "m k_mem" => first | (with_reducible assumption) | exact List.Mem.head _ | ((with_reducible refine' List.mem_append_left _ ?_); k_mem) | ((with_reducible refine' List.mem_append_right _ ?_); k_mem) | ((with_reducible refine' List.Mem.tail _ ?_); (try show (_ : Addr × Obj) ∈ (_ : List (Addr × Obj))); k_mem)
  k_with "m same2" => first | with_reducible rfl | (refine (if_neg ?_).trans ?_; (k_extra "m ne"); (k_extra "m same2"))
  k_with "m same3" => first | (refine kstB_out ?_ (by assumption); k_extra "m nes") | (refine (kstB_f (cPs_out ?_ (by assumption))).trans ?_; (k_extra "m ne"); refine (if_neg (at_out (by assumption))).trans ?_; k_extra "m same3") | (refine (if_neg ?_).trans ?_; (k_extra "m ne"); (k_extra "m same3"))
  k_with_none
  k_with "m eval Name" => (k_here; name_kind "local"; k_dflt (refine' ld (by k_asm) ?_ ?_; (first | exact rfl | (rotate_left; exact rfl)); k_whole))
  k_with "m k_mem" => first | with_reducible assumption | (refine' List.mem_append_left _ ?_; k_mem) | (refine' List.mem_append_right _ ?_; k_mem)
  k_with "m ne" => first | assumption | (rename ∀ p ∈ _, _ ≠ Prod.fst p => hh2; k_extra "m ne1") | (refine ne_of_stored (by assumption) ?_; decide +kernel)
  k_with "m ne1" => (rename ∀ p ∈ _, _ ≠ Prod.fst p => hh2; first | (have hh3 := hh2 _ (List.Mem.head _); exact hh3) | (replace hh2 := ne_tail hh2; k_extra "m ne1"))
  k_with "m nes" => first | exact fa0 | (refine faC ?_ ?_; (k_extra "m ne"); (k_extra "m nes"))
  k_with "m same1" => first | (refine kstB_out ?_ (by assumption); k_extra "m nes") | (refine (if_neg ?_).trans ?_; (k_extra "m ne"); (k_extra "m same1"))
  k_with "m same" => (intro z h1 h2 h3; k_extra "m same1")
  k_with "m sameW" => (intro z h2 h3; k_extra "m same1")
  k_with "m k_all" => first | with_reducible assumption | (refine' List.forall_mem_append.mpr ⟨?_, ?_⟩; (k_all); (k_all))
  k_with "hk on" => fail_if_success (fail_if_success (with_reducible rename HkOn => hkOn))
  k_with "hk ne" => first | exact neAround | exact neShared | exact neWorld | exact neDrawn | exact neGen | exact neSCtx | exact neI | exact Nonempty.intro (by constructor <;> first | exact default | (constructor <;> exact default))
  k_with "m execs cons" => (k_extra "hk on"; (try k_made); (with_reducible refine wpAny_execs_cons ?_); try dsimp only)
  k_with "m execs nil" => (k_extra "hk on"; refine wpAny_execs_nil ?_)
  k_with "hk omega" => ((k_extra "hk on"); dsimp +zetaDelta only; first | lia | omega +splitDisjunctions)
  k_with "hk ne" => exact neWsD
  k_with "m k_mem" => first | (with_reducible assumption) | exact List.Mem.head _ | ((with_reducible refine' List.mem_append_left _ ?_); k_mem) | ((with_reducible refine' List.mem_append_right _ ?_); k_mem) | ((with_reducible refine' List.Mem.tail _ ?_); (try show (_ : Addr × Obj) ∈ (_ : List (Addr × Obj))); k_mem)
  k_with "m same2" => first | with_reducible rfl | (refine (if_neg ?_).trans ?_; (k_extra "m ne"); (k_extra "m same2"))
  k_with "m same3" => first | (refine kstB_out ?_ (by assumption); k_extra "m nes") | (refine (kstB_f (cPs_out ?_ (by assumption))).trans ?_; (k_extra "m ne"); refine (if_neg (at_out (by assumption))).trans ?_; k_extra "m same3") | (refine (if_neg ?_).trans ?_; (k_extra "m ne"); (k_extra "m same3"))
  k_with "m getAttr ref" =>
    rename Fr _ _ _ _ => F6
    rename News _ _ _ _ => N6
    rename Frag.In _ _ => X6
    refine nag_get (X6.keeps F6.keep) (⟨(N6 _ he).1, rfl, rfl, (N6 _ hD).1⟩ : InstAt _ e (nagO D T tb) 59 (some (dictOf (nagEs w k msg line t1 t2 t3 u1 u2 u3) n1))) (v := .int k t1) (by exact rfl) rfl ?_
  refine wpAny_call ?_
  k_dflt cell_enter
  (repeat' (first | (k_unfold; (try dsimp only)) | (k_end; kc_close) | (walk1; (try dsimp only)) | (dsimp only; walk1) | (leave1; (try dsimp only)) | fail "no step"))
  all_goals exact end0 ret (by k_asm) (by k_asm) (fun p hp => hp) rfl
theorem cGetMsg (w : World) (news : List (Addr × Obj)) (e D T : Addr) (tb : Value) (k : Int) (msg line : Str) (t1 t2 t3 u1 u2 u3 : Tok) (n1 : Nat) (he : (e, nagO D T tb) ∈ news) (hD : (D, dictOf (nagEs w k msg line t1 t2 t3 u1 u2 u3) n1) ∈ news) :
    SpecH w 49 1 50 [.ref e] news (fun r _ => r = .str msg t2) := by
  unfold SpecH
  k_fill
  intro mean mg mb dp un gd cn cs a ccd cl outer A₀ base h₀ L m s hv Q E B F X N TT hk hdp hun ret
  k_with_none
  k_with "m eval Name" => (k_here; name_kind "local"; k_dflt (refine' ld (by k_asm) ?_ ?_; (first | exact rfl | (rotate_left; exact rfl)); k_whole))
  k_with "m k_mem" => first | with_reducible assumption | (refine' List.mem_append_left _ ?_; k_mem) | (refine' List.mem_append_right _ ?_; k_mem)
  k_with "m ne" => first | assumption | (rename ∀ p ∈ _, _ ≠ Prod.fst p => hh2; k_extra "m ne1") | (refine ne_of_stored (by assumption) ?_; decide +kernel)
  k_with "m ne1" => (rename ∀ p ∈ _, _ ≠ Prod.fst p => hh2; first | (have hh3 := hh2 _ (List.Mem.head _); exact hh3) | (replace hh2 := ne_tail hh2; k_extra "m ne1"))
  k_with "m nes" => first | exact fa0 | (refine faC ?_ ?_; (k_extra "m ne"); (k_extra "m nes"))
  k_with "m same1" => first | (refine kstB_out ?_ (by assumption); k_extra "m nes") | (refine (if_neg ?_).trans ?_; (k_extra "m ne"); (k_extra "m same1"))
  k_with "m same" => (intro z h1 h2 h3; k_extra "m same1")
  k_with "m sameW" => (intro z h2 h3; k_extra "m same1")
  k_with "m k_all" => first | with_reducible assumption | (refine' List.forall_mem_append.mpr ⟨?_, ?_⟩; (k_all); (k_all))
  k_with "hk on" => fail_if_success (fail_if_success (with_reducible rename HkOn => hkOn))
  k_with "hk ne" => first | exact neAround | exact neShared | exact neWorld | exact neDrawn | exact neGen | exact neSCtx | exact neI | exact Nonempty.intro (by constructor <;> first | exact default | (constructor <;> exact default))
  k_with "m execs cons" => (k_extra "hk on"; (try k_made); (with_reducible refine wpAny_execs_cons ?_); try dsimp only)
  k_with "m execs nil" => (k_extra "hk on"; refine wpAny_execs_nil ?_)
  k_with "hk omega" => ((k_extra "hk on"); dsimp +zetaDelta only; first | lia | omega +splitDisjunctions)
  k_with "hk ne" => exact neWsD
  k_with "m k_mem" => first | (with_reducible assumption) | exact List.Mem.head _ | ((with_reducible refine' List.mem_append_left _ ?_); k_mem) | ((with_reducible refine' List.mem_append_right _ ?_); k_mem) | ((with_reducible refine' List.Mem.tail _ ?_); (try show (_ : Addr × Obj) ∈ (_ : List (Addr × Obj))); k_mem)
  k_with "m same2" => first | with_reducible rfl | (refine (if_neg ?_).trans ?_; (k_extra "m ne"); (k_extra "m same2"))
  k_with "m same3" => first | (refine kstB_out ?_ (by assumption); k_extra "m nes") | (refine (kstB_f (cPs_out ?_ (by assumption))).trans ?_; (k_extra "m ne"); refine (if_neg (at_out (by assumption))).trans ?_; k_extra "m same3") | (refine (if_neg ?_).trans ?_; (k_extra "m ne"); (k_extra "m same3"))
  k_with_none
  k_with "m eval Name" => (k_here; name_kind "local"; k_dflt (refine' ld (by k_asm) ?_ ?_; (first | exact rfl | (rotate_left; exact rfl)); k_whole))
  k_with "m k_mem" => first | with_reducible assumption | (refine' List.mem_append_left _ ?_; k_mem) | (refine' List.mem_append_right _ ?_; k_mem)
  k_with "m ne" => first | assumption | (rename ∀ p ∈ _, _ ≠ Prod.fst p => hh2; k_extra "m ne1") | (refine ne_of_stored (by assumption) ?_; decide +kernel)
  k_with "m ne1" => (rename ∀ p ∈ _, _ ≠ Prod.fst p => hh2; first | (have hh3 := hh2 _ (List.Mem.head _); exact hh3) | (replace hh2 := ne_tail hh2; k_extra "m ne1"))
  k_with "m nes" => first | exact fa0 | (refine faC ?_ ?_; (k_extra "m ne"); (k_extra "m nes"))
  k_with "m same1" => first | (refine kstB_out ?_ (by assumption); k_extra "m nes") | (refine (if_neg ?_).trans ?_; (k_extra "m ne"); (k_extra "m same1"))
  k_with "m same" => (intro z h1 h2 h3; k_extra "m same1")
  k_with "m sameW" => (intro z h2 h3; k_extra "m same1")
  k_with "m k_all" => first | with_reducible assumption | (refine' List.forall_mem_append.mpr ⟨?_, ?_⟩; (k_all); (k_all))
  k_with "hk on" => fail_if_success (fail_if_success (with_reducible rename HkOn => hkOn))
  k_with "hk ne" => first | exact neAround | exact neShared | exact neWorld | exact neDrawn | exact neGen | exact neSCtx | exact neI | exact Nonempty.intro (by constructor <;> first | exact default | (constructor <;> exact default))
  k_with "m execs cons" => (k_extra "hk on"; (try k_made); (with_reducible refine wpAny_execs_cons ?_); try dsimp only)
  k_with "m execs nil" => (k_extra "hk on"; refine wpAny_execs_nil ?_)
  k_with "hk omega" => ((k_extra "hk on"); dsimp +zetaDelta only; first | lia | omega +splitDisjunctions)
  k_with "hk ne" => exact neWsD
  k_with "m k_mem" => first | (with_reducible assumption) | exact List.Mem.head _ | ((with_reducible refine' List.mem_append_left _ ?_); k_mem) | ((with_reducible refine' List.mem_append_right _ ?_); k_mem) | ((with_reducible refine' List.Mem.tail _ ?_); (try show (_ : Addr × Obj) ∈ (_ : List (Addr × Obj))); k_mem)
  k_with "m same2" => first | with_reducible rfl | (refine (if_neg ?_).trans ?_; (k_extra "m ne"); (k_extra "m same2"))
  k_with "m same3" => first | (refine kstB_out ?_ (by assumption); k_extra "m nes") | (refine (kstB_f (cPs_out ?_ (by assumption))).trans ?_; (k_extra "m ne"); refine (if_neg (at_out (by assumption))).trans ?_; k_extra "m same3") | (refine (if_neg ?_).trans ?_; (k_extra "m ne"); (k_extra "m same3"))
  k_with "m getAttr ref" =>
    rename Fr _ _ _ _ => F6
    rename News _ _ _ _ => N6
    rename Frag.In _ _ => X6
    refine nag_get (X6.keeps F6.keep) (⟨(N6 _ he).1, rfl, rfl, (N6 _ hD).1⟩ : InstAt _ e (nagO D T tb) 59 (some (dictOf (nagEs w k msg line t1 t2 t3 u1 u2 u3) n1))) (v := .str msg t2) (by exact rfl) rfl ?_
  refine wpAny_call ?_
  k_dflt cell_enter
  (repeat' (first | (k_unfold; (try dsimp only)) | (k_end; kc_close) | (walk1; (try dsimp only)) | (dsimp only; walk1) | (leave1; (try dsimp only)) | fail "no step"))
  all_goals exact end0 ret (by k_asm) (by k_asm) (fun p hp => hp) rfl
theorem cGetLine (w : World) (news : List (Addr × Obj)) (e D T : Addr) (tb : Value) (k : Int) (msg line : Str) (t1 t2 t3 u1 u2 u3 : Tok) (n1 : Nat) (he : (e, nagO D T tb) ∈ news) (hD : (D, dictOf (nagEs w k msg line t1 t2 t3 u1 u2 u3) n1) ∈ news) :
    SpecH w 56 1 50 [.ref e] news (fun r _ => r = .str line t3) := by
  unfold SpecH
  k_fill
  intro mean mg mb dp un gd cn cs a ccd cl outer A₀ base h₀ L m s hv Q E B F X N TT hk hdp hun ret
  k_with_none
  k_with "m eval Name" => (k_here; name_kind "local"; k_dflt (refine' ld (by k_asm) ?_ ?_; (first | exact rfl | (rotate_left; exact rfl)); k_whole))
  k_with "m k_mem" => first | with_reducible assumption | (refine' List.mem_append_left _ ?_; k_mem) | (refine' List.mem_append_right _ ?_; k_mem)
  k_with "m ne" => first | assumption | (rename ∀ p ∈ _, _ ≠ Prod.fst p => hh2; k_extra "m ne1") | (refine ne_of_stored (by assumption) ?_; decide +kernel)
  k_with "m ne1" => (rename ∀ p ∈ _, _ ≠ Prod.fst p => hh2; first | (have hh3 := hh2 _ (List.Mem.head _); exact hh3) | (replace hh2 := ne_tail hh2; k_extra "m ne1"))
  k_with "m nes" => first | exact fa0 | (refine faC ?_ ?_; (k_extra "m ne"); (k_extra "m nes"))
  k_with "m same1" => first | (refine kstB_out ?_ (by assumption); k_extra "m nes") | (refine (if_neg ?_).trans ?_; (k_extra "m ne"); (k_extra "m same1"))
  k_with "m same" => (intro z h1 h2 h3; k_extra "m same1")
  k_with "m sameW" => (intro z h2 h3; k_extra "m same1")
  k_with "m k_all" => first | with_reducible assumption | (refine' List.forall_mem_append.mpr ⟨?_, ?_⟩; (k_all); (k_all))
  k_with "hk on" => fail_if_success (fail_if_success (with_reducible rename HkOn => hkOn))
  k_with "hk ne" => first | exact neAround | exact neShared | exact neWorld | exact neDrawn | exact neGen | exact neSCtx | exact neI | exact Nonempty.intro (by constructor <;> first | exact default | (constructor <;> exact default))
  k_with "m execs cons" => (k_extra "hk on"; (try k_made); (with_reducible refine wpAny_execs_cons ?_); try dsimp only)
  k_with "m execs nil" => (k_extra "hk on"; refine wpAny_execs_nil ?_)
  k_with "hk omega" => ((k_extra "hk on"); dsimp +zetaDelta only; first | lia | omega +splitDisjunctions)
  k_with "hk ne" => exact neWsD
  k_with "m k_mem" => first | (with_reducible assumption) | exact List.Mem.head _ | ((with_reducible refine' List.mem_append_left _ ?_); k_mem) | ((with_reducible refine' List.mem_append_right _ ?_); k_mem) | ((with_reducible refine' List.Mem.tail _ ?_); (try show (_ : Addr × Obj) ∈ (_ : List (Addr × Obj))); k_mem)
  k_with "m same2" => first | with_reducible rfl | (refine (if_neg ?_).trans ?_; (k_extra "m ne"); (k_extra "m same2"))
  k_with "m same3" => first | (refine kstB_out ?_ (by assumption); k_extra "m nes") | (refine (kstB_f (cPs_out ?_ (by assumption))).trans ?_; (k_extra "m ne"); refine (if_neg (at_out (by assumption))).trans ?_; k_extra "m same3") | (refine (if_neg ?_).trans ?_; (k_extra "m ne"); (k_extra "m same3"))
  k_with_none
  k_with "m eval Name" => (k_here; name_kind "local"; k_dflt (refine' ld (by k_asm) ?_ ?_; (first | exact rfl | (rotate_left; exact rfl)); k_whole))
  k_with "m k_mem" => first | with_reducible assumption | (refine' List.mem_append_left _ ?_; k_mem) | (refine' List.mem_append_right _ ?_; k_mem)
  k_with "m ne" => first | assumption | (rename ∀ p ∈ _, _ ≠ Prod.fst p => hh2; k_extra "m ne1") | (refine ne_of_stored (by assumption) ?_; decide +kernel)
  k_with "m ne1" => (rename ∀ p ∈ _, _ ≠ Prod.fst p => hh2; first | (have hh3 := hh2 _ (List.Mem.head _); exact hh3) | (replace hh2 := ne_tail hh2; k_extra "m ne1"))
  k_with "m nes" => first | exact fa0 | (refine faC ?_ ?_; (k_extra "m ne"); (k_extra "m nes"))
  k_with "m same1" => first | (refine kstB_out ?_ (by assumption); k_extra "m nes") | (refine (if_neg ?_).trans ?_; (k_extra "m ne"); (k_extra "m same1"))
  k_with "m same" => (intro z h1 h2 h3; k_extra "m same1")
  k_with "m sameW" => (intro z h2 h3; k_extra "m same1")
  k_with "m k_all" => first | with_reducible assumption | (refine' List.forall_mem_append.mpr ⟨?_, ?_⟩; (k_all); (k_all))
  k_with "hk on" => fail_if_success (fail_if_success (with_reducible rename HkOn => hkOn))
  k_with "hk ne" => first | exact neAround | exact neShared | exact neWorld | exact neDrawn | exact neGen | exact neSCtx | exact neI | exact Nonempty.intro (by constructor <;> first | exact default | (constructor <;> exact default))
  k_with "m execs cons" => (k_extra "hk on"; (try k_made); (with_reducible refine wpAny_execs_cons ?_); try dsimp only)
  k_with "m execs nil" => (k_extra "hk on"; refine wpAny_execs_nil ?_)
  k_with "hk omega" => ((k_extra "hk on"); dsimp +zetaDelta only; first | lia | omega +splitDisjunctions)
  k_with "hk ne" => exact neWsD
  k_with "m k_mem" => first | (with_reducible assumption) | exact List.Mem.head _ | ((with_reducible refine' List.mem_append_left _ ?_); k_mem) | ((with_reducible refine' List.mem_append_right _ ?_); k_mem) | ((with_reducible refine' List.Mem.tail _ ?_); (try show (_ : Addr × Obj) ∈ (_ : List (Addr × Obj))); k_mem)
  k_with "m same2" => first | with_reducible rfl | (refine (if_neg ?_).trans ?_; (k_extra "m ne"); (k_extra "m same2"))
  k_with "m same3" => first | (refine kstB_out ?_ (by assumption); k_extra "m nes") | (refine (kstB_f (cPs_out ?_ (by assumption))).trans ?_; (k_extra "m ne"); refine (if_neg (at_out (by assumption))).trans ?_; k_extra "m same3") | (refine (if_neg ?_).trans ?_; (k_extra "m ne"); (k_extra "m same3"))
  k_with "m getAttr ref" =>
    rename Fr _ _ _ _ => F6
    rename News _ _ _ _ => N6
    rename Frag.In _ _ => X6
    refine nag_get (X6.keeps F6.keep) (⟨(N6 _ he).1, rfl, rfl, (N6 _ hD).1⟩ : InstAt _ e (nagO D T tb) 59 (some (dictOf (nagEs w k msg line t1 t2 t3 u1 u2 u3) n1))) (v := .str line t3) (by exact rfl) rfl ?_
  refine wpAny_call ?_
  k_dflt cell_enter
  (repeat' (first | (k_unfold; (try dsimp only)) | (k_end; kc_close) | (walk1; (try dsimp only)) | (dsimp only; walk1) | (leave1; (try dsimp only)) | fail "no step"))
  all_goals exact end0 ret (by k_asm) (by k_asm) (fun p hp => hp) rfl
end Mine

-- CTp
namespace Mine
theorem ns_hid {h h' : Heap} {a : Addr} {m : Str → Option Value} (hn : h.Ns a m) (hid : ∀ b o es n, h.get? b = some o → o.data = .dict es n → h'.get? b = some o) : h'.Ns a m := by
  obtain ⟨o, es, ep, h1, h2, r⟩ := hn
  exact ⟨o, es, ep, hid _ _ _ _ h1 h2, h2, r⟩
theorem top0 {p : Program} {loose : List Str} {mean : ExcName → Option Value} {mg mb : Str → Option Value} {h h' : Heap} (T : Top p loose mean mg mb h) (hf : ∀ x, x ∉ startupNames → x ∉ L0 → mg x = none)
    (hid : ∀ b o es n, h.get? b = some o → o.data = .dict es n → h'.get? b = some o) (hpl : ∀ b o, h.get? b = some o → o.data = .plain → h'.get? b = some o) : Top P0 L0 mean mg mb h' where
  g := ns_hid T.g hid
  b := ns_hid T.b hid
  nolimit := let ⟨mc, h1, h2⟩ := T.nolimit; ⟨mc, ns_hid h1 hid, h2⟩
  nodigits := let ⟨mc, h1, h2⟩ := T.nodigits; ⟨mc, ns_hid h1 hid, h2⟩
  fn := fun d hd => by
    have e : recsOf P0 = [] := rfl
    rw [e] at hd; cases hd
  own := fun o ho => by
    have e : ownsOf P0 = [] := rfl
    rw [e] at ho; cases ho
  const := fun x d hv => by
    have e : valNames P0 = [] := rfl
    have q := valOf_name hv
    rw [e] at q; cases q
  free := fun x h1 h2 _ _ _ => hf x h1 h2
  builtins := T.builtins
  tab := fun d hd => by
    have e : recsOf P0 = [] := rfl
    rw [e] at hd; cases hd
  bmain := let ⟨bm, ob, h1, h2, h3, h4, h5, h6⟩ := T.bmain; ⟨bm, ob, h1, h2, hpl _ _ h3 h6, h4, h5, h6⟩
  seer := fun q => by
    have e : importsNone P0 = false := rfl
    rw [e] at q; cases q
theorem free0 {mean : ExcName → Option Value} {mg mb : Str → Option Value} {h : Heap} (T : Top Mine.vX (looseW Mine.vX Mine.lX) mean mg mb h) : ∀ x, x ∉ startupNames → x ∉ L0 → mg x = none := fun x h1 h2 => by
  have e : ((looseW Mine.vX Mine.lX ++ (recsOf Mine.vX).map (·.name) ++ (litsOf Mine.vX).map (·.1) ++ (clssOf Mine.vX (looseW Mine.vX Mine.lX)).map (·.name)).all fun x => L0.contains x || startupNames.contains x) = true := by decide +kernel
  have key : ∀ l : List Str, (∀ z ∈ l, (L0.contains z || startupNames.contains z) = true) → x ∉ l := fun l hl hx => by
    rcases Bool.or_eq_true_iff.mp (hl x hx) with q | q
    · exact h2 (by simpa using q)
    · exact h1 (by simpa using q)
  have e2 := List.all_eq_true.mp e
  exact T.free x h1 (key _ fun z hz => e2 z (by simp only [List.mem_append]; exact .inl (.inl (.inl hz)))) (key _ fun z hz => e2 z (by simp only [List.mem_append]; exact .inl (.inl (.inr hz)))) (key _ fun z hz => e2 z (by simp only [List.mem_append]; exact .inl (.inr hz))) (key _ fun z hz => e2 z (by simp only [List.mem_append]; exact .inr hz))
theorem tab130 {w : World} {mean : ExcName → Option Value} {mg mb : Str → Option Value} {h : Heap} {loose : List Str} (T : Top Mine.vX loose mean mg mb h) (X : (Mine.hd.heap_1 w.params).In h) : h.get? 130 = some (tblO #[]) ∧ isCodeTable h 130 := by
  have e : ((recsOf Mine.vX).find? fun d => d.name == Str.ofString "format_witnesses").isSome = true := by decide +kernel
  obtain ⟨d, hd⟩ := Option.isSome_iff_exists.mp e
  have hm := List.mem_of_find?_eq_some hd
  have hn : d.name = Str.ofString "format_witnesses" := by simpa using List.find?_some hd
  obtain ⟨a, o, fd, c, P, h1, h2, h3, h4, h5, h6⟩ := T.tab d hm
  have hg : mg (Str.ofString "format_witnesses") = some (.ref 135) := by
    obtain ⟨og, es, ep, g1, g2, g3, g4⟩ := T.g
    have g5 := X 3 _ rfl
    have e3 : mainGlobals = 3 := rfl
    rw [e3] at g1
    rw [g5] at g1
    obtain rfl := Option.some.inj g1
    injection g2 with g6 g7
    rw [← g4, ← g6]
    rfl
  rw [hn, hg] at h1
  obtain rfl : (135 : Addr) = a := by injection h1 with h1; injection h1
  have h7 := X 135 _ rfl
  rw [h7] at h2
  obtain rfl := Option.some.inj h2
  injection h3 with h3
  subst h3
  injection h4 with h4
  subst h4
  obtain ⟨⟨o2, vs, k1, k2, k3, k4⟩, k5⟩ := h6
  have h8 := X 134 _ rfl
  have k1' := k1
  rw [h8] at k1
  obtain rfl := Option.some.inj k1
  injection k3 with k3
  subst k3
  have e4 : some (Value.ref 130) = some (Value.ref P) := k4
  injection e4 with e4
  injection e4 with e4
  subst e4
  exact ⟨k5, ⟨134, _, _, k1', k2, rfl, k4⟩⟩
noncomputable def isListV : Value → Bool
  | .type "list" => true
  | _ => false
theorem frag_plain (w : World) : ∀ a o, (Mine.hd.heap_1 w.params).lookup a = some o → a ≠ 130 ∧ o.cls ≠ .type "list" := by
  have e : (Mine.hd.heap_1 w.params).all (fun p => p.1 != 130 && !isListV p.2.cls) = true := rfl
  have key : ∀ K : Frag, K.all (fun p => p.1 != 130 && !isListV p.2.cls) = true → ∀ a o, K.lookup a = some o → a ≠ 130 ∧ o.cls ≠ .type "list" := by
    intro K hK a o h
    induction K with
    | nil => cases h
    | cons p r ih =>
      simp only [List.all_cons, Bool.and_eq_true] at hK
      rw [List.lookup] at h
      split at h
      · rename_i q
        have q : a = p.1 := by simpa using q
        obtain rfl := Option.some.inj h
        refine ⟨by rw [q]; simpa using hK.1.1, fun z => ?_⟩
        have := hK.1.2
        rw [z] at this
        exact absurd this (by decide)
      · exact ih hK.2 h
  exact key _ e
end Mine

-- PA
namespace Mine
noncomputable def leadC : List Nat → Nat → List Nat
  | [], l => List.replicate l 32
  | r :: cl, l => List.replicate r 32 ++ 9 :: leadC cl l
noncomputable abbrev runsI (cl : List Nat) (l : Nat) : List Int := (cl ++ [l]).map fun (n : Nat) => (n : Int)
theorem lead_tl (l : Nat) : ∀ cl : List Nat, tl (leadS (runsI cl l)) = leadC cl l := by
  have one : ∀ n : Nat, tl (Txt.mul (Str.ofString " ") (n : Int)) = List.replicate n 32 := fun n => by
    have e : Str.ofString " " = ⟨#[32]⟩ := by decide +kernel
    rw [e]; exact mul_one_list 32 n
  have key : ∀ cl : List Nat, tl (Str.join (Str.ofString "\t") ((runsI cl l).map fun r => Txt.mul (Str.ofString " ") r)) = leadC cl l := by
    intro cl
    induction cl with
    | nil => exact one l
    | cons r cl ih =>
      obtain ⟨q, rs, e⟩ : ∃ q rs, (runsI cl l).map (fun r => Txt.mul (Str.ofString " ") r) = q :: rs := by
        cases cl with
        | nil => exact ⟨_, _, rfl⟩
        | cons a b => exact ⟨_, _, rfl⟩
      rw [e] at ih
      show tl (Str.join (Str.ofString "\t") (Txt.mul (Str.ofString " ") (r : Int) :: (runsI cl l).map fun r => Txt.mul (Str.ofString " ") r)) = _
      rw [e]
      show tl (Txt.mul (Str.ofString " ") (r : Int) ++ Str.ofString "\t" ++ Str.join (Str.ofString "\t") (q :: rs)) = List.replicate r 32 ++ 9 :: leadC cl l
      rw [tl_app, tl_app, one, ih, List.append_assoc]
      have e9 : tl (Str.ofString "\t") = [9] := by decide +kernel
      rw [e9]; rfl
  intro cl
  rw [← key cl]
  exact congrArg tl (StrLaws.glued_eq_join _ _)
theorem leadC_len (l : Nat) : ∀ cl : List Nat, (leadC cl l).length = cl.sum + cl.length + l
  | [] => by simp [leadC]
  | r :: cl => by
    simp only [leadC, List.length_append, List.length_replicate, List.length_cons, leadC_len l cl, List.sum_cons]
    omega
noncomputable def padN (cnt : List Int) (r : Nat) : List Int := if cnt.length ≤ r then cnt ++ List.replicate (r - cnt.length + 1) 0 else cnt
noncomputable def addN (cnt : List Int) (r : Nat) : List Int := (padN cnt r).set r ((padN cnt r).getD r 0 + 1)
noncomputable def wsN (cl : List Nat) (l : Nat) : WSt := ⟨cl.foldl addN [], l, (cl.sum + cl.length + l : Nat), cl.length⟩
theorem padN_eq (cnt : List Int) (r : Nat) : padTo cnt (r : Int) = padN cnt r := by
  unfold padTo padN
  by_cases h : cnt.length ≤ r
  · rw [if_pos (Int.ofNat_le.mpr h), if_pos h]
    congr 2
    omega
  · rw [if_neg (fun q => h (Int.ofNat_le.mp q)), if_neg h]
theorem run_rep (r : List Nat) : ∀ (k : Nat) (s : WSt), wsRun (List.replicate k 32 ++ r) s = wsRun r ⟨s.cnt, s.b + k, s.n + k, s.nt⟩
  | 0, s => by simp
  | k + 1, s => by
    rw [List.replicate_succ, List.cons_append, wsRun, if_pos rfl, run_rep r k s.space]
    simp only [WSt.space]
    congr 2 <;> omega
theorem run_lead (l : Nat) (R : List Nat) : ∀ (cl : List Nat) (c : List Int) (n nt : Int), wsRun (leadC cl l ++ R) ⟨c, 0, n, nt⟩ = wsRun R ⟨cl.foldl addN c, l, n + (cl.sum + cl.length + l : Nat), nt + cl.length⟩
  | [], c, n, nt => by
    rw [leadC, run_rep]
    simp
  | r :: cl, c, n, nt => by
    rw [leadC, List.append_assoc, run_rep, List.cons_append, wsRun, if_neg (by decide), if_pos rfl]
    have e : WSt.tab ⟨c, 0 + (r : Int), n + (r : Int), nt⟩ = ⟨addN c r, 0, n + r + 1, nt + 1⟩ := by
      unfold WSt.tab addN
      simp only [Int.zero_add, Int.toNat_natCast, padN_eq]
    show wsRun _ (WSt.tab ⟨c, 0 + (r : Int), n + (r : Int), nt⟩) = _
    rw [e, run_lead l R cl]
    simp only [List.foldl_cons, List.sum_cons, List.length_cons]
    congr 2 <;> omega
theorem run_end9 (s : WSt) : ∀ R : List Nat, (∀ c ∈ R.head?, c ≠ 32 ∧ c ≠ 9) → wsRun R s = s
  | [], _ => rfl
  | c :: R, h => by
    obtain ⟨h1, h2⟩ := h c rfl
    rw [wsRun, if_neg h1, if_neg h2]
theorem ws_line (cl : List Nat) (l : Nat) (R : Str) (h : ∀ c ∈ (tl R).head?, c ≠ 32 ∧ c ≠ 9) : wsOf (leadS (runsI cl l) ++ R) = wsN cl l := by
  unfold wsOf
  show wsRun (tl (leadS (runsI cl l) ++ R)) _ = _
  rw [tl_app, lead_tl, run_lead, run_end9 _ _ h]
  simp [wsN]
theorem getD_pad (cnt : List Int) (r i : Nat) : (padN cnt r).getD i 0 = cnt.getD i 0 := by
  unfold padN
  split
  · rw [List.getD_eq_getElem?_getD, List.getD_eq_getElem?_getD, List.getElem?_append]
    split
    · rfl
    · rename_i h
      rw [List.getElem?_replicate, List.getElem?_eq_none (l := cnt) (Nat.not_lt.mp h)]
      split <;> rfl
  · rfl
theorem pad_len (cnt : List Int) (r : Nat) : (padN cnt r).length = max cnt.length (r + 1) := by
  unfold padN
  split
  · rw [List.length_append, List.length_replicate]; omega
  · omega
theorem add_len (cnt : List Int) (r : Nat) : (addN cnt r).length = max cnt.length (r + 1) := by
  unfold addN; rw [List.length_set, pad_len]
theorem getD_add (cnt : List Int) (r i : Nat) : (addN cnt r).getD i 0 = cnt.getD i 0 + if i = r then 1 else 0 := by
  have hl := pad_len cnt r
  unfold addN
  rw [List.getD_eq_getElem?_getD, List.getElem?_set]
  by_cases h : r = i
  · subst h
    rw [if_pos rfl, if_pos (by omega), if_pos rfl, getD_pad]; rfl
  · rw [if_neg h, if_neg (Ne.symm h), ← List.getD_eq_getElem?_getD, getD_pad, Int.add_zero]
theorem ext_getD {a b : List Int} (hl : a.length = b.length) (h : ∀ i, a.getD i 0 = b.getD i 0) : a = b := by
  refine List.ext_getElem hl fun i h1 h2 => ?_
  have := h i
  rwa [List.getD_eq_getElem?_getD, List.getD_eq_getElem?_getD, List.getElem?_eq_getElem h1, List.getElem?_eq_getElem h2] at this
theorem add_comm2 (c : List Int) (a b : Nat) : addN (addN c a) b = addN (addN c b) a := by
  refine ext_getD ?_ fun i => ?_
  · simp only [add_len]; omega
  · simp only [getD_add]; omega
theorem cnt_perm {a b : List Nat} (h : a.Perm b) (c : List Int) : a.foldl addN c = b.foldl addN c := h.foldl_eq' (fun x _ y _ z => add_comm2 z x y) c
theorem ws_perm {a b : List Nat} (h : a.Perm b) (l : Nat) : wsN a l = wsN b l := by
  unfold wsN
  rw [cnt_perm h, h.length_eq, h.sum_nat]
theorem cnt_len_ge (r : Nat) : ∀ (cl : List Nat) (c : List Int), c.length ≤ (cl.foldl addN c).length ∧ (r ∈ cl → r < (cl.foldl addN c).length)
  | [], c => ⟨Nat.le_refl _, fun h => nomatch h⟩
  | q :: cl, c => by
    obtain ⟨h1, h2⟩ := cnt_len_ge r cl (addN c q)
    have := add_len c q
    refine ⟨by rw [List.foldl_cons]; omega, fun h => ?_⟩
    rw [List.foldl_cons]
    rcases List.mem_cons.mp h with rfl | h
    · omega
    · exact h2 h
theorem long_ge {cl : List Nat} {l r : Nat} (h : r ∈ cl) : (r : Int) ≤ (wsN cl l).long := by
  have := (cnt_len_ge r cl []).2 h
  unfold WSt.long wsN
  simp only
  omega
noncomputable def gSum (t : Nat) (cnt : List Int) (M : Nat) : Int := ((List.range M).map fun i => ((i / t : Nat) : Int) * cnt.getD i 0).sum
theorem gSum_succ (t : Nat) (cnt : List Int) (M : Nat) : gSum t cnt (M + 1) = gSum t cnt M + ((M / t : Nat) : Int) * cnt.getD M 0 := by
  unfold gSum
  rw [List.range_succ, List.map_append, List.sum_append]
  simp
theorem gSum_ext (t : Nat) (cnt : List Int) : ∀ k, gSum t cnt (cnt.length + k) = gSum t cnt cnt.length
  | 0 => rfl
  | k + 1 => by
    rw [← Nat.add_assoc, gSum_succ, gSum_ext t cnt k, List.getD_eq_getElem?_getD, List.getElem?_eq_none (by omega)]
    simp
theorem gSum_low (t : Nat) (cnt : List Int) : ∀ k, k ≤ t → gSum t cnt k = 0
  | 0, _ => rfl
  | k + 1, h => by
    rw [gSum_succ, gSum_low t cnt k (by omega), Nat.div_eq_of_lt (by omega)]
    simp
theorem il_g (t : Nat) (cnt : List Int) : ∀ k, ilSum (t : Int) cnt (rangeKs (t : Int) k) = gSum t cnt (t + k)
  | 0 => by rw [Nat.add_zero, gSum_low t cnt t (Nat.le_refl _)]; rfl
  | k + 1 => by
    rw [← Nat.add_assoc, gSum_succ, ← il_g t cnt k]
    unfold ilSum
    rw [rangeKs_snoc, List.map_append, List.sum_append]
    have e1 : ((t : Int) + (k : Int)).toNat = t + k := by omega
    simp only [List.map_cons, List.map_nil, List.sum_cons, List.sum_nil, Int.add_zero, e1]
    rw [Int.fdiv_eq_ediv_of_nonneg _ (by omega)]
    rfl
theorem lvl_g (nt b : Int) (cnt : List Int) (t : Nat) : lvl nt b cnt (t : Int) = b + t * (gSum t cnt cnt.length + nt) := by
  unfold lvl
  rw [il_g]
  by_cases h : t ≤ cnt.length
  · rw [show t + ((cnt.length : Int) - (t : Int)).toNat = cnt.length from by omega]
  · rw [show t + ((cnt.length : Int) - (t : Int)).toNat = t from by omega, gSum_low t cnt t (Nat.le_refl _), gSum_low t cnt cnt.length (by omega)]
theorem gSum_add (t : Nat) (cnt : List Int) (r : Nat) : ∀ M, gSum t (addN cnt r) M = gSum t cnt M + if r < M then ((r / t : Nat) : Int) else 0
  | 0 => by simp [gSum]
  | M + 1 => by
    rw [gSum_succ, gSum_succ, gSum_add t cnt r M, getD_add, Int.mul_add]
    by_cases h : M = r
    · subst h
      simp; omega
    · rw [if_neg h, Int.mul_zero]
      by_cases h1 : r < M
      · rw [if_pos h1, if_pos (by omega)]; omega
      · rw [if_neg h1, if_neg (by omega)]; omega
theorem gSum_big (t : Nat) (cnt : List Int) {M : Nat} (h : cnt.length ≤ M) : gSum t cnt M = gSum t cnt cnt.length := by
  rw [show M = cnt.length + (M - cnt.length) from by omega, gSum_ext]
theorem gSum_fold (t : Nat) : ∀ (cl : List Nat) (c : List Int), gSum t (cl.foldl addN c) (cl.foldl addN c).length = gSum t c c.length + ((cl.map fun r => r / t).sum : Nat)
  | [], c => by simp
  | r :: cl, c => by
    rw [List.foldl_cons, gSum_fold t cl (addN c r), gSum_add, if_pos (by have := add_len c r; omega), gSum_big t c (by have := add_len c r; omega)]
    simp only [List.map_cons, List.sum_cons]
    omega
noncomputable def lvN (cl : List Nat) (l t : Nat) : Nat := l + t * (cl.map fun r => r / t + 1).sum
theorem sum_succ (t : Nat) : ∀ cl : List Nat, (cl.map fun r => r / t + 1).sum = (cl.map fun r => r / t).sum + cl.length
  | [] => rfl
  | r :: cl => by simp only [List.map_cons, List.sum_cons, sum_succ t cl, List.length_cons]; omega
theorem lv_ws (cl : List Nat) (l t : Nat) : (wsN cl l).lv (t : Int) = (lvN cl l t : Int) := by
  show lvl _ _ _ _ = _
  rw [lvl_g]
  unfold wsN lvN
  simp only
  rw [gSum_fold, sum_succ]
  have e : gSum t [] ([] : List Int).length = 0 := rfl
  rw [e]
  simp only [Int.natCast_add, Int.natCast_mul, Int.zero_add]
structure Dom (u v : WSt) : Prop where
  n : u.n < v.n
  nt : u.nt ≤ v.nt
  lv : ∀ t : Nat, 2 ≤ t → u.lv (t : Int) < v.lv (t : Int)
theorem Dom.trans {u v x : WSt} (h : Dom u v) (h' : Dom v x) : Dom u x :=
  ⟨Int.lt_trans h.n h'.n, Int.le_trans h.nt h'.nt, fun t ht => Int.lt_trans (h.lv t ht) (h'.lv t ht)⟩
theorem Dom.less {u v : WSt} (h : Dom u v) {b : Bool} (hb : LessIs u v b) : b = true := by
  cases hb with
  | short q => exact absurd h.n (Int.not_lt.mpr q)
  | simple => exact decide_eq_true h.nt
  | no _ ts h2 _ h4 =>
    obtain ⟨t, rfl⟩ := Int.eq_ofNat_of_zero_le (by omega : 0 ≤ ts)
    exact absurd (h.lv t (by omega)) (Int.not_lt.mpr h4)
  | yes => rfl
theorem not_less {u v : WSt} (h : v.n ≤ u.n) {b : Bool} (hb : LessIs u v b) : b = false := by
  cases hb with
  | short => rfl
  | simple q => exact absurd q (Int.not_lt.mpr h)
  | no => rfl
  | yes q => exact absurd q (Int.not_lt.mpr h)
theorem dom_more (cl : List Nat) (l k : Nat) (hk : 1 ≤ k) : Dom (wsN cl l) (wsN cl (l + k)) where
  n := by unfold wsN; simp only; omega
  nt := Int.le_refl _
  lv := fun t ht => by
    rw [lv_ws, lv_ws]
    unfold lvN
    omega
theorem dom_tab (cl mid : List Nat) (l k z : Nat) : Dom (wsN cl l) (wsN (cl ++ (l + k) :: mid) z) where
  n := by unfold wsN; simp only [List.sum_append, List.sum_cons, List.length_append, List.length_cons]; omega
  nt := by unfold wsN; simp only [List.length_append, List.length_cons]; omega
  lv := fun t ht => by
    rw [lv_ws, lv_ws]
    unfold lvN
    rw [List.map_append, List.sum_append, List.map_cons, List.sum_cons, Nat.mul_add, Nat.mul_add, Nat.mul_add]
    have h1 := Nat.div_add_mod (l + k) t
    have h2 := Nat.mod_lt (l + k) (show 0 < t from by omega)
    omega
theorem dom_empty (cl : List Nat) (l : Nat) (h : cl ≠ []) : Dom (wsN [] 0) (wsN cl l) := by
  cases cl with
  | nil => exact absurd rfl h
  | cons r cl =>
    have := dom_tab [] cl 0 r l
    rwa [List.nil_append, Nat.zero_add] at this
end Mine

-- PB
namespace Mine
theorem lv_grow (a : Nat) (R : List Nat) (l t : Nat) : lvN ((a + 1) :: R) l t = lvN (a :: R) l t + if t ∣ a + 1 then t else 0 := by
  unfold lvN
  simp only [List.map_cons, List.sum_cons, Nat.succ_div]
  split
  · rw [show a / t + 1 + 1 + (R.map fun r => r / t + 1).sum = (a / t + 1 + (R.map fun r => r / t + 1).sum) + 1 from by omega, Nat.mul_add, Nat.mul_one]; omega
  · simp
theorem lv_perm {a b : List Nat} (h : a.Perm b) (l t : Nat) : lvN a l t = lvN b l t := by
  have := lv_ws a l t
  rw [ws_perm h, lv_ws] at this
  exact Int.ofNat_inj.mp this.symm
theorem lv_swap (c a : Nat) (R : List Nat) (l t : Nat) : lvN (c :: (a + 1) :: R) l t + (if t ∣ c + 1 then t else 0) = lvN ((c + 1) :: a :: R) l t + if t ∣ a + 1 then t else 0 := by
  rw [← lv_grow, lv_perm (List.Perm.swap a (c + 1) R), ← lv_grow, lv_perm (List.Perm.swap (c + 1) (a + 1) R)]
theorem sz_iff {p q t : Nat} : szOf (p : Int) (q : Int) (t : Int) = false ↔ ((0 < p ∧ t ∣ p) ↔ t ∣ q) := by
  have e : ∀ n : Nat, (Int.fmod (n : Int) (t : Int) == 0) = decide (t ∣ n) := fun n => by
    rw [Int.fmod_eq_emod_of_nonneg _ (by omega), ← Int.natCast_emod]
    by_cases h : t ∣ n
    · rw [decide_eq_true h, Nat.mod_eq_zero_of_dvd h]; rfl
    · rw [decide_eq_false h]
      exact beq_eq_false_iff_ne.mpr fun q => h (Nat.dvd_of_mod_eq_zero (Int.ofNat_inj.mp q))
  unfold szOf
  rw [e, e]
  by_cases h1 : 0 < p <;> by_cases h2 : t ∣ p <;> by_cases h3 : t ∣ q <;> simp [h1, h2, h3] <;> omega
structure Parts (u v : WSt) (p q : Nat) : Prop where
  at_ : ∀ t : Nat, 1 ≤ t → (u.lv (t : Int) = v.lv (t : Int) ↔ szOf (p : Int) (q : Int) (t : Int) = false)
  nt : u.nt = v.nt
  big : max p q ≤ (max u.long v.long + 1).toNat
theorem parts_one (a : Nat) (R : List Nat) (l : Nat) : Parts (wsN (a :: R) l) (wsN ((a + 1) :: R) l) 0 (a + 1) where
  at_ := fun t ht => by
    rw [lv_ws, lv_ws, lv_grow, sz_iff, Int.ofNat_inj]
    split
    · rename_i h; exact ⟨fun e => by omega, fun e => absurd (e.mpr h).1 (Nat.lt_irrefl 0)⟩
    · rename_i h; exact ⟨fun _ => ⟨fun e => absurd e.1 (Nat.lt_irrefl 0), fun e => absurd e h⟩, fun _ => rfl⟩
  nt := rfl
  big := by
    have := long_ge (cl := (a + 1) :: R) (l := l) (.head _)
    omega
theorem parts_two (c a : Nat) (R : List Nat) (l : Nat) : Parts (wsN ((c + 1) :: a :: R) l) (wsN (c :: (a + 1) :: R) l) (c + 1) (a + 1) where
  at_ := fun t ht => by
    have h := lv_swap c a R l t
    rw [lv_ws, lv_ws, sz_iff, Int.ofNat_inj]
    by_cases h1 : t ∣ c + 1 <;> by_cases h2 : t ∣ a + 1 <;> simp only [h1, h2, if_true, if_false, and_true, and_false, Nat.succ_pos, iff_true, iff_false, not_true] at h ⊢ <;> omega
  nt := rfl
  big := by
    have h1 := long_ge (cl := (c + 1) :: a :: R) (l := l) (.head _)
    have h2 := long_ge (cl := c :: (a + 1) :: R) (l := l) (.tail _ (.head _))
    omega
theorem sz_above {p q t : Nat} (h : max p q < t) (hq : 0 < q) : szOf (p : Int) (q : Int) (t : Int) = false := by
  rw [sz_iff]
  refine ⟨fun e => ?_, fun e => ?_⟩
  · have := Nat.le_of_dvd e.1 e.2; omega
  · have := Nat.le_of_dvd hq e; omega
theorem szT_ext {p q m : Nat} (hm : max p q ≤ m) (hq : 0 < q) : ∀ k, szT (p : Int) (q : Int) (m + k) = szT (p : Int) (q : Int) m
  | 0 => rfl
  | k + 1 => by
    rw [← Nat.add_assoc, szT, if_neg, szT_ext hm hq k]
    have e : (1 : Int) + ((m + k : Nat) : Int) = ((m + k + 1 : Nat) : Int) := by omega
    rw [e, sz_above (by omega) hq]
    exact Bool.false_ne_true
theorem wit_sz {u v : WSt} {p q : Nat} (h : Parts u v p q) : ∀ n, witTs u v n = szT (p : Int) (q : Int) n
  | 0 => rfl
  | n + 1 => by
    have e : (1 : Int) + (n : Int) = ((n + 1 : Nat) : Int) := by omega
    rw [witTs, szT, e, wit_sz h n]
    have := h.at_ (n + 1) (by omega)
    by_cases q1 : szOf (p : Int) (q : Int) ((n + 1 : Nat) : Int) = true
    · rw [if_neg (fun z => by rw [this.mp z] at q1; cases q1), if_pos q1]
    · rw [if_pos (this.mpr (eq_false_of_ne_true q1)), if_neg q1]
theorem wit_all_sz {u v : WSt} {p q : Nat} (h : Parts u v p q) (hq : 0 < q) : witTs u v (max u.long v.long + 1).toNat = szT (p : Int) (q : Int) (max p q) := by
  rw [wit_sz h]
  have hb := h.big
  rw [show (max u.long v.long + 1).toNat = max p q + ((max u.long v.long + 1).toNat - max p q) from by omega]
  exact szT_ext (Nat.le_refl _) hq _
theorem szT_has {p q t : Nat} (h : szOf (p : Int) (q : Int) (t : Int) = true) : ∀ n, 1 ≤ t → t ≤ n → szT (p : Int) (q : Int) n ≠ []
  | 0, h1, h2 => absurd h2 (by omega)
  | n + 1, h1, h2 => by
    rw [szT]
    split
    · simp
    · rename_i h3
      by_cases e : t = n + 1
      · exfalso
        rw [show (1 : Int) + (n : Int) = ((n + 1 : Nat) : Int) from by omega, ← e] at h3
        exact h3 h
      · exact szT_has h n h1 (by omega)
theorem szT_none {p : Nat} : ∀ n, szT ((p + 1 : Nat) : Int) ((p + 1 : Nat) : Int) n = []
  | 0 => rfl
  | n + 1 => by
    rw [szT, if_neg, szT_none n]
    rw [show (1 : Int) + (n : Int) = ((n + 1 : Nat) : Int) from by omega, sz_iff.mpr ⟨fun e => e.2, fun e => ⟨Nat.succ_pos _, e⟩⟩]
    exact Bool.false_ne_true
theorem max_toNat (p q : Nat) : (max (p : Int) (q : Int)).toNat = max p q := by omega
theorem parts_ne {u v : WSt} {p q t : Nat} (h : Parts u v p q) (h1 : 1 ≤ t) (hs : szOf (p : Int) (q : Int) (t : Int) = true) : ¬ (u.cnt = v.cnt ∧ u.b = v.b) := fun e => by
  have : u.lv (t : Int) = v.lv (t : Int) := by
    show lvl _ _ _ _ = lvl _ _ _ _
    rw [e.1, e.2, h.nt]
  rw [(h.at_ t h1).mp this] at hs
  cases hs
theorem sz_one (a : Nat) : szOf ((0 : Nat) : Int) ((a + 1 : Nat) : Int) ((1 : Nat) : Int) = true := by
  by_cases h : szOf ((0 : Nat) : Int) ((a + 1 : Nat) : Int) ((1 : Nat) : Int) = true
  · exact h
  · have := (sz_iff.mp (eq_false_of_ne_true h)).mpr (Nat.one_dvd _)
    exact absurd this.1 (Nat.lt_irrefl 0)
theorem sz_two {c a : Nat} (h : c ≠ a) : szOf ((c + 1 : Nat) : Int) ((a + 1 : Nat) : Int) ((max (c + 1) (a + 1) : Nat) : Int) = true := by
  by_cases q : szOf ((c + 1 : Nat) : Int) ((a + 1 : Nat) : Int) ((max (c + 1) (a + 1) : Nat) : Int) = true
  · exact q
  · have z := sz_iff.mp (eq_false_of_ne_true q)
    exfalso
    by_cases h1 : c < a
    · have hm : max (c + 1) (a + 1) = a + 1 := by omega
      rw [hm] at z
      have h5 : a + 1 ≤ c + 1 := Nat.le_of_dvd (Nat.succ_pos c) (z.mpr (Nat.dvd_refl _)).2
      omega
    · have hm : max (c + 1) (a + 1) = c + 1 := by omega
      rw [hm] at z
      have h5 : c + 1 ≤ a + 1 := Nat.le_of_dvd (Nat.succ_pos a) (z.mp ⟨Nat.succ_pos _, Nat.dvd_refl _⟩)
      omega
theorem one_not_less (a : Nat) (R : List Nat) (l : Nat) {b : Bool} (hb : LessIs (wsN (a :: R) l) (wsN ((a + 1) :: R) l) b) : b = false := by
  have hl := long_ge (cl := (a + 1) :: R) (l := l) (.head _)
  cases hb with
  | short => rfl
  | simple _ _ h2 =>
    have := (cnt_len_ge (a + 1) ((a + 1) :: R) []).2 (.head _)
    have h3 : ((((a + 1) :: R).foldl addN []).length : Int) ≤ 1 := h2
    omega
  | no => rfl
  | yes _ h2 =>
    have h3 := h2 ((a + 2 : Nat) : Int) (by omega) (by omega)
    rw [lv_ws, lv_ws, lv_grow, if_neg (fun z => by have := Nat.le_of_dvd (Nat.succ_pos _) z; omega)] at h3
    omega
end Mine

-- PC
section
open PySem.NumText PySem.W.KIN
namespace Mine
theorem flat_plain {T : List (Nat × List Nat)} {l : List Nat} (h : ∀ c ∈ l, spell T c = [c]) : flat T l = l := by
  induction l with
  | nil => rfl
  | cons a r ih =>
    show spell T a ++ flat T r = _
    rw [h a (.head _), ih fun c hc => h c (.tail _ hc)]
    rfl
theorem tl_flat (T : List (Nat × List Nat)) (x : Str) : tl (flatS T x) = flat T (tl x) := rfl
theorem head3 {x : Str} {a b c : Nat} {r : List Nat} (h : tl x = a :: b :: c :: r) : Txt.slice x none (some 3) = mk [a, b, c] := by
  apply tl_inj
  have := slice_to (x := x) (j := 3) (by rw [h]; simp only [List.length_cons]; omega)
  rw [show ((3 : Nat) : Int) = 3 from rfl] at this
  rw [this, h]; rfl
theorem last_snocL {α : Type} (l : List α) (a d : α) : (l ++ [a]).getD ((l ++ [a]).length - 1) d = a := by
  rw [List.getD_eq_getElem?_getD, List.length_append]
  simp
theorem r229_body {x : Str} {m : Nat} {body : List Nat} {z : Nat} (hx : tl x = 50 :: 50 :: 57 :: 32 :: 40 :: ((m :: body) ++ 41 :: [])) (h41 : 41 ∉ m :: body) (hz : (m :: body).getLast? = some z) :
    r229 x = if z ≠ m then .proto else if (splitL m (m :: body)).length ≠ 5 then .proto else
      match (splitL m (m :: body))[3]? with | some y => (match PySem.intText? (mk y) with | some n => .ok n | none => .value) | none => .proto := by
  have el : Str.ofString "(" = ⟨#[40]⟩ := by decide +kernel
  have er : Str.ofString ")" = ⟨#[41]⟩ := by decide +kernel
  have hlen : (tl x).length = 5 + (body.length + 1) + 1 := by rw [hx]; simp only [List.length_cons, List.length_append, List.length_nil]; omega
  have h1 : Txt.slice x none (some 3) = mk [50, 50, 57] := head3 hx
  have f1 : Txt.find x (Str.ofString "(") = 4 := by
    rw [el]
    exact find_at (a := [50, 50, 57, 32]) (b := (m :: body) ++ 41 :: []) hx (by decide)
  have e5 : Txt.find x (Str.ofString "(") + 1 = ((5 : Nat) : Int) := by rw [f1]; rfl
  have f2 : Txt.find3 x (Str.ofString ")") (Txt.find x (Str.ofString "(") + 1) = ((5 + (body.length + 1) : Nat) : Int) := by
    rw [e5, er]
    refine find3_at (a := [50, 50, 57, 32, 40] ++ (m :: body)) (b := []) (i := 5) (by rw [hx]; rfl) (by simp) (by simp; omega) ?_
    rw [List.drop_append_of_le_length (by decide)]
    exact h41
  have i1 : Txt.item x (Txt.find x (Str.ofString "(") + 1) = ⟨#[m]⟩ := by
    rw [e5]
    exact item_eq (by rw [hx]; rfl)
  have i2 : Txt.item x (Txt.find3 x (Str.ofString ")") (Txt.find x (Str.ofString "(") + 1) - 1) = ⟨#[z]⟩ := by
    rw [f2, show ((5 + (body.length + 1) : Nat) : Int) - 1 = ((5 + body.length : Nat) : Int) from by omega]
    refine item_eq ?_
    rw [hx, ← hz, List.getLast?_eq_getElem?]
    show (50 :: 50 :: 57 :: 32 :: 40 :: ((m :: body) ++ 41 :: []))[5 + body.length]? = _
    rw [show 5 + body.length = body.length + 1 + 1 + 1 + 1 + 1 from by omega]
    simp only [List.getElem?_cons_succ]
    rw [List.getElem?_append_left (by simp)]
    rfl
  have pp : (parts229 x).map tl = splitL m (m :: body) := by
    unfold parts229
    rw [i1, split_eq, f2, e5, slice_eq (by omega) (by omega), hx]
    congr 1
    show List.take (5 + (body.length + 1) - 5) ((m :: body) ++ 41 :: []) = m :: body
    rw [show 5 + (body.length + 1) - 5 = (m :: body).length from by simp]
    exact List.take_left
  have pl : (parts229 x).length = (splitL m (m :: body)).length := by rw [← pp, List.length_map]
  have c1 : (Txt.slice x none (some 3) != Str.ofString "229") = false := by rw [h1]; decide +kernel
  have c2 : ¬ Txt.find x (Str.ofString "(") < 0 := by rw [f1]; decide
  have c3 : ¬ Txt.find3 x (Str.ofString ")") (Txt.find x (Str.ofString "(") + 1) < 0 := by rw [f2]; omega
  unfold r229
  rw [if_neg (ne_tt c1), if_neg c2, if_neg c3, i1, i2]
  by_cases q : z = m
  · subst q
    have g : ¬ ((⟨#[z]⟩ : Str) != ⟨#[z]⟩) = true := by simp
    rw [if_neg g, if_neg (fun n => n rfl : ¬ z ≠ z)]
    by_cases q2 : (splitL z (z :: body)).length = 5
    · rw [if_neg (by omega : ¬ ((parts229 x).length : Int) ≠ 5), if_neg (fun n => n q2 : ¬ (splitL z (z :: body)).length ≠ 5), ← pp, List.getElem?_map]
      cases (parts229 x)[3]? <;> rfl
    · rw [if_pos (by omega : ((parts229 x).length : Int) ≠ 5), if_pos q2]
  · have : ((⟨#[m]⟩ : Str) != ⟨#[z]⟩) = true := by
      rw [bne_iff_ne]
      intro e
      exact q (by injection e with e; injection e with e; injection e with e; exact e.symm)
    rw [if_pos this, if_pos q]
/-! the port's text -/
theorem digits_word {n : Int} (h0 : 0 ≤ n) (h1 : n < 10 ^ 10) : AllDigits (tl (wordOf n)) ∧ tl (wordOf n) ≠ [] ∧ PySem.intText? (wordOf n) = some n := by
  have hr := num_reads h0 h1
  obtain ⟨m, rfl⟩ := Int.eq_ofNat_of_zero_le h0
  have hd : AllDigits (tl (wordOf ((m : Nat) : Int))) := by
    intro c hc
    have hc : c ∈ (Nat.toDigits 10 m).map Char.toNat := signs_num m ▸ hc
    obtain ⟨ch, hch, e⟩ := List.mem_map.mp hc
    rw [← e]
    exact digit_range (Nat.isDigit_of_mem_toDigits (by decide) (by decide) hch)
  refine ⟨hd, ?_, hr⟩
  intro e
  have e2 : (Nat.toDigits 10 m).map Char.toNat = [] := (signs_num m).symm.trans e
  have h := toDigits_len_ge 10 m
  rw [List.map_eq_nil_iff.mp e2] at h
  exact absurd h (by decide)
theorem seen_ascii {l : List Nat} (h : ∀ c ∈ l, 0 < c ∧ c < 128) : numTextOf (mk l) = l ∧ numSeenOf (mk l) = l := by
  have e1 : numTextOf (mk l) = l := by
    refine if_pos ?_
    rw [← Array.all_toList, List.all_eq_true]
    exact fun c hc => decide_eq_true (h c hc).2
  refine ⟨e1, ?_⟩
  show (numTextOf (mk l)).takeWhile _ = _
  rw [e1]
  exact takeWhile_all fun c hc => bne_iff_ne.mpr (by have := (h c hc).1; omega)
theorem int_ascii {l : List Nat} (h : ∀ c ∈ l, 0 < c ∧ c < 128) : PySem.intText? (mk l) = match digits? 10 (core l) with
      | some ds => if ds.size ≤ 4300 then some (worth (sign (l.dropWhile blank)).1 ds) else none
      | none => none := by
  obtain ⟨e1, e2⟩ := seen_ascii h
  unfold PySem.intText?
  rw [e1, e2]
  exact if_pos (beq_self_eq_true _)
theorem int_white {w : Nat} {l : List Nat} (hw : blank w = true) (hw2 : 0 < w ∧ w < 128) (h : ∀ c ∈ l, 0 < c ∧ c < 128) : PySem.intText? (mk (w :: l)) = PySem.intText? (mk l) := by
  have e : (w :: l).dropWhile blank = l.dropWhile blank := by rw [List.dropWhile_cons, if_pos hw]
  rw [int_ascii h, int_ascii (List.forall_mem_cons.mpr ⟨hw2, h⟩)]
  unfold core
  rw [e]
theorem int_amp {l : List Nat} (h : ∀ c ∈ 38 :: l, 0 < c ∧ c < 128) : PySem.intText? (mk (38 :: l)) = none := by
  rw [int_ascii h]
  have e : (38 :: l).dropWhile blank = 38 :: l := by rw [List.dropWhile_cons, if_neg (by decide)]
  have es : sign (38 :: l) = (false, 38 :: l) := by unfold sign; rfl
  have hc : ∃ r, core (38 :: l) = 38 :: r := by
    unfold core
    rw [e, es]
    show ∃ r, ((38 :: l).reverse.dropWhile blank).reverse = 38 :: r
    rw [List.reverse_cons]
    have key : ∀ q : List Nat, ∃ r, ((q ++ [38]).dropWhile blank).reverse = 38 :: r := by
      intro q
      induction q with
      | nil => exact ⟨[], by rw [List.nil_append, List.dropWhile_cons, if_neg (by decide)]; rfl⟩
      | cons a q ih =>
        rw [List.cons_append, List.dropWhile_cons]
        split
        · exact ih
        · exact ⟨q.reverse ++ [a], by simp⟩
    exact key _
  obtain ⟨r, hr⟩ := hc
  rw [hr]
  have hd : digits? 10 (38 :: r) = none := by
    unfold digits?
    rw [List.foldlM_cons]
    rfl
  rw [hd]
end Mine

end
-- PD
section
open PySem.NumText
namespace Mine
noncomputable abbrev hands : List Int := [0, 1, 2, 3, 4]
noncomputable abbrev MKS : List Nat := [124, 59, 34, 60, 38, 33]
noncomputable abbrev SGS : List Nat := [97, 34, 38, 32, 60, 9]
theorem mod_nat {d k : Int} (hk : 0 < k) : ∃ i : Nat, (i : Int) < k ∧ Int.fmod d k = i := by
  have h0 := Int.fmod_nonneg_of_pos d hk
  have h1 := Int.fmod_lt_of_pos d hk
  obtain ⟨i, e⟩ := Int.eq_ofNat_of_zero_le h0
  exact ⟨i, by omega, e⟩
theorem mark_is (d : Int) : ∃ m ∈ MKS, markS d = ⟨#[m]⟩ := by
  obtain ⟨i, hi, e⟩ := mod_nat (d := d) (k := 6) (by decide)
  have hi : i < MKS.length := by show i < 6; omega
  refine ⟨MKS[i], List.getElem_mem hi, ?_⟩
  unfold markS
  rw [e]
  refine item_eq ?_
  rw [show tl (Str.ofString "|;\"<&!") = MKS from by decide +kernel]
  exact List.getElem?_eq_getElem hi
theorem sign_is (d st : Int) : ∃ c ∈ SGS, signOf d st = ⟨#[c]⟩ := by
  obtain ⟨i, hi, e⟩ := mod_nat (d := Int.fdiv d st) (k := 6) (by decide)
  have hi : i < SGS.length := by show i < 6; omega
  refine ⟨SGS[i], List.getElem_mem hi, ?_⟩
  unfold signOf
  rw [e]
  refine item_eq ?_
  rw [show tl (Str.ofString "a\"& <\t") = SGS from by decide +kernel]
  exact List.getElem?_eq_getElem hi
theorem white_is (d : Int) : whiteS d ∈ whites := by
  obtain ⟨i, hi, e⟩ := mod_nat (d := Int.fdiv d 6) (k := 4) (by decide)
  have hi : i < whites.length := by show i < 4; omega
  unfold whiteS
  rw [e, Int.toNat_natCast, List.getD_eq_getElem?_getD, List.getElem?_eq_getElem hi]
  exact List.getElem_mem hi
/-! the tables, looked up -/
noncomputable def plainC : List Nat := [50, 53, 55, 57, 32, 40, 41, 48, 49, 51, 52, 54, 56]
theorem plain_tab : ∀ h ∈ hands, ∀ c ∈ plainC, spell (spOf h) c = [c] := by decide +kernel
noncomputable def okMark (h : Int) (m : Nat) : Bool := let s := spell (spOf h) m
  if hasT (tabOf h) ⟨#[m]⟩ then s.head? == some 38 && s.getLast? == some 59 && !s.contains 41 else s == [m]
theorem mark_tab : ∀ h ∈ hands, ∀ m ∈ MKS, okMark h m = true := by decide +kernel
noncomputable def okWhite (h : Int) (w : Str) : Bool := let s := flat (spOf h) (tl w)
  if hasT (tabOf h) w then s == s.dropLast ++ [59] && s.head? == some 38 && !s.dropLast.contains 59 && [124, 34, 33, 60, 41].all (fun m => !s.contains m) && s.all (fun c => decide (0 < c ∧ c < 128)) && !s.contains 38 == false && h != 4
  else s == tl w && (tl w == [] || tl w == [32] || tl w == [9] || tl w == [13])
theorem white_tab : ∀ h ∈ hands, ∀ w ∈ whites, okWhite h w = true := by decide +kernel
theorem dig_plain {h : Int} (hh : h ∈ hands) {l : List Nat} (hl : AllDigits l) : flat (spOf h) l = l :=
  flat_plain fun c hc => plain_tab h hh c (by
    obtain ⟨h1, h2⟩ := hl c hc
    have : ∀ c : Nat, c < 58 → 48 ≤ c → c ∈ plainC := by decide
    exact this c (by omega) h1)
theorem ans229 {x host : Str} {r : List Nat} (hx : tl x = 50 :: 50 :: 57 :: r) : ansD x host = (match r229 x with | .reply => .int 0 | .proto => .int 1 | .value => .int 2 | .ok n => .tuple [.str host, .int n]) := by
  have c : (Txt.slice x none (some 3) != Str.ofString "257") = true := by rw [head3 hx]; decide +kernel
  unfold ansD
  rw [if_pos c]
  all_goals (cases r229 x <;> rfl)
theorem tl_mul (m : Nat) (n : Int) : tl (Txt.mul ⟨#[m]⟩ n) = List.replicate n.toNat m := mul_one_list m n
theorem tl_one (m : Nat) : tl ⟨#[m]⟩ = [m] := rfl
theorem splitL_self (m : Nat) (r : List Nat) : splitL m (m :: r) = [] :: splitL m r := by rw [splitL, if_pos rfl]
theorem tl_229 {h : Int} (hh : h ∈ hands) {x y : Str} (hx : x = Str.ofString "229 (" ++ y ++ Str.ofString ")") : tl (flatS (spOf h) x) = 50 :: 50 :: 57 :: 32 :: 40 :: (flat (spOf h) (tl y) ++ 41 :: []) := by
  rw [tl_flat, hx, tl_app, tl_app, flat_app, flat_app, show tl (Str.ofString "229 (") = [50, 50, 57, 32, 40] from by decide +kernel, show tl (Str.ofString ")") = [41] from by decide +kernel,
    flat_plain (fun c hc => plain_tab h hh c (by revert c; decide)), flat_plain (l := [41]) (fun c hc => plain_tab h hh c (by revert c; decide))]
  rfl
theorem spelled {h : Int} (hh : h ∈ hands) {m : Nat} (hm : m ∈ MKS) (ht : hasT (tabOf h) ⟨#[m]⟩ = true) : ∃ t, spell (spOf h) m = 38 :: t ∧ (spell (spOf h) m).getLast? = some 59 ∧ 41 ∉ spell (spOf h) m := by
  have := mark_tab h hh m hm
  unfold okMark at this
  simp only [ht, if_true, Bool.and_eq_true, beq_iff_eq, Bool.not_eq_true', List.contains_eq_mem, decide_eq_false_iff_not] at this
  obtain ⟨⟨h1, h2⟩, h3⟩ := this
  cases e : spell (spOf h) m with
  | nil => rw [e] at h1; cases h1
  | cons a t =>
    rw [e] at h1 h2 h3
    obtain rfl := Option.some.inj h1
    exact ⟨t, rfl, h2, h3⟩
theorem unspelled {h : Int} (hh : h ∈ hands) {m : Nat} (hm : m ∈ MKS) (ht : hasT (tabOf h) ⟨#[m]⟩ = false) : spell (spOf h) m = [m] := by
  have := mark_tab h hh m hm
  unfold okMark at this
  simpa only [ht, Bool.false_eq_true, if_false, beq_iff_eq] using this
theorem mk41 {m : Nat} (hm : m ∈ MKS) : m ≠ 41 ∧ ∀ c, 48 ≤ c → c ≤ 57 → c ≠ m := by
  revert m
  have : ∀ m ∈ MKS, m ≠ 41 ∧ ∀ c : Nat, c < 58 → 48 ≤ c → c ≠ m := by decide
  exact fun {m} hm => ⟨(this m hm).1, fun c h1 h2 => (this m hm).2 c (by omega) h1⟩
theorem dig_free {m : Nat} {l : List Nat} (hl : AllDigits l) (h : ∀ c, 48 ≤ c → c ≤ 57 → c ≠ m) : m ∉ l := fun q => h m (hl m q).1 (hl m q).2 rfl
theorem body_spelled {x : Str} {t mid : List Nat} {s : List Nat} (hs : s = 38 :: t) (hl : s.getLast? = some 59) (h41 : 41 ∉ s) (hm : 41 ∉ mid) (hx : tl x = 50 :: 50 :: 57 :: 32 :: 40 :: ((s ++ mid ++ s) ++ 41 :: [])) : r229 x = .proto := by
  have e : s ++ mid ++ s = 38 :: (t ++ mid ++ s) := by rw [hs]; rfl
  rw [e] at hx
  rw [r229_body hx (z := 59), if_pos (by decide)]
  · rw [← e]
    simp only [List.mem_append, not_or]
    exact ⟨⟨h41, hm⟩, h41⟩
  · rw [← e, List.getLast?_append, hl]; rfl
theorem body_plain {x : Str} {m : Nat} {mid : List Nat} (hm : m ≠ 41) (h41 : 41 ∉ mid) (hx : tl x = 50 :: 50 :: 57 :: 32 :: 40 :: (([m] ++ mid ++ [m]) ++ 41 :: [])) :
    r229 x = if (splitL m (mid ++ [m])).length ≠ 4 then .proto else match (splitL m (mid ++ [m]))[2]? with | some y => (match PySem.intText? (mk y) with | some n => .ok n | none => .value) | none => .proto := by
  have e : [m] ++ mid ++ [m] = m :: (mid ++ [m]) := rfl
  rw [e] at hx
  rw [r229_body hx (z := m), if_neg (fun n => n rfl : ¬ m ≠ m), splitL_self]
  · by_cases q : (splitL m (mid ++ [m])).length = 4
    · rw [if_neg (fun n => n (by rw [List.length_cons, q])), if_neg (fun n => n q)]; rfl
    · rw [if_pos (fun n => q (by rw [List.length_cons] at n; omega)), if_pos q]
  · simp only [List.mem_cons, List.mem_append, List.not_mem_nil, or_false, not_or]
    exact ⟨Ne.symm hm, h41, Ne.symm hm⟩
  · rw [← List.cons_append, List.getLast?_append]; rfl
theorem splitL_two (m : Nat) {a : List Nat} (h : m ∉ a) : splitL m (a ++ [m]) = [a, []] := by rw [splitL_cons h]; rfl
section
variable {h : Int} (hh : h ∈ hands) {d : Int} (h0 : 0 ≤ d) (h1 : d < 1000000) {host : Str}
include hh h0 h1
theorem port_ok : AllDigits (tl (wordOf (Int.fdiv d 24))) ∧ tl (wordOf (Int.fdiv d 24)) ≠ [] ∧ PySem.intText? (wordOf (Int.fdiv d 24)) = some (Int.fdiv d 24) :=
  digits_word (by rw [Int.fdiv_eq_ediv_of_nonneg d (by decide)]; omega) (by rw [Int.fdiv_eq_ediv_of_nonneg d (by decide)]; omega)
theorem ans2 : ansD (flatS (spOf h) (R2 d)) host = .int 1 := by
  obtain ⟨m, hm, em⟩ := mark_is d
  obtain ⟨hd, hn, _⟩ := port_ok hh h0 h1
  obtain ⟨m1, m2⟩ := mk41 hm
  have hx : tl (flatS (spOf h) (R2 d)) = 50 :: 50 :: 57 :: 32 :: 40 :: ((spell (spOf h) m ++ (spell (spOf h) m ++ tl (wordOf (Int.fdiv d 24))) ++ spell (spOf h) m) ++ 41 :: []) := by
    rw [tl_229 hh (y := Txt.mul (markS d) 2 ++ wordOf (Int.fdiv d 24) ++ markS d) (by unfold R2; apply tl_inj; simp only [tl_app, List.append_assoc])]
    rw [tl_app, tl_app, em, tl_mul, tl_one, flat_app, flat_app, dig_plain hh hd]
    show _ :: _ :: _ :: _ :: _ :: ((spell (spOf h) m ++ (spell (spOf h) m ++ []) ++ _ ++ (spell (spOf h) m ++ [])) ++ _) = _
    simp only [List.append_nil, List.append_assoc]
  rw [ans229 hx]
  have d41 : 41 ∉ tl (wordOf (Int.fdiv d 24)) := dig_free hd (by omega)
  cases ht : hasT (tabOf h) ⟨#[m]⟩ with
  | true =>
    obtain ⟨t, e1, e2, e3⟩ := spelled hh hm ht
    rw [body_spelled e1 e2 e3 (by simp only [List.mem_append, not_or]; exact ⟨e3, d41⟩) hx]
  | false =>
    rw [unspelled hh hm ht] at hx
    have e : splitL m (([m] ++ tl (wordOf (Int.fdiv d 24))) ++ [m]) = [[], tl (wordOf (Int.fdiv d 24)), []] := by
      show splitL m (m :: (tl (wordOf (Int.fdiv d 24)) ++ [m])) = _
      rw [splitL_self, splitL_two m (dig_free hd m2)]
    rw [body_plain m1 (by simp only [List.mem_append, List.mem_singleton, not_or]; exact ⟨Ne.symm m1, d41⟩) hx, e, if_pos (by simp)]
theorem ans1 : ansD (flatS (spOf h) (R1 d)) host = (replyD 1 d (tabOf h) host).2 := by
  obtain ⟨m, hm, em⟩ := mark_is d
  have hw := white_is d
  obtain ⟨hd, hn, hp⟩ := port_ok hh h0 h1
  obtain ⟨m1, m2⟩ := mk41 hm
  have hx : tl (flatS (spOf h) (R1 d)) = 50 :: 50 :: 57 :: 32 :: 40 :: ((spell (spOf h) m ++ (spell (spOf h) m ++ (spell (spOf h) m ++ (flat (spOf h) (tl (whiteS d)) ++ tl (wordOf (Int.fdiv d 24))))) ++ spell (spOf h) m) ++ 41 :: []) := by
    rw [tl_229 hh (y := Txt.mul (markS d) 3 ++ whiteS d ++ wordOf (Int.fdiv d 24) ++ markS d) (by unfold R1; apply tl_inj; simp only [tl_app, List.append_assoc])]
    rw [tl_app, tl_app, tl_app, em, tl_mul, tl_one, flat_app, flat_app, flat_app, dig_plain hh hd]
    show _ :: _ :: _ :: _ :: _ :: ((spell (spOf h) m ++ (spell (spOf h) m ++ (spell (spOf h) m ++ [])) ++ _ ++ _ ++ (spell (spOf h) m ++ [])) ++ _) = _
    simp only [List.append_nil, List.append_assoc]
  rw [ans229 hx]
  have d41 : 41 ∉ tl (wordOf (Int.fdiv d 24)) := dig_free hd (by omega)
  have hwt := white_tab h hh _ hw
  have w41 : 41 ∉ flat (spOf h) (tl (whiteS d)) := by
    unfold okWhite at hwt
    intro q
    cases hq : hasT (tabOf h) (whiteS d) with
    | true =>
      simp only [hq, if_true, Bool.and_eq_true, List.all_eq_true] at hwt
      have := hwt.1.1.1.2 41 (by decide)
      rw [List.contains_eq_mem, decide_eq_true q] at this
      cases this
    | false =>
      simp only [hq, Bool.false_eq_true, if_false, Bool.and_eq_true, beq_iff_eq, Bool.or_eq_true] at hwt
      rw [hwt.1] at q
      rcases hwt.2 with ((e | e) | e) | e <;> rw [e] at q <;> revert q <;> decide
  cases ht : hasT (tabOf h) ⟨#[m]⟩ with
  | true =>
    obtain ⟨t, e1, e2, e3⟩ := spelled hh hm ht
    rw [body_spelled e1 e2 e3 (by simp only [List.mem_append, not_or]; exact ⟨e3, e3, w41, d41⟩) hx, rep1a rfl (by rw [em]; exact ht)]
  | false =>
    rw [unspelled hh hm ht] at hx
    rw [body_plain m1 (by simp only [List.mem_append, List.mem_singleton, not_or]; exact ⟨Ne.symm m1, Ne.symm m1, w41, d41⟩) hx]
    have e0 : ∀ r, splitL m (([m] ++ ([m] ++ r)) ++ [m]) = [] :: [] :: splitL m (r ++ [m]) := fun r => by
      show splitL m (m :: (m :: (r ++ [m]))) = _
      rw [splitL_self, splitL_self]
    rw [e0]
    unfold okWhite at hwt
    cases hq : hasT (tabOf h) (whiteS d) with
    | true =>
      simp only [hq, if_true, Bool.and_eq_true, List.all_eq_true, beq_iff_eq, Bool.not_eq_true', List.contains_eq_mem, decide_eq_false_iff_not, decide_eq_true_eq] at hwt
      obtain ⟨⟨⟨⟨⟨⟨w1, w2⟩, w3⟩, w4⟩, w5⟩, _⟩, w6⟩ := hwt
      by_cases q : m = 59
      · subst q
        have e1 : (flat (spOf h) (tl (whiteS d)) ++ tl (wordOf (Int.fdiv d 24))) ++ [59] = (flat (spOf h) (tl (whiteS d))).dropLast ++ 59 :: (tl (wordOf (Int.fdiv d 24)) ++ [59]) := by
          rw [w1, List.dropLast_concat]
          simp only [List.append_assoc, List.cons_append, List.nil_append]
        rw [e1, splitL_cons w3, splitL_two 59 (dig_free hd m2), if_pos (by simp), rep1b rfl (by rw [em]; decide +kernel) hq]
      · have hsem : (markS d == Str.ofString ";") = false := by
          rw [em, show Str.ofString ";" = ⟨#[59]⟩ from by decide +kernel, beq_eq_false_iff_ne]
          intro e
          exact q (by injection e with e; injection e with e; injection e with e)
        have mf : m ∉ flat (spOf h) (tl (whiteS d)) := by
          have : ∀ m ∈ MKS, m ≠ 59 → m ∈ [124, 34, 33, 60, 41] ∨ m = 38 := by decide
          rcases this m hm q with e | rfl
          · exact w4 m e
          · have : ∀ h ∈ hands, hasT (tabOf h) ⟨#[38]⟩ = true := by decide +kernel
            rw [this h hh] at ht; cases ht
        rw [splitL_two m (fun z => (List.mem_append.mp z).elim mf (dig_free hd m2)), if_neg (by simp), rep1d rfl (by rw [em]; exact ht) hsem hq]
        obtain ⟨t, et⟩ : ∃ t, flat (spOf h) (tl (whiteS d)) = 38 :: t := by
          cases e : flat (spOf h) (tl (whiteS d)) with
          | nil => rw [e] at w2; cases w2
          | cons a t => rw [e] at w2; obtain rfl := Option.some.inj w2; exact ⟨t, rfl⟩
        show (match (match PySem.intText? (mk (flat (spOf h) (tl (whiteS d)) ++ tl (wordOf (Int.fdiv d 24)))) with | some n => A229.ok n | none => A229.value) with | .reply => Dat.int 0 | .proto => .int 1 | .value => .int 2 | .ok n => .tuple [.str host, .int n]) = _
        rw [et] at w5 ⊢
        rw [List.cons_append, int_amp (fun c hc => ?_)]
        rw [← List.cons_append] at hc
        rcases List.mem_append.mp hc with hc | hc
        · exact w5 c hc
        · have := hd c hc; omega
    | false =>
      simp only [hq, Bool.false_eq_true, if_false, Bool.and_eq_true, beq_iff_eq, Bool.or_eq_true] at hwt
      obtain ⟨w1, w2⟩ := hwt
      have mf : m ∉ flat (spOf h) (tl (whiteS d)) := by
        rw [w1]
        have : ∀ m ∈ MKS, m ∉ [32] ∧ m ∉ [9] ∧ m ∉ [13] := by decide
        obtain ⟨z1, z2, z3⟩ := this m hm
        rcases w2 with ((e | e) | e) | e <;> rw [e]
        · exact List.not_mem_nil
        · exact z1
        · exact z2
        · exact z3
      rw [splitL_two m (fun z => (List.mem_append.mp z).elim mf (dig_free hd m2)), if_neg (by simp), rep1c rfl (by rw [em]; exact ht) hq]
      show (match (match PySem.intText? (mk (flat (spOf h) (tl (whiteS d)) ++ tl (wordOf (Int.fdiv d 24)))) with | some n => A229.ok n | none => A229.value) with | .reply => Dat.int 0 | .proto => .int 1 | .value => .int 2 | .ok n => .tuple [.str host, .int n]) = _
      have hi : PySem.intText? (mk (tl (whiteS d) ++ tl (wordOf (Int.fdiv d 24)))) = some (Int.fdiv d 24) := by
        have asc : ∀ c ∈ tl (wordOf (Int.fdiv d 24)), 0 < c ∧ c < 128 := fun c hc => by have := hd c hc; omega
        rcases w2 with ((e | e) | e) | e <;> rw [e]
        · exact hp
        · exact (int_white (w := 32) rfl (by decide) asc).trans hp
        · exact (int_white (w := 9) rfl (by decide) asc).trans hp
        · exact (int_white (w := 13) rfl (by decide) asc).trans hp
      rw [w1, hi]
end
theorem flat_cons (T : List (Nat × List Nat)) (a : Nat) (l : List Nat) : flat T (a :: l) = spell T a ++ flat T l := rfl
theorem flat_nilL (T : List (Nat × List Nat)) : flat T [] = [] := rfl
/-! 257 -/
theorem scan_signs {T : List (Nat × List Nat)} (h34 : spell T 34 = [34]) (r : List Nat) : ∀ cs : List Nat, (∀ c ∈ cs, c ≠ 34 → 34 ∉ spell T c) → scanQ (flat T (repL 34 [34, 34] cs) ++ 34 :: 32 :: r) = cs.flatMap (spell T)
  | [], _ => by
    show scanS false (34 :: 32 :: r) = []
    rw [scanS, if_pos rfl, scanS, if_neg (by decide)]
  | c :: cs, hc => by
    have ih := scan_signs h34 r cs fun d hd => hc d (.tail _ hd)
    by_cases e : c = 34
    · subst e
      have e1 : flat T (repL 34 [34, 34] (34 :: cs)) = 34 :: 34 :: flat T (repL 34 [34, 34] cs) := by
        show flat T ((if (34 : Nat) = 34 then [34, 34] else [34]) ++ repL 34 [34, 34] cs) = _
        rw [if_pos rfl, flat_app]
        show (spell T 34 ++ (spell T 34 ++ [])) ++ _ = _
        rw [h34]; rfl
      rw [e1, List.flatMap_cons, h34]
      show scanS false (34 :: 34 :: _) = _
      rw [scanS, if_pos rfl, scanS, if_pos rfl]
      exact congrArg (34 :: ·) ih
    · have e1 : flat T (repL 34 [34, 34] (c :: cs)) = spell T c ++ flat T (repL 34 [34, 34] cs) := by
        show flat T ((if c = 34 then [34, 34] else [c]) ++ repL 34 [34, 34] cs) = _
        rw [if_neg e, flat_app]
        show (spell T c ++ []) ++ _ = _
        rw [List.append_nil]
      rw [e1, List.flatMap_cons, List.append_assoc]
      have pass : ∀ l : List Nat, 34 ∉ l → ∀ q, scanQ (l ++ q) = l ++ scanQ q := by
        intro l
        induction l with
        | nil => exact fun _ q => rfl
        | cons a l ih =>
          intro hl q
          rw [List.cons_append, scanQ_plain (fun z => hl (z ▸ .head _)), ih (fun z => hl (.tail _ z))]; rfl
      rw [pass _ (hc c (.head _) e), ih]
noncomputable def okSign (h : Int) (c : Nat) : Bool := (if h = 0 ∨ h = 1 then spell (spOf h) 34 == [34] && (c == 34 || !(spell (spOf h) c).contains 34) && tl (getT (tabOf h) ⟨#[c]⟩) == spell (spOf h) c && !hasT (tabOf h) (Str.ofString "\"") else (spell (spOf h) 34).head? == some 38 && hasT (tabOf h) (Str.ofString "\""))
theorem sign_tab : ∀ h ∈ hands, ∀ c ∈ SGS, okSign h c = true := by decide +kernel
theorem join_tl : ∀ l : List Str, tl (Txt.join (Str.ofString "") l) = (l.map tl).flatten := by
  have e0 : Str.ofString "" = ⟨#[]⟩ := by decide +kernel
  have key : ∀ l : List Str, tl (Str.join (⟨#[]⟩ : Str) l) = (l.map tl).flatten := by
    intro l
    induction l with
    | nil => rfl
    | cons a r ih =>
      cases r with
      | nil => show tl a = tl a ++ []; rw [List.append_nil]
      | cons b r =>
        show tl (a ++ ⟨#[]⟩ ++ Str.join ⟨#[]⟩ (b :: r)) = _
        rw [tl_app, tl_app, ih]
        show tl a ++ [] ++ _ = _
        rw [List.append_nil]; rfl
  intro l
  rw [e0, ← key l]
  exact congrArg tl (StrLaws.glued_eq_join _ _)
theorem ans0 {h : Int} (hh : h ∈ hands) (d : Int) {host : Str} : ansD (flatS (spOf h) (R0 d)) host = (replyD 0 d (tabOf h) host).2 := by
  obtain ⟨c1, m1, e1⟩ := sign_is d 1
  obtain ⟨c2, m2, e2⟩ := sign_is d 6
  obtain ⟨c3, m3, e3⟩ := sign_is d 36
  have hs : signsS d = [⟨#[c1]⟩, ⟨#[c2]⟩, ⟨#[c3]⟩] := by
    unfold signsS
    simp only [List.map_cons, List.map_nil, e1, e2, e3]
  have t1 := sign_tab h hh c1 m1
  have t2 := sign_tab h hh c2 m2
  have t3 := sign_tab h hh c3 m3
  have hj : tl (Txt.replace (Txt.join (Str.ofString "") (signsS d)) (Str.ofString "\"") (Str.ofString "\"\"")) = repL 34 [34, 34] [c1, c2, c3] := by
    rw [show Str.ofString "\"" = ⟨#[34]⟩ from by decide +kernel, rep_eq, join_tl, hs, show tl (Str.ofString "\"\"") = [34, 34] from by decide +kernel]
    rfl
  have hx : tl (flatS (spOf h) (R0 d)) = 50 :: 53 :: 55 :: 32 :: (spell (spOf h) 34 ++ (flat (spOf h) (repL 34 [34, 34] [c1, c2, c3]) ++ (spell (spOf h) 34 ++ 32 :: flat (spOf h) [109, 97, 100, 101]))) := by
    have p := plain_tab h hh
    rw [tl_flat]
    unfold R0
    rw [tl_app, tl_app, hj, show tl (Str.ofString "257 \"") = [50, 53, 55, 32, 34] from by decide +kernel, show tl (Str.ofString "\" made") = [34, 32, 109, 97, 100, 101] from by decide +kernel, flat_app, flat_app]
    have e7 : flat (spOf h) [50, 53, 55, 32, 34] = 50 :: 53 :: 55 :: 32 :: spell (spOf h) 34 := by
      simp only [flat_cons, flat_nilL, p 50 (by decide), p 53 (by decide), p 55 (by decide), p 32 (by decide), List.append_nil, List.cons_append, List.nil_append]
    have e8 : flat (spOf h) [34, 32, 109, 97, 100, 101] = spell (spOf h) 34 ++ 32 :: flat (spOf h) [109, 97, 100, 101] := by
      rw [flat_cons, flat_cons, p 32 (by decide)]; rfl
    rw [e7, e8]
    simp only [List.append_assoc, List.cons_append]
  have h3 : ¬ (Txt.slice (flatS (spOf h) (R0 d)) none (some 3) != Str.ofString "257") = true := by rw [head3 hx]; decide +kernel
  have h5 := slice_eq (x := flatS (spOf h) (R0 d)) (i := 3) (j := 5) (by decide) (by
    rw [hx]
    have : (spell (spOf h) 34).length ≠ 0 := by
      have : ∀ h ∈ hands, (spell (spOf h) 34).length ≠ 0 := by decide
      exact this h hh
    simp only [List.length_cons, List.length_append]; omega)
  rw [show ((3 : Nat) : Int) = 3 from rfl, show ((5 : Nat) : Int) = 5 from rfl] at h5
  rw [hx] at h5
  unfold ansD
  rw [if_neg h3]
  unfold r257
  unfold okSign at t1 t2 t3
  by_cases q : h = 0 ∨ h = 1
  · simp only [if_pos q, Bool.and_eq_true, Bool.or_eq_true, beq_iff_eq, Bool.not_eq_true', List.contains_eq_mem, decide_eq_false_iff_not] at t1 t2 t3
    obtain ⟨⟨⟨a1, a2⟩, a3⟩, a4⟩ := t1
    obtain ⟨⟨⟨_, b2⟩, b3⟩, _⟩ := t2
    obtain ⟨⟨⟨_, d2⟩, d3⟩, _⟩ := t3
    rw [a1] at hx h5
    have e5 : Txt.slice (flatS (spOf h) (R0 d)) (some 3) (some 5) = Str.ofString " \"" := by
      apply tl_inj
      rw [h5, show tl (Str.ofString " \"") = [32, 34] from by decide +kernel]; rfl
    rw [if_pos e5, rep0b rfl a4]
    have hsc := scan_signs a1 (flat (spOf h) [109, 97, 100, 101]) [c1, c2, c3] (fun c hc hne => by
      rcases List.mem_cons.mp hc with rfl | hc
      · exact a2.resolve_left hne
      rcases List.mem_cons.mp hc with rfl | hc
      · exact b2.resolve_left hne
      · obtain rfl := List.mem_singleton.mp hc; exact d2.resolve_left hne)
    have ep : tl (p257 (flatS (spOf h) (R0 d))) = [c1, c2, c3].flatMap (spell (spOf h)) := by
      have e0 : tl (p257 (flatS (spOf h) (R0 d))) = scanQ ((tl (flatS (spOf h) (R0 d))).drop 5) := rfl
      rw [e0, hx]
      simp only [List.cons_append, List.nil_append, List.drop_succ_cons, List.drop_zero]
      exact hsc
    have : p257 (flatS (spOf h) (R0 d)) = Txt.join (Str.ofString "") ((signsS d).map (getT (tabOf h))) := by
      apply tl_inj
      rw [ep, join_tl, hs]
      simp only [List.map_cons, List.map_nil, a3, b3, d3, List.flatMap_cons, List.flatMap_nil, List.flatten_cons, List.flatten_nil]
    rw [this]
  · simp only [if_neg q, Bool.and_eq_true, beq_iff_eq] at t1
    obtain ⟨a1, a2⟩ := t1
    have e5 : ¬ Txt.slice (flatS (spOf h) (R0 d)) (some 3) (some 5) = Str.ofString " \"" := by
      intro e
      rw [e] at h5
      cases es : spell (spOf h) 34 with
      | nil => rw [es] at a1; cases a1
      | cons a t =>
        rw [es] at a1 h5
        obtain rfl := Option.some.inj a1
        rw [show tl (Str.ofString " \"") = [32, 34] from by decide +kernel] at h5
        injection h5 with _ h5
        injection h5 with h5
        exact absurd h5 (by decide)
    rw [if_neg e5, rep0a rfl a2]
noncomputable def okFin (h : Int) : Bool := (Txt.slice (flatS (spOf h) (Str.ofString "250 \"a\" (|||1|)")) none (some 3) != Str.ofString "257") && (Txt.slice (flatS (spOf h) (Str.ofString "250 \"a\" (|||1|)")) none (some 3) != Str.ofString "229") &&
  (Txt.slice (flatS (spOf h) (Str.ofString "220 ready")) none (some 3) != Str.ofString "257") && (Txt.slice (flatS (spOf h) (Str.ofString "220 ready")) none (some 3) != Str.ofString "229") &&
  others.all fun o => !(Txt.slice (flatS (spOf h) o) none (some 3) != Str.ofString "257") && r257 (flatS (spOf h) o) == Str.ofString ""
theorem fin_tab : ∀ h ∈ hands, okFin h = true := by decide +kernel
theorem ans_reply {x host : Str} (h1 : (Txt.slice x none (some 3) != Str.ofString "257") = true) (h2 : (Txt.slice x none (some 3) != Str.ofString "229") = true) : ansD x host = .int 0 := by
  unfold ansD
  rw [if_pos h1, r229_1 h2]
theorem answer {h : Int} (hh : h ∈ hands) {kind d : Int} (k0 : 0 ≤ kind) (k1 : kind < 5) (h0 : 0 ≤ d) (h1 : d < 1000000) (host : Str) : ansD (flatS (spOf h) (replyD kind d (tabOf h) host).1) host = (replyD kind d (tabOf h) host).2 := by
  have f := fin_tab h hh
  unfold okFin at f
  simp only [Bool.and_eq_true, List.all_eq_true, Bool.not_eq_true', beq_iff_eq] at f
  obtain ⟨⟨⟨⟨f1, f2⟩, f3⟩, f4⟩, f5⟩ := f
  by_cases q0 : kind = 0
  · subst q0
    have e : (replyD 0 d (tabOf h) host).1 = R0 d := by unfold replyD; rw [if_pos rfl]
    rw [e, ans0 hh]
  by_cases q1 : kind = 1
  · subst q1
    have e : (replyD 1 d (tabOf h) host).1 = R1 d := by unfold replyD; rw [if_neg (by decide), if_pos rfl]
    rw [e, ans1 hh h0 h1]
  by_cases q2 : kind = 2
  · rw [rep2 q2]
    exact ans2 hh h0 h1
  by_cases q3 : kind = 3
  · rw [rep3 q3]
    exact ans_reply f1 f2
  · rw [rep4 q0 q1 q2 q3]
    have hm : R4 d ∈ others := by
      obtain ⟨i, hi, e⟩ := mod_nat (d := d) (k := 4) (by decide)
      have hi : i < others.length := by show i < 4; omega
      unfold R4
      rw [e, Int.toNat_natCast, List.getD_eq_getElem?_getD, List.getElem?_eq_getElem hi]
      exact List.getElem_mem hi
    obtain ⟨g1, g2⟩ := f5 _ hm
    unfold ansD
    rw [if_neg (by rw [g1]; exact Bool.false_ne_true), g2]
theorem answer0 {h : Int} (hh : h ∈ hands) (host : Str) : ansD (flatS (spOf h) (Str.ofString "220 ready")) host = .int 0 := by
  have f := fin_tab h hh
  unfold okFin at f
  simp only [Bool.and_eq_true] at f
  exact ans_reply f.1.1.2 f.1.2
end Mine

end
-- PE
namespace Mine
noncomputable def wsR (rs : List Int) : WSt := wsOf (leadS rs)
theorem wsR_nat (cl : List Nat) (l : Nat) : wsR (runsI cl l) = wsN cl l := by
  have h := ws_line cl l (Str.ofString "") (by rw [show tl (Str.ofString "") = [] from by decide +kernel]; intro c hc; cases hc)
  have e : leadS (runsI cl l) ++ Str.ofString "" = leadS (runsI cl l) := by
    apply tl_inj
    rw [tl_app, show tl (Str.ofString "") = [] from by decide +kernel, List.append_nil]
  rw [e] at h
  exact h
theorem ws_none : wsOf (Str.ofString "") = wsN [] 0 := by
  unfold wsOf
  rw [show (Str.ofString "").cps.toList = [] from by decide +kernel]
  rfl
theorem runs_nat {rs : List Int} (h : ∀ x ∈ rs, 0 ≤ x) (hn : rs ≠ []) : ∃ cl l, rs = runsI cl l := by
  refine ⟨(rs.map Int.toNat).dropLast, (rs.map Int.toNat).getLast (by simpa using hn), ?_⟩
  unfold runsI
  rw [List.dropLast_concat_getLast, List.map_map]
  have : rs.map (fun x => ((x.toNat : Nat) : Int)) = rs.map id := List.map_congr_left fun x hx => Int.toNat_of_nonneg (h x hx)
  rw [List.map_id] at this
  exact this.symm
theorem runsI_len (cl : List Nat) (l : Nat) : (runsI cl l).length = cl.length + 1 := by simp [runsI]
theorem closed_runs (cl : List Nat) (l : Nat) : closedOf (runsI cl l) = cl.map fun (n : Nat) => (n : Int) := by
  unfold closedOf
  rw [runsI_len]
  unfold runsI
  rw [List.map_append, Nat.add_sub_cancel, ← List.length_map (f := fun (n : Nat) => (n : Int)), List.take_left]
theorem last_runs (cl : List Nat) (l : Nat) : lastOf (runsI cl l) = [(l : Int)] := by
  unfold lastOf
  rw [runsI_len]
  unfold runsI
  rw [List.map_append, Nat.add_sub_cancel, ← List.length_map (f := fun (n : Nat) => (n : Int)), List.drop_left]
  rfl
theorem lastD_runs (cl : List Nat) (l : Nat) : (runsI cl l).getD ((runsI cl l).length - 1) 0 = (l : Int) := by
  rw [runsI_len, Nat.add_sub_cancel]
  unfold runsI
  rw [List.map_append, List.getD_eq_getElem?_getD, ← List.length_map (f := fun (n : Nat) => (n : Int)), List.getElem?_append_right (Nat.le_refl _), Nat.sub_self]
  rfl
/-! the pile -/
theorem popR_stay {lead : WSt} {p q : List WSt} (h : ∀ b, LessIs lead (topW p) b → b = false) (r : PopR lead p q) : q = p := by
  cases r with
  | one => rfl
  | stop => rfl
  | pop _ h1 => exact absurd (h _ h1) (by decide)
theorem pileR_keep {p q : List WSt} {lead : WSt} (h1 : ∀ b, LessIs (topW p) lead b → b = false) (h2 : ∀ b, LessIs lead (topW p) b → b = false) (r : PileR p lead q) : q = p := by
  cases r with
  | push h => exact absurd (h1 _ h) (by decide)
  | stay _ r => exact popR_stay h2 r
theorem pileR_push {p q : List WSt} {lead : WSt} (h : Dom (topW p) lead) (r : PileR p lead q) : q = p ++ [lead] := by
  cases r with
  | push _ r => exact popR_stay (fun b hb => not_less (by rw [topW_snoc]; exact Int.le_refl _) hb) r
  | stay h' => exact absurd (h.less h') (by decide)
theorem popR_down {x : WSt} {A : List WSt} (hA : A ≠ []) : ∀ (B : List WSt) {q : List WSt}, (∀ y ∈ B, Dom x y) → PopR x (A ++ [x] ++ B.reverse) q → q = A ++ [x]
  | [], q, _, r => by
    rw [List.reverse_nil, List.append_nil] at r
    exact popR_stay (fun b hb => not_less (by rw [topW_snoc]; exact Int.le_refl _) hb) r
  | y :: B, q, h, r => by
    have e : A ++ [x] ++ (y :: B).reverse = (A ++ [x] ++ B.reverse) ++ [y] := by rw [List.reverse_cons, List.append_assoc, List.append_assoc, List.append_assoc]
    rw [e] at r
    generalize hp : (A ++ [x] ++ B.reverse) ++ [y] = p at r
    have ht : topW p = y := by rw [← hp, topW_snoc]
    cases r with
    | one h1 =>
      rw [← hp] at h1
      simp only [List.length_append, List.length_cons, List.length_nil, List.length_reverse] at h1
      have := List.length_pos_iff.mpr hA
      omega
    | stop _ h1 =>
      rw [ht] at h1
      exact absurd ((h y (.head _)).less h1) (by decide)
    | pop _ _ r =>
      rw [← hp, List.dropLast_concat] at r
      exact popR_down hA B (fun z hz => h z (.tail _ hz)) r
theorem pileR_pop {x : WSt} {A B q : List WSt} (hA : A ≠ []) (h : ∀ y ∈ B, Dom x y) (r : PileR (A ++ [x] ++ B) x q) : q = A ++ [x] := by
  have ht : ∀ b, LessIs (topW (A ++ [x] ++ B)) x b → b = false := fun b hb => by
    refine not_less ?_ hb
    rcases List.eq_nil_or_concat B with rfl | ⟨B', y, rfl⟩
    · rw [List.append_nil, topW_snoc]; exact Int.le_refl _
    · rw [List.concat_eq_append, ← List.append_assoc, topW_snoc]
      exact Int.le_of_lt (h y (by simp)).n
  cases r with
  | push h' => exact absurd (ht _ h') (by decide)
  | stay _ r =>
    rw [← List.reverse_reverse B] at r
    exact popR_down hA B.reverse (fun y hy => h y (List.mem_reverse.mp hy)) r
noncomputable abbrev pileW (p : List (List Int)) : List WSt := wsN [] 0 :: p.map wsR
theorem topW_pile {p : List (List Int)} (h : p ≠ []) : topW (pileW p) = wsR (topOf p) := by
  rcases List.eq_nil_or_concat p with rfl | ⟨p', x, rfl⟩
  · exact absurd rfl h
  · rw [List.concat_eq_append]
    show topW (wsN [] 0 :: (p' ++ [x]).map wsR) = _
    rw [List.map_append, ← List.cons_append]
    show topW ((wsN [] 0 :: p'.map wsR) ++ [wsR x]) = _
    rw [topW_snoc]
    unfold topOf
    rw [List.getLastD_concat]
theorem dom_all {p : List (List Int)} (hp : (pileW p).Pairwise Dom) (hn : p ≠ []) {v : WSt} (h : Dom (wsR (topOf p)) v) : ∀ x ∈ pileW p, Dom x v := by
  rw [← topW_pile hn] at h
  have hne : pileW p ≠ [] := List.cons_ne_nil _ _
  rcases List.eq_nil_or_concat (pileW p) with e | ⟨P, t, e⟩
  · exact absurd e hne
  · rw [List.concat_eq_append] at e
    rw [e] at hp h ⊢
    rw [topW_snoc] at h
    rw [List.pairwise_append] at hp
    intro x hx
    rcases List.mem_append.mp hx with hx | hx
    · exact (hp.2.2 x hx t (.head _)).trans h
    · obtain rfl := List.mem_singleton.mp hx; exact h
/-! the message -/
theorem msg_eq {u v : WSt} {p q : Nat} (h : Parts u v p q) (hq : 0 < q) {t : Nat} (h1 : 1 ≤ t) (h2 : t ≤ max p q) (hs : szOf (p : Int) (q : Int) (t : Int) = true) : nagMsg u v = wordsS (p : Int) (q : Int) ∧ wordsS (p : Int) (q : Int) ≠ Str.ofString "" := by
  have e := wit_all_sz h hq
  have hne := szT_has hs (max p q) h1 h2
  have e1 : Str.ofString "indent not equal e.g. " ++ Str.ofString "at tab sizes" = Str.ofString "indent not equal e.g. at tab sizes" := by decide +kernel
  have e2 : Str.ofString "indent not equal e.g. " ++ Str.ofString "at tab size" = Str.ofString "indent not equal e.g. at tab size" := by decide +kernel
  have ass : ∀ a b c d : Str, a ++ (b ++ c ++ d) = a ++ b ++ c ++ d := fun a b c d => by apply tl_inj; simp only [tl_app, List.append_assoc]
  have hl : (szT (p : Int) (q : Int) (max p q)).length ≠ 0 := fun z => hne (List.length_eq_zero_iff.mp z)
  have ew : wordsS (p : Int) (q : Int) = Str.ofString "indent not equal e.g. " ++ fmtS (szT (p : Int) (q : Int) (max p q)) := by
    unfold wordsS fmtS
    rw [max_toNat, if_neg hl, ass]
    by_cases z : 1 < (szT (p : Int) (q : Int) (max p q)).length
    · rw [if_pos (by omega), if_pos z, e1]
    · rw [if_neg (by omega), if_neg z, e2]
  refine ⟨?_, fun z => ?_⟩
  · unfold nagMsg
    rw [e, ew]
  · rw [ew] at z
    have := congrArg Str.length z
    rw [Str.length_append, show (Str.ofString "indent not equal e.g. ").length = 22 from by decide +kernel, show (Str.ofString "").length = 0 from by decide +kernel] at this
    omega
theorem words_same (c : Nat) : wordsS ((c + 1 : Nat) : Int) ((c + 1 : Nat) : Int) = Str.ofString "" := by
  unfold wordsS
  rw [szT_none]; rfl
end Mine

-- PF
namespace Mine
theorem sign2 {h : Int} (hh : h ∈ hands) {R : Str} (hR : (tl R).head? = some 50) : ∀ c ∈ (tl (flatS (spOf h) R)).head?, c ≠ 32 ∧ c ≠ 9 := by
  rw [tl_flat]
  cases e : tl R with
  | nil => rw [e] at hR; cases hR
  | cons a r =>
    rw [e] at hR
    obtain rfl := Option.some.inj hR
    rw [flat_cons, plain_tab h hh 50 (by decide)]
    intro c hc
    obtain rfl := Option.some.inj hc
    decide
theorem line_ws {h : Int} (hh : h ∈ hands) {rs : List Int} (hn : ∀ x ∈ rs, 0 ≤ x) (hne : rs ≠ []) {R : Str} (hR : (tl R).head? = some 50) :
    wsOf (lineOf h rs R) = wsR rs ∧ Txt.slice (lineOf h rs R) (some (wsOf (lineOf h rs R)).n) none = flatS (spOf h) R := by
  obtain ⟨cl, l, rfl⟩ := runs_nat hn hne
  have e := ws_line cl l (flatS (spOf h) R) (sign2 hh hR)
  have e2 : wsOf (lineOf h (runsI cl l) R) = wsN cl l := e
  refine ⟨e2.trans (wsR_nat cl l).symm, ?_⟩
  rw [e2]
  have ht : tl (lineOf h (runsI cl l) R) = leadC cl l ++ tl (flatS (spOf h) R) := by
    unfold lineOf
    rw [tl_app, lead_tl]
  have hl := leadC_len l cl
  apply tl_inj
  have hs := slice_from (x := lineOf h (runsI cl l) R) (i := cl.sum + cl.length + l) (by rw [ht, List.length_append]; omega)
  show tl (Txt.slice (lineOf h (runsI cl l) R) (some ((cl.sum + cl.length + l : Nat) : Int)) none) = _
  rw [hs, ht, ← hl, List.drop_left]
theorem head_app {x y : Str} {a : Nat} (h : (tl x).head? = some a) : (tl (x ++ y)).head? = some a := by
  rw [tl_app]
  cases e : tl x with
  | nil => rw [e] at h; cases h
  | cons b r => rw [e] at h; exact h
theorem reply_two (kind d : Int) (T : List (Str × Str)) (host : Str) : (tl (replyD kind d T host).1).head? = some 50 := by
  have h5 : (tl (Str.ofString "257 \"")).head? = some 50 := by decide +kernel
  have h9 : (tl (Str.ofString "229 (")).head? = some 50 := by decide +kernel
  unfold replyD
  split
  · exact head_app (head_app h5)
  split
  · exact head_app (head_app (head_app (head_app (head_app h9))))
  split
  · exact head_app (head_app (head_app (head_app h9)))
  split
  · show (tl (Str.ofString "250 \"a\" (|||1|)")).head? = some 50
    decide +kernel
  · have : ∀ o ∈ others, (tl o).head? = some 50 := by decide +kernel
    refine this _ ?_
    obtain ⟨i, hi, e⟩ := mod_nat (d := d) (k := 4) (by decide)
    have hi : i < others.length := by show i < 4; omega
    unfold R4
    rw [e, Int.toNat_natCast, List.getD_eq_getElem?_getD, List.getElem?_eq_getElem hi]
    exact List.getElem_mem hi
noncomputable def TurnOk (pile : List (List Int)) (rs : List Int) (pl : List (List Int)) (wd : Str) : Prop :=
  (wd = Str.ofString "" ∧ (pileW pl).Pairwise Dom ∧ ((topW (pileW pl)).cnt = (wsR rs).cnt ∧ (topW (pileW pl)).b = (wsR rs).b) ∧ ∀ q, PileR (pileW pile) (wsR rs) q → q = pileW pl) ∨
  (wd ≠ Str.ofString "" ∧ (∀ q, PileR (pileW pile) (wsR rs) q → q = pileW pile) ∧ ¬ ((topW (pileW pile)).cnt = (wsR rs).cnt ∧ (topW (pileW pile)).b = (wsR rs).b) ∧ nagMsg (topW (pileW pile)) (wsR rs) = wd)
theorem turn_same {pile : List (List Int)} (hp : (pileW pile).Pairwise Dom) {rs : List Int} {wd : Str} (hw : wd = Str.ofString "") (h : wsR rs = topW (pileW pile)) : TurnOk pile rs pile wd := by
  refine .inl ⟨hw, hp, ⟨by rw [h], by rw [h]⟩, fun q r => ?_⟩
  refine pileR_keep (fun b hb => ?_) (fun b hb => ?_) r
  · exact not_less (by rw [h]; exact Int.le_refl _) hb
  · exact not_less (by rw [h]; exact Int.le_refl _) hb
theorem turn_push {pile : List (List Int)} (hp : (pileW pile).Pairwise Dom) (hn : pile ≠ []) {rs : List Int} (h : Dom (wsR (topOf pile)) (wsR rs)) : TurnOk pile rs (pile ++ [rs]) (Str.ofString "") := by
  have e : pileW (pile ++ [rs]) = pileW pile ++ [wsR rs] := by
    show wsN [] 0 :: (pile ++ [rs]).map wsR = _
    rw [List.map_append]; rfl
  refine .inl ⟨rfl, ?_, ?_, fun q r => ?_⟩
  · rw [e, List.pairwise_append]
    exact ⟨hp, List.pairwise_singleton _ _, fun x hx y hy => List.mem_singleton.mp hy ▸ dom_all hp hn h x hx⟩
  · rw [e, topW_snoc]; exact ⟨rfl, rfl⟩
  · rw [e]; exact pileR_push (by rw [topW_pile hn]; exact h) r
theorem turn_pop {pile : List (List Int)} (hp : (pileW pile).Pairwise Dom) (hn : pile ≠ []) {n : Nat} (h1 : 1 ≤ n) : TurnOk pile (topOf (pile.take n)) (pile.take n) (Str.ofString "") := by
  have hne : pile.take n ≠ [] := by
    intro z
    have := congrArg List.length z
    rw [List.length_take, List.length_nil] at this
    have := List.length_pos_iff.mpr hn
    omega
  obtain ⟨A, x, ea⟩ : ∃ A x, pile.take n = A ++ [x] := by
    rcases List.eq_nil_or_concat (pile.take n) with e | ⟨A, x, e⟩
    · exact absurd e hne
    · exact ⟨A, x, by rw [e, List.concat_eq_append]⟩
  have et : topOf (pile.take n) = x := by unfold topOf; rw [ea, List.getLastD_concat]
  have ep : pileW pile = pileW A ++ [wsR x] ++ (pile.drop n).map wsR := by
    show wsN [] 0 :: pile.map wsR = (wsN [] 0 :: A.map wsR) ++ [wsR x] ++ (pile.drop n).map wsR
    conv => lhs; rw [← List.take_append_drop n pile, ea]
    rw [List.map_append, List.map_append]; rfl
  have eq2 : pileW (pile.take n) = pileW A ++ [wsR x] := by
    show wsN [] 0 :: (pile.take n).map wsR = _
    rw [ea, List.map_append]; rfl
  have hpa := hp
  rw [ep, List.pairwise_append] at hpa
  refine .inl ⟨rfl, ?_, ?_, fun q r => ?_⟩
  · rw [eq2]; exact hpa.1
  · rw [eq2, topW_snoc, et]; exact ⟨rfl, rfl⟩
  · rw [ep, et] at r
    rw [eq2]
    exact pileR_pop (List.cons_ne_nil _ _) (fun y hy => hpa.2.2 _ (by simp) y hy) r
theorem turn_nag {pile : List (List Int)} {rs : List Int} {u v : WSt} (hu : topW (pileW pile) = u) (hv : wsR rs = v) {p q t : Nat} (h : Parts u v p q) (hq : 0 < q) (h1 : 1 ≤ t) (h2 : t ≤ max p q) (hs : szOf (p : Int) (q : Int) (t : Int) = true)
    (l1 : ∀ b, LessIs u v b → b = false) (l2 : ∀ b, LessIs v u b → b = false) : TurnOk pile rs pile (wordsS (p : Int) (q : Int)) := by
  obtain ⟨m1, m2⟩ := msg_eq h hq h1 h2 hs
  refine .inr ⟨m2, fun q' r => ?_, ?_, ?_⟩
  · exact pileR_keep (by rw [hu, hv]; exact l1) (by rw [hu, hv]; exact l2) r
  · rw [hu, hv]; exact parts_ne h h1 hs
  · rw [hu, hv]; exact m1
theorem unit_dom (cl : List Nat) (l : Nat) {tn : Int} (t0 : 0 ≤ tn) (t1 : tn < 6) :
    ∃ cl' l', (cl.map fun (n : Nat) => (n : Int)) ++ [(l : Int) + (units.getD tn.toNat []).getD 0 0] ++ (units.getD tn.toNat []).drop 1 = runsI cl' l' ∧ Dom (wsN cl l) (wsN cl' l') := by
  obtain ⟨n, rfl⟩ := Int.eq_ofNat_of_zero_le t0
  have hn : n < 6 := by omega
  have d1 := dom_tab cl [] l 0 0
  rw [Nat.add_zero] at d1
  match n, hn with
  | 0, _ => exact ⟨cl, l + 1, by simp [units, runsI], dom_more cl l 1 (Nat.le_refl _)⟩
  | 1, _ => exact ⟨cl ++ [l], 0, by simp [units, runsI], d1⟩
  | 2, _ => exact ⟨cl, l + 2, by simp [units, runsI], dom_more cl l 2 (by decide)⟩
  | 3, _ => exact ⟨cl ++ [l + 1], 0, by simp [units, runsI], dom_tab cl [] l 1 0⟩
  | 4, _ => exact ⟨cl ++ [l], 1, by simp [units, runsI], (dom_tab cl [] l 0 1)⟩
  | 5, _ => exact ⟨cl ++ [l, 2], 0, by simp [units, runsI], (dom_tab cl [2] l 0 0)⟩
theorem turn_runs {i : Nat} {pile : List (List Int)} (hP : PileOk i pile) (hp : (pileW pile).Pairwise Dom) {kd tn : Int} (t0 : 0 ≤ tn) (t1 : tn < 6) {rs : List Int} {pl : List (List Int)} {wd : Str} (e : runsOf kd tn pile = (rs, pl, wd)) : TurnOk pile rs pl wd := by
  have hT := hP.top
  have hne : topOf pile ≠ [] := by intro z; have := hT.lo; rw [z] at this; simp at this
  obtain ⟨cl, l, ht⟩ := runs_nat (fun x hx => (hT.val x hx).1) hne
  have hW : topW (pileW pile) = wsN cl l := by rw [topW_pile hP.ne, ht, wsR_nat]
  have hlo := hT.lo
  have hone := hT.one
  rw [ht, runsI_len] at hlo
  rw [ht] at hone
  unfold runsOf at e
  simp only [ht, closed_runs, last_runs, lastD_runs, List.length_map] at e
  obtain ⟨k, hk, ek⟩ := mod_nat (d := tn) (k := (cl.length : Int)) (by omega)
  have hk : k < cl.length := by omega
  rw [ek, Int.toNat_natCast] at e
  split at e
  · simp only [Prod.mk.injEq] at e
    obtain ⟨rfl, rfl, rfl⟩ := e
    refine turn_same hp rfl ?_
    rw [← List.map_drop, ← List.map_take, ← List.map_append]
    show wsR ((cl.drop k ++ cl.take k).map _ ++ [l].map _) = _
    rw [← List.map_append, hW]
    show wsR (runsI _ l) = _
    rw [wsR_nat]
    refine ws_perm ?_ l
    have := List.perm_append_comm (l₁ := cl.drop k) (l₂ := cl.take k)
    rwa [List.take_append_drop] at this
  split at e
  · simp only [Prod.mk.injEq] at e
    obtain ⟨rfl, rfl, rfl⟩ := e
    obtain ⟨cl', l', e1, e2⟩ := unit_dom cl l t0 t1
    have e5 : (runsI cl l).getD ((cl ++ [l]).length - 1) 0 = (l : Int) := by
      have := lastD_runs cl l
      rwa [runsI_len, ← (show (cl ++ [l]).length = cl.length + 1 from by simp)] at this
    rw [e5, e1]
    exact turn_push hp hP.ne (by rw [ht, wsR_nat, wsR_nat]; exact e2)
  split at e
  · simp only [Prod.mk.injEq] at e
    obtain ⟨rfl, rfl, rfl⟩ := e
    have := List.length_pos_iff.mpr hP.ne
    have h2 := Int.fmod_nonneg_of_pos tn (b := (pile.length : Int)) (by omega)
    exact turn_pop hp hP.ne (by omega)
  obtain ⟨pre, a, post, rfl, rfl⟩ : ∃ pre a post, cl = pre ++ a :: post ∧ k = pre.length := by
    refine ⟨cl.take k, cl[k], cl.drop (k + 1), ?_, by rw [List.length_take]; omega⟩
    rw [← List.drop_eq_getElem_cons hk, List.take_append_drop]
  have ea : ((pre ++ a :: post).map fun (n : Nat) => (n : Int)).getD pre.length 0 = (a : Int) := by
    rw [List.map_append, List.getD_eq_getElem?_getD, ← List.length_map (f := fun (n : Nat) => (n : Int)), List.getElem?_append_right (Nat.le_refl _), Nat.sub_self]
    rfl
  have e1 : ((pre ++ a :: post).map fun (n : Nat) => (n : Int)).take pre.length = pre.map fun (n : Nat) => (n : Int) := by
    rw [List.map_append, ← List.length_map (f := fun (n : Nat) => (n : Int)), List.take_left]
  have e2 : ((pre ++ a :: post).map fun (n : Nat) => (n : Int)).drop (pre.length + 1) = post.map fun (n : Nat) => (n : Int) := by
    rw [List.map_append, ← List.length_map (f := fun (n : Nat) => (n : Int)) (as := pre), ← List.drop_drop, List.drop_left]; rfl
  rw [ea, e1, e2] at e
  split at e
  · rename_i hz
    obtain rfl := List.length_eq_zero_iff.mp hz
    simp only [Prod.mk.injEq] at e
    obtain ⟨rfl, rfl, rfl⟩ := e
    have e3 : ((a : Int) + 1) = ((a + 1 : Nat) : Int) := by omega
    rw [e3]
    have hv : wsR (List.map (fun (n : Nat) => (n : Int)) [] ++ [((a + 1 : Nat) : Int)] ++ List.map (fun (n : Nat) => (n : Int)) post ++ [(l : Int)]) = wsN ((a + 1) :: post) l := by
      rw [← wsR_nat]; simp [runsI]
    exact turn_nag (p := 0) hW hv (parts_one a post l) (Nat.succ_pos _) (Nat.le_refl 1) (by omega) (sz_one a) (fun b hb => one_not_less a post l hb)
      (fun b hb => not_less (by unfold wsN; simp only [List.nil_append, List.sum_cons, List.length_cons]; omega) hb)
  · rename_i hz
    obtain ⟨c0, pre', rfl⟩ : ∃ c0 pre', pre = c0 :: pre' := by
      cases pre with
      | nil => exact absurd rfl hz
      | cons c0 pre' => exact ⟨c0, pre', rfl⟩
    simp only [Prod.mk.injEq] at e
    obtain ⟨rfl, rfl, rfl⟩ := e
    have hg : (runsI (c0 :: pre' ++ a :: post) l).getD 0 0 = (c0 : Int) := rfl
    rw [hg] at hone ⊢
    obtain ⟨c, rfl⟩ : ∃ c, c0 = c + 1 := ⟨c0 - 1, by omega⟩
    have e3 : ((a : Int) + 1) = ((a + 1 : Nat) : Int) := by omega
    have e4 : ((c + 1 : Nat) : Int) - 1 = (c : Int) := by omega
    rw [e3, e4]
    have hv : wsR ([(c : Int)] ++ (List.map (fun (n : Nat) => (n : Int)) ((c + 1) :: pre') ++ [((a + 1 : Nat) : Int)] ++ List.map (fun (n : Nat) => (n : Int)) post ++ [(l : Int)]).drop 1) = wsN (c :: (a + 1) :: (pre' ++ post)) l := by
      rw [← ws_perm (List.Perm.cons c (List.perm_middle (a := a + 1) (l₁ := pre') (l₂ := post))) l, ← wsR_nat]
      simp [runsI]
    have hu : topW (pileW pile) = wsN ((c + 1) :: a :: (pre' ++ post)) l := by
      rw [hW, ← ws_perm (List.Perm.cons (c + 1) (List.perm_middle (a := a) (l₁ := pre') (l₂ := post))) l]
      rfl
    by_cases q : c = a
    · subst q
      refine turn_same hp (words_same c) ?_
      rw [hv, hu]
      exact ws_perm (List.Perm.swap _ _ _) l
    · refine turn_nag hu hv (parts_two c a (pre' ++ post) l) (Nat.succ_pos _) (t := max (c + 1) (a + 1)) (by omega) (Nat.le_refl _) (sz_two q) (fun b hb => ?_) (fun b hb => ?_)
      · exact not_less (by unfold wsN; simp only [List.sum_cons, List.length_cons]; omega) hb
      · exact not_less (by unfold wsN; simp only [List.sum_cons, List.length_cons]; omega) hb
end Mine

-- PG
namespace Mine
/-! the lines are not long -/
noncomputable abbrev AllS (x : Str) : Prop := ∀ c ∈ tl x, c < 128
theorem AllS.app {x y : Str} (h : AllS x) (h' : AllS y) : AllS (x ++ y) := fun c hc => by
  rw [tl_app] at hc
  exact (List.mem_append.mp hc).elim (h c) (h' c)
theorem word_all {n : Int} (h0 : 0 ≤ n) (h1 : n < 10 ^ 10) : AllS (wordOf n) := fun c hc => by have := (digits_word h0 h1).1 c hc; omega
theorem mark_all (d : Int) : AllS (markS d) := by
  obtain ⟨m, hm, e⟩ := mark_is d
  rw [e]
  intro c hc
  obtain rfl := List.mem_singleton.mp hc
  have : ∀ m ∈ MKS, m < 128 := by decide
  exact this _ hm
theorem mul_all {d : Int} (n : Int) : AllS (Txt.mul (markS d) n) := by
  have h := mark_all d
  obtain ⟨m, hm, e⟩ := mark_is d
  rw [e] at h ⊢
  intro c hc
  rw [tl_mul] at hc
  obtain rfl := (List.mem_replicate.mp hc).2
  exact h c (.head _)
theorem reply_all {kind d : Int} (h0 : 0 ≤ d) (h1 : d < 1000000) (T : List (Str × Str)) (host : Str) : AllS (replyD kind d T host).1 := by
  have hp : AllS (wordOf (Int.fdiv d 24)) := word_all (by rw [Int.fdiv_eq_ediv_of_nonneg d (by decide)]; omega) (by rw [Int.fdiv_eq_ediv_of_nonneg d (by decide)]; omega)
  have a1 : AllS (Str.ofString "229 (") := by unfold AllS; decide +kernel
  have a2 : AllS (Str.ofString ")") := by unfold AllS; decide +kernel
  have a3 : AllS (Str.ofString "257 \"") := by unfold AllS; decide +kernel
  have a4 : AllS (Str.ofString "\" made") := by unfold AllS; decide +kernel
  have a5 : AllS (Str.ofString "250 \"a\" (|||1|)") := by unfold AllS; decide +kernel
  have a6 : ∀ o ∈ others, AllS o := by unfold AllS; decide +kernel
  have a7 : ∀ o ∈ whites, AllS o := by unfold AllS; decide +kernel
  unfold replyD
  split
  · refine (a3.app ?_).app a4
    rw [show Str.ofString "\"" = ⟨#[34]⟩ from by decide +kernel]
    intro c hc
    rw [rep_eq, join_tl, show tl (Str.ofString "\"\"") = [34, 34] from by decide +kernel] at hc
    obtain ⟨a, ha, hc⟩ := List.mem_flatMap.mp hc
    split at hc
    · have : ∀ c ∈ [34, 34], c < 128 := by decide
      exact this c hc
    · obtain rfl := List.mem_singleton.mp hc
      obtain ⟨l, hl, ha⟩ := List.mem_flatten.mp ha
      obtain ⟨x, hx, rfl⟩ := List.mem_map.mp hl
      obtain ⟨st, _, rfl⟩ := List.mem_map.mp hx
      obtain ⟨m, hm, e⟩ := sign_is d st
      rw [e] at ha
      obtain rfl := List.mem_singleton.mp ha
      have : ∀ m ∈ SGS, m < 128 := by decide
      exact this _ hm
  split
  · exact ((((a1.app (mul_all 3)).app (a7 _ (white_is d))).app hp).app (mark_all d)).app a2
  split
  · exact (((a1.app (mul_all 2)).app hp).app (mark_all d)).app a2
  split
  · exact a5
  · refine a6 _ ?_
    obtain ⟨i, hi, e⟩ := mod_nat (d := d) (k := 4) (by decide)
    have hi : i < others.length := by show i < 4; omega
    unfold R4
    rw [e, Int.toNat_natCast, List.getD_eq_getElem?_getD, List.getElem?_eq_getElem hi]
    exact List.getElem_mem hi
theorem flat_all {h : Int} (hh : h ∈ hands) {R : Str} (hR : AllS R) : AllS (flatS (spOf h) R) := by
  have key : ∀ h ∈ hands, ∀ p ∈ spOf h, ∀ c ∈ p.2, c < 128 := by decide
  intro c hc
  obtain ⟨a, ha, hc⟩ := List.mem_flatMap.mp (show c ∈ (tl R).flatMap (spell (spOf h)) from hc)
  unfold spell at hc
  cases e : (spOf h).lookup a with
  | none => rw [e] at hc; obtain rfl := List.mem_singleton.mp hc; exact hR c ha
  | some r =>
    rw [e] at hc
    obtain ⟨k, hk⟩ := lookup_in e
    exact key h hh _ hk c hc
theorem slice_mem {x : Str} {l u : Option Int} {c : Nat} (h : c ∈ tl (Txt.slice x l u)) : c ∈ tl x := by
  unfold Txt.slice at h
  split at h
  · exact h
  · have h' : c ∈ List.filterMap _ _ := h
    obtain ⟨i, _, hi⟩ := List.mem_filterMap.mp h'
    rw [← Array.getElem?_toList] at hi
    exact List.mem_of_getElem? hi
theorem join_part {sep y : Str} : ∀ {parts : List Str}, y ∈ parts → (∀ c ∈ tl y, c ∈ tl (Str.join sep parts)) ∧ y.length ≤ (Str.join sep parts).length
  | [p], h => by
    obtain rfl := List.mem_singleton.mp h
    exact ⟨fun c hc => hc, Nat.le_refl _⟩
  | p :: q :: r, h => by
    have e : Str.join sep (p :: q :: r) = p ++ sep ++ Str.join sep (q :: r) := rfl
    rw [e]
    rcases List.mem_cons.mp h with rfl | h
    · refine ⟨fun c hc => ?_, ?_⟩
      · rw [tl_app, tl_app]; exact List.mem_append_left _ (List.mem_append_left _ hc)
      · rw [Str.length_append, Str.length_append]; omega
    · obtain ⟨h1, h2⟩ := join_part (sep := sep) h
      refine ⟨fun c hc => ?_, ?_⟩
      · rw [tl_app]; exact List.mem_append_right _ (h1 c hc)
      · rw [Str.length_append]; omega
theorem parts_small {x y : Str} {k : Nat} (hx : AllS x) (hl : x.length ≤ 600) (h : (parts229 x)[k]? = some y) : (reprText y).length ≤ sizeLine := by
  have hm := List.mem_of_getElem? h
  unfold parts229 at hm
  obtain ⟨h1, h2⟩ := join_part (sep := Txt.item x (Txt.find x (Str.ofString "(") + 1)) hm
  rw [StrLaws.join_split] at h1 h2
  have h3 := StrLaws.reprText_len y fun c hc => Nat.lt_trans (hx c (slice_mem (h1 c hc))) (by decide)
  have h4 := Txt.slice_le x (some (Txt.find x (Str.ofString "(") + 1)) (some (Txt.find3 x (Str.ofString ")") (Txt.find x (Str.ofString "(") + 1)))
  refine Nat.le_trans h3 (Nat.le_trans (m := 10 * 600 + 2) ?_ (by decide))
  omega
theorem line_ok {h : Int} (hh : h ∈ hands) {i : Nat} (hi : i ≤ 5) {rs : List Int} (hr : RunW i rs) {R : Str} (hR : (tl R).head? = some 50) (ha : AllS R) (hl : R.length ≤ 40) : LineOk (lineOf h rs R) := by
  have hne : rs ≠ [] := by intro z; have := hr.lo; rw [z] at this; simp at this
  have l1 := lead_le (ns := rs) (c := 14) (fun v hv => by have := hr.val v hv; omega)
  have l2 := sp_len h R
  have l3 := hr.hi
  obtain ⟨e1, e2⟩ := line_ws hh (fun x hx => (hr.val x hx).1) hne hR
  refine ⟨?_, fun y hy _ => ?_⟩
  · unfold lineOf
    rw [Str.length_append]
    have : rs.length * 15 ≤ 13 * 15 := Nat.mul_le_mul_right 15 (by omega)
    omega
  · rw [e2] at hy
    exact parts_small (flat_all hh ha) (by omega) hy
theorem join_all {sep : Str} (hs : AllS sep) : ∀ {parts : List Str}, (∀ p ∈ parts, AllS p) → AllS (Str.join sep parts)
  | [], _ => fun c hc => absurd hc List.not_mem_nil
  | [p], h => h p (.head _)
  | p :: q :: r, h => by
    show AllS (p ++ sep ++ Str.join sep (q :: r))
    exact ((h p (.head _)).app hs).app (join_all hs fun a ha => h a (.tail _ ha))
theorem txtjoin_all {sep : Str} (hs : AllS sep) {parts : List Str} (h : ∀ p ∈ parts, AllS p) : AllS (Txt.join sep parts) := by
  have e : Txt.join sep parts = Str.join sep parts := StrLaws.glued_eq_join _ _
  rw [e]
  exact join_all hs h
theorem words_all {a b : Int} (h : max a b < 10 ^ 9) : AllS (wordsS a b) := by
  have a1 : AllS (Str.ofString "indent not equal e.g. at tab sizes") := by unfold AllS; decide +kernel
  have a2 : AllS (Str.ofString "indent not equal e.g. at tab size") := by unfold AllS; decide +kernel
  have a3 : AllS (Str.ofString " ") := by unfold AllS; decide +kernel
  have a4 : AllS (Str.ofString ", ") := by unfold AllS; decide +kernel
  have a5 : AllS (Str.ofString "") := by unfold AllS; decide +kernel
  have a6 : AllS (Txt.join (Str.ofString ", ") ((szT a b (max a b).toNat).map wordOf)) := txtjoin_all a4 fun p hp => by
    obtain ⟨t, ht, rfl⟩ := List.mem_map.mp hp
    have := szT_mem a b _ t ht
    exact word_all (by omega) (by omega)
  unfold wordsS
  split
  · exact a5
  · split
    · exact (a1.app a3).app a6
    · exact (a2.app a3).app a6
theorem wd_all {i : Nat} {pile : List (List Int)} (hP : PileOk i pile) (hi : i ≤ 5) (kd tn : Int) : AllS (runsOf kd tn pile).2.2 := by
  have a5 : AllS (Str.ofString "") := by unfold AllS; decide +kernel
  have hv : ∀ l : List Int, (∀ x ∈ l, x ∈ topOf pile) → ∀ k, l.getD k 0 ≤ 100 := fun l hl k => by
    by_cases h : k < l.length
    · have := hP.top.val _ (hl _ (getD_mem (d := 0) h)); omega
    · rw [List.getD_eq_getElem?_getD, List.getElem?_eq_none (by omega)]; decide
  have h1 := hv (closedOf (topOf pile)) (fun x hx => closed_mem hx)
  have h2 := hv (topOf pile) (fun x hx => hx) 0
  unfold runsOf
  simp only
  split
  · exact a5
  split
  · exact a5
  split
  · exact a5
  split
  · refine words_all ?_
    have := h1 (Int.fmod tn ((closedOf (topOf pile)).length : Int)).toNat
    omega
  · refine words_all ?_
    have := h1 (Int.fmod tn ((closedOf (topOf pile)).length : Int)).toNat
    omega
/-! the turns -/
structure Sync (D : DSt) (K : KSt) : Prop where
  pile : K.pile = pileW D.pile
  dom : (pileW D.pile).Pairwise Dom
  host : K.host = D.host
  told : K.told = D.due
noncomputable def outOk (D : DSt) : KOut → Prop
  | .done told => told = D.due
  | .nag told k msg line => told ++ [.tuple [.int k, .str msg, .str line]] = D.due
theorem turn_lines (cs : List Int) (hand : Int) (k : Nat) (D : DSt) : ∃ x, (dTurn cs hand k D).1.lines = D.lines ++ [x] := by
  unfold dTurn
  simp only
  split <;> exact ⟨_, rfl⟩
theorem loop_lines (cs : List Int) (hand : Int) : ∀ (n k : Nat) (D : DSt), ∃ rest, (dLoop (dTurn cs hand) n k D).lines = D.lines ++ rest
  | 0, _, _ => ⟨[], (List.append_nil _).symm⟩
  | n + 1, k, D => by
    obtain ⟨x, hx⟩ := turn_lines cs hand k D
    rw [dLoop]
    split
    · exact ⟨[x], hx⟩
    · obtain ⟨r, hr⟩ := loop_lines cs hand n (k + 1) (dTurn cs hand k D).1
      exact ⟨x :: r, by rw [hr, hx, List.append_assoc]; rfl⟩
theorem run_nil {k : Int} {K : KSt} {o : KOut} (h : RunR [] k K o) : o = .done K.told := by cases h; rfl
theorem cell_ok {cs : List Int} (hl : cs.length = 6) (hb : ∀ c ∈ cs, 0 ≤ c ∧ c < 100000000) {k : Nat} (hk : k < 6) : 0 ≤ cs.getD k 0 ∧ cs.getD k 0 < 100000000 := hb _ (getD_mem (by omega))
section
variable {cs : List Int} (hl : cs.length = 6) (hb : ∀ c ∈ cs, 0 ≤ c ∧ c < 100000000) {hand : Int} (hh : hand ∈ hands)
include hl hb hh
theorem turn_both {k : Nat} {D : DSt} (hk : k < 5) (hP : PileOk k D.pile) : ∃ rs pl wd kind d line, line = lineOf hand rs (replyD kind d (tabOf hand) D.host).1 ∧ RunW (k + 1) rs ∧ PileOk (k + 1) pl ∧ 0 ≤ kind ∧ kind < 5 ∧ 0 ≤ d ∧ d < 1000000 ∧ AllS wd ∧
    ((pileW D.pile).Pairwise Dom → TurnOk D.pile rs pl wd) ∧
    dTurn cs hand k D = if wd = Str.ofString "" then (⟨pl, D.lines ++ [line], D.due ++ [.tuple [.int pl.length, (replyD kind d (tabOf hand) D.host).2]], hostOf D.host (replyD kind d (tabOf hand) D.host).2⟩, false)
      else (⟨pl, D.lines ++ [line], D.due ++ [.tuple [.int ((k : Int) + 2), .str wd, .str line]], D.host⟩, true) := by
  obtain ⟨c0, c1⟩ := cell_ok hl hb (k := k) (by omega)
  have d1 : Int.fdiv (cs.getD k 0) 120 = cs.getD k 0 / 120 := Int.fdiv_eq_ediv_of_nonneg _ (by decide)
  obtain ⟨t0, t1⟩ := mod_in (Int.fdiv (cs.getD k 0) 4) (m := 6) (by decide)
  obtain ⟨k0, k1⟩ := mod_in (Int.fdiv (cs.getD k 0) 24) (m := 5) (by decide)
  obtain ⟨r1, r2⟩ := runs_ok hP t0 t1 (kd := Int.fmod (cs.getD k 0) 4) rfl
  exact ⟨_, _, _, _, _, _, rfl, r1, r2, k0, k1, by rw [d1]; omega, by rw [d1]; omega, wd_all hP (by omega) _ _, fun hp => turn_runs hP hp t0 t1 rfl, rfl⟩
theorem loop_go : ∀ (n k : Nat) (D : DSt) (K : KSt) (rest : List Str) (o : KOut), n + k = 5 → PileOk k D.pile → Sync D K → (dLoop (dTurn cs hand) n k D).lines = D.lines ++ rest → RunR rest ((k : Int) + 1) K o → outOk (dLoop (dTurn cs hand) n k D) o
  | 0, k, D, K, rest, o, _, _, S, e, r => by
    have : rest = [] := by
      have h := congrArg List.length e
      rw [List.length_append] at h
      have h2 : (dLoop (dTurn cs hand) 0 k D).lines.length = D.lines.length := rfl
      exact List.length_eq_zero_iff.mp (by omega)
    subst this
    rw [run_nil r]
    exact S.told
  | n + 1, k, D, K, rest, o, hnk, hP, S, e, r => by
    obtain ⟨rs, pl, wd, kind, d, line, hline, hr, hpl, k0, k1, d0, d1, hwd, hT, ht⟩ := turn_both hl hb hh (D := D) (show k < 5 by omega) hP
    have hne : rs ≠ [] := by intro z; have := hr.lo; rw [z] at this; simp at this
    obtain ⟨e1, e2⟩ := line_ws hh (fun x hx => (hr.val x hx).1) hne (reply_two kind d (tabOf hand) D.host)
    rw [← hline] at e1 e2
    have hans := answer hh k0 k1 d0 d1 D.host
    rw [dLoop] at e ⊢
    rcases hT S.dom with ⟨w0, w1, w2, w3⟩ | ⟨w0, w1, w2, w3⟩
    · rw [if_pos w0] at ht
      rw [ht] at e ⊢
      rw [if_neg Bool.false_ne_true] at e ⊢
      obtain ⟨rest', er⟩ := loop_lines cs hand n (k + 1) ⟨pl, D.lines ++ [line], D.due ++ [.tuple [.int pl.length, (replyD kind d (tabOf hand) D.host).2]], hostOf D.host (replyD kind d (tabOf hand) D.host).2⟩
      have e3 : rest = line :: rest' := by
        rw [er, List.append_assoc] at e
        exact (List.append_cancel_left e).symm
      subst e3
      cases r with
      | go h he nx =>
        rw [S.pile, e1] at h
        obtain rfl := w3 _ h
        refine loop_go n (k + 1) _ _ rest' o (by omega) hpl ⟨rfl, w1, ?_, ?_⟩ er (by rw [show (((k + 1 : Nat) : Int) + 1) = (k : Int) + 1 + 1 from by omega]; exact nx)
        · show hostOf K.host (ansD _ K.host) = _
          rw [e2, S.host, hans]
        · show K.told ++ [Dat.tuple [.int (((pileW pl).length : Int) - 1), ansD _ K.host]] = _
          rw [e2, S.host, hans, S.told]
          have : ((pileW pl).length : Int) - 1 = (pl.length : Int) := by simp [pileW]
          rw [this]
      | nag h he =>
        rw [S.pile, e1] at h
        obtain rfl := w3 _ h
        rw [e1] at he
        exact absurd w2 he
    · rw [if_neg w0] at ht
      rw [ht] at e ⊢
      rw [if_pos rfl] at e ⊢
      have e3 : rest = [line] := (List.append_cancel_left e).symm
      subst e3
      cases r with
      | go h he nx =>
        rw [S.pile, e1] at h
        obtain rfl := w1 _ h
        rw [e1] at he
        exact absurd he w2
      | nag h he =>
        rw [S.pile, e1] at h
        obtain rfl := w1 _ h
        show K.told ++ [Dat.tuple [.int ((k : Int) + 1 + 1), .str (nagMsg _ (wsOf line)), .str line]] = _
        rw [e1, w3, S.told, show (k : Int) + 1 + 1 = (k : Int) + 2 from by omega]
theorem loop_small : ∀ (n k : Nat) (D : DSt), n + k = 5 → PileOk k D.pile → D.lines.length = 1 + k → D.due.length = 1 + k → (∀ x ∈ D.lines, LineOk x) →
    (dLoop (dTurn cs hand) n k D).lines.length ≤ 6 ∧ (∀ x ∈ (dLoop (dTurn cs hand) n k D).lines, LineOk x) ∧ (dLoop (dTurn cs hand) n k D).due.length ≤ 6
  | 0, k, D, hnk, _, h1, h2, h3 => ⟨by show D.lines.length ≤ 6; omega, h3, by show D.due.length ≤ 6; omega⟩
  | n + 1, k, D, hnk, hP, h1, h2, h3 => by
    obtain ⟨rs, pl, wd, kind, d, line, hline, hr, hpl, k0, k1, d0, d1, hwd, hT, ht⟩ := turn_both hl hb hh (D := D) (show k < 5 by omega) hP
    have hok : LineOk line := by
      rw [hline]
      exact line_ok hh (by omega) hr (reply_two kind d (tabOf hand) D.host) (reply_all d0 d1 _ _) (reply_len d0 d1)
    have h4 : ∀ x ∈ D.lines ++ [line], LineOk x := fun x hx => (List.mem_append.mp hx).elim (h3 x) fun q => List.mem_singleton.mp q ▸ hok
    rw [dLoop, ht]
    by_cases w : wd = Str.ofString ""
    · rw [if_pos w, if_neg Bool.false_ne_true]
      exact loop_small n (k + 1) _ (by omega) hpl (by simp only [List.length_append, List.length_cons, List.length_nil]; omega) (by simp only [List.length_append, List.length_cons, List.length_nil]; omega) h4
    · rw [if_neg w, if_pos rfl]
      exact ⟨by simp only [List.length_append, List.length_cons, List.length_nil]; omega, h4, by simp only [List.length_append, List.length_cons, List.length_nil]; omega⟩
omit hl hb hh in
theorem answer_all {h : Int} (h0 : h ∈ hands) (d : Int) : AllS (Txt.join (Str.ofString "") ((signsS d).map (getT (tabOf h)))) := by
  have a5 : AllS (Str.ofString "") := by unfold AllS; decide +kernel
  have key : ∀ h ∈ hands, ∀ c ∈ SGS, AllS (getT (tabOf h) ⟨#[c]⟩) := by unfold AllS; decide +kernel
  refine txtjoin_all a5 fun p hp => ?_
  obtain ⟨x, hx, rfl⟩ := List.mem_map.mp hp
  obtain ⟨st, _, rfl⟩ := List.mem_map.mp hx
  obtain ⟨m, hm, e⟩ := sign_is d st
  rw [e]
  exact key h h0 m hm
omit hl hb hh in
theorem str_ok {x : Str} (h : AllS x) (n : Nat) : kqdOk n (.str x) = true := by
  have : PyData.strOk x = true := by
    unfold PyData.strOk
    rw [← Array.all_toList, List.all_eq_true]
    exact fun c hc => decide_eq_true (Nat.lt_trans (h c hc) (by decide))
  cases n <;> exact this
theorem ans_ok {kind d : Int} {host : Str} (hA : AllS host) : kqdOk 7 (replyD kind d (tabOf hand) host).2 = true ∧ AllS (hostOf host (replyD kind d (tabOf hand) host).2) := by
  have a5 : AllS (Str.ofString "") := by unfold AllS; decide +kernel
  unfold replyD
  split
  · by_cases q : hasT (tabOf hand) (Str.ofString "\"") = true
    · rw [if_pos q]
      exact ⟨str_ok a5 7, a5⟩
    · rw [if_neg q]
      exact ⟨str_ok (answer_all hh d) 7, answer_all hh d⟩
  split
  · by_cases q : hasT (tabOf hand) (markS d) = true ∨ (markS d = Str.ofString ";" ∧ hasT (tabOf hand) (whiteS d) = true)
    · rw [if_pos q]
      exact ⟨rfl, hA⟩
    · by_cases q2 : hasT (tabOf hand) (whiteS d) = true
      · rw [if_neg q, if_pos q2]
        exact ⟨rfl, hA⟩
      · rw [if_neg q, if_neg q2]
        refine ⟨?_, hA⟩
        show [Dat.str host, .int (Int.fdiv d 24)].all (kqdOk 6) = true
        simp only [List.all_cons, List.all_nil, str_ok hA 6, Bool.true_and, Bool.and_true]
        rfl
  split
  · exact ⟨rfl, hA⟩
  split
  · exact ⟨rfl, hA⟩
  · exact ⟨str_ok a5 7, a5⟩
theorem loop_due : ∀ (n k : Nat) (D : DSt), n + k = 5 → PileOk k D.pile → AllS D.host → (∀ x ∈ D.due, kqdOk 8 x = true) → ∀ x ∈ (dLoop (dTurn cs hand) n k D).due, kqdOk 8 x = true
  | 0, k, D, hnk, _, _, h2 => h2
  | n + 1, k, D, hnk, hP, h1, h2 => by
    obtain ⟨rs, pl, wd, kind, d, line, hline, hr, hpl, k0, k1, d0, d1, hwd, hT, ht⟩ := turn_both hl hb hh (D := D) (show k < 5 by omega) hP
    obtain ⟨q1, q2⟩ := ans_ok hl hb hh (kind := kind) (d := d) h1
    rw [dLoop, ht]
    by_cases w : wd = Str.ofString ""
    · rw [if_pos w, if_neg Bool.false_ne_true]
      refine loop_due n (k + 1) _ (by omega) hpl q2 fun x hx => ?_
      rcases List.mem_append.mp hx with hx | hx
      · exact h2 x hx
      · obtain rfl := List.mem_singleton.mp hx
        show [Dat.int _, _].all (kqdOk 7) = true
        simp only [List.all_cons, List.all_nil, q1, Bool.and_true]
        rfl
    · rw [if_neg w, if_pos rfl]
      intro x hx
      rcases List.mem_append.mp hx with hx | hx
      · exact h2 x hx
      · obtain rfl := List.mem_singleton.mp hx
        have hla : AllS line := by
          rw [hline]
          refine AllS.app ?_ (flat_all hh (reply_all d0 d1 _ _))
          refine txtjoin_all (by unfold AllS; decide +kernel) fun p hp => ?_
          obtain ⟨r, hr2, rfl⟩ := List.mem_map.mp hp
          rw [show Str.ofString " " = ⟨#[32]⟩ from by decide +kernel]
          intro c hc
          rw [tl_mul] at hc
          obtain rfl := (List.mem_replicate.mp hc).2
          decide
        show [Dat.int _, .str wd, .str line].all (kqdOk 7) = true
        simp only [List.all_cons, List.all_nil, str_ok hwd 7, str_ok hla 7, Bool.and_true]
        rfl
end
end Mine

-- PLs
namespace Mine
section
variable (cs : List Int) (hl : cs.length = 6) (hb : ∀ c ∈ cs, 0 ≤ c ∧ c < 100000000)
include hl hb
theorem hand_ok : Int.fmod (Int.fdiv (cs.getD 5 0) 24) 5 ∈ hands := by
  obtain ⟨i, hi, e⟩ := mod_nat (d := Int.fdiv (cs.getD 5 0) 24) (k := 5) (by decide)
  rw [e]
  have : ∀ i : Nat, i < 5 → (i : Int) ∈ hands := by decide
  exact this i (by omega)
theorem first_ok : ∃ c a b, (st0Of cs).pile = [runsI [c + 1, a] b] ∧ PileOk 0 (st0Of cs).pile := by
  obtain ⟨i, hi, e1⟩ := mod_nat (d := cs.getD 5 0) (k := 4) (by decide)
  obtain ⟨j, hj, e2⟩ := mod_nat (d := Int.fdiv (cs.getD 5 0) 4) (k := 3) (by decide)
  obtain ⟨k, hk, e3⟩ := mod_nat (d := Int.fdiv (cs.getD 5 0) 12) (k := 2) (by decide)
  have e : (st0Of cs).pile = [runsI [i + 1, j] k] := by
    unfold st0Of
    simp only [e1, e2, e3]
    show [[1 + (i : Int), (j : Int), (k : Int)]] = [[((i + 1 : Nat) : Int), (j : Int), (k : Int)]]
    rw [show (1 : Int) + (i : Int) = ((i + 1 : Nat) : Int) from by omega]
  refine ⟨i, j, k, e, ?_⟩
  rw [e]
  refine ⟨List.cons_ne_nil _ _, Nat.le_refl _, fun r hr => ?_⟩
  obtain rfl := List.mem_singleton.mp hr
  refine ⟨Nat.le_refl 3, Nat.le_refl 3, fun x hx => ?_, ?_⟩
  · have : x = ((i + 1 : Nat) : Int) ∨ x = (j : Int) ∨ x = (k : Int) := by simpa [runsI] using hx
    omega
  · show (1 : Int) ≤ ((i + 1 : Nat) : Int)
    omega
omit hl hb in
theorem start_go {line0 : Str} {rest : List Str} {K : KSt} {o : KOut} {rs : List Int} {host : Str} (hd : Dom (wsN [] 0) (wsR rs)) (hK1 : K.pile = [wsN [] 0]) (hK2 : K.host = host) (hK3 : K.told = []) (e1 : wsOf line0 = wsR rs)
    (ha : ansD (Txt.slice line0 (some (wsOf line0).n) none) host = .int 0) (h : RunR (line0 :: rest) 0 K o) : RunR rest ((0 : Int) + 1) ⟨pileW [rs], host, [.tuple [.int 1, .int 0]]⟩ o := by
  have hp : ∀ q, PileR K.pile (wsR rs) q → q = pileW [rs] := fun q r => by
    rw [hK1] at r
    exact pileR_push (p := [wsN [] 0]) hd r
  have ht : topW (pileW [rs]) = wsR rs := topW_pile (List.cons_ne_nil _ _)
  cases h with
  | go h he nx =>
    rw [e1] at h
    obtain rfl := hp _ h
    rw [hK2, ha, hK3] at nx
    exact nx
  | nag h he =>
    rw [e1] at h he
    obtain rfl := hp _ h
    rw [ht] at he
    exact absurd ⟨rfl, rfl⟩ he
theorem plain_law (o : KOut) (h : RunR (drawnD cs).lines 0 kSt0 o) : outOk (drawnD cs) o := by
  have hh := hand_ok cs hl hb
  obtain ⟨c, a, b, e, hP⟩ := first_ok cs hl hb
  have hrs : (st0Of cs).pile = [[1 + Int.fmod (cs.getD 5 0) 4, Int.fmod (Int.fdiv (cs.getD 5 0) 4) 3, Int.fmod (Int.fdiv (cs.getD 5 0) 12) 2]] := rfl
  have er : [1 + Int.fmod (cs.getD 5 0) 4, Int.fmod (Int.fdiv (cs.getD 5 0) 4) 3, Int.fmod (Int.fdiv (cs.getD 5 0) 12) 2] = runsI [c + 1, a] b := by
    rw [e] at hrs
    injection hrs with h; exact h.symm
  obtain ⟨rest, hrest⟩ := loop_lines cs (Int.fmod (Int.fdiv (cs.getD 5 0) 24) 5) 5 0 (st0Of cs)
  have el : (st0Of cs).lines = [lineOf (Int.fmod (Int.fdiv (cs.getD 5 0) 24) 5) (runsI [c + 1, a] b) (Str.ofString "220 ready")] := by
    rw [← er]; unfold st0Of; rfl
  have ed : (st0Of cs).due = [.tuple [.int 1, .int 0]] := by unfold st0Of; rfl
  have eh : (st0Of cs).host = Str.ofString "home" := by unfold st0Of; rfl
  have k1 : kSt0.pile = [wsN [] 0] := by
    have : kSt0.pile = [wsOf (Str.ofString "")] := rfl
    rw [this, ws_none]
  have k2 : kSt0.host = (st0Of cs).host := by rw [eh]
  have k3 : kSt0.told = [] := rfl
  have hne : runsI [c + 1, a] b ≠ [] := by simp [runsI]
  have hnn : ∀ x ∈ runsI [c + 1, a] b, 0 ≤ x := fun x hx => by
    obtain ⟨n, _, rfl⟩ := List.mem_map.mp hx
    omega
  obtain ⟨e1, e2⟩ := line_ws hh hnn hne (R := Str.ofString "220 ready") (by decide +kernel)
  have ha := answer0 hh (st0Of cs).host
  rw [← e2] at ha
  have hd : Dom (wsN [] 0) (wsR (runsI [c + 1, a] b)) := by rw [wsR_nat]; exact dom_empty _ _ (List.cons_ne_nil _ _)
  unfold drawnD at h ⊢
  rw [hrest, el, List.singleton_append] at h
  generalize lineOf (Int.fmod (Int.fdiv (cs.getD 5 0) 24) 5) (runsI [c + 1, a] b) (Str.ofString "220 ready") = line0 at h e1 ha
  have nx := start_go hd k1 k2 k3 e1 ha h
  refine loop_go hl hb hh 5 0 (st0Of cs) _ rest o rfl hP ⟨?_, ?_, rfl, ed.symm⟩ hrest nx
  · show pileW _ = _; rw [e]
  · rw [e]
    exact List.pairwise_cons.mpr ⟨fun y hy => List.mem_singleton.mp hy ▸ hd, List.pairwise_singleton _ _⟩
theorem plain_small : (drawnD cs).lines.length ≤ 6 ∧ (∀ x ∈ (drawnD cs).lines, LineOk x) ∧ (drawnD cs).due.length ≤ 6 := by
  have hh := hand_ok cs hl hb
  obtain ⟨c, a, b, e, hP⟩ := first_ok cs hl hb
  refine loop_small hl hb hh 5 0 (st0Of cs) rfl hP rfl rfl fun x hx => ?_
  obtain rfl := List.mem_singleton.mp hx
  have hr := hP.runs _ (.head _)
  exact line_ok hh (i := 0) (by decide) hr.w (by decide +kernel) (by unfold AllS; decide +kernel) (by decide +kernel)
theorem plain_lines : (drawnD cs).lines.length ≤ 6 ∧ (∀ x ∈ (drawnD cs).lines, LineOk x) ∧ (drawnD cs).due.length ≤ 6 := plain_small cs hl hb
theorem plain_due : ∀ d ∈ (drawnD cs).due, kqdOk 8 d = true := by
  have hh := hand_ok cs hl hb
  obtain ⟨c, a, b, e, hP⟩ := first_ok cs hl hb
  refine loop_due hl hb hh 5 0 (st0Of cs) rfl hP (show AllS (Str.ofString "home") from by unfold AllS; decide +kernel) fun x hx => ?_
  obtain rfl := List.mem_singleton.mp hx
  rfl
end
end Mine

-- CTc
namespace Mine
section
variable {h₀ h h' : Heap} {L e TB : Addr} {m : Str → Option Value} {fs : List Addr} {led : List (Addr × Obj)}
theorem lands_fr (F : Fr h₀ L h m) (Ld : Lands fs e (.ref TB) h h') (hfs : ∀ b ∈ fs, b = L) (he : h₀.get? e = none) (hTB : h₀.get? TB = none) : Fr h₀ L h' m := by
  have keep : ∀ b o, h₀.get? b = some o → h'.get? b = some o := fun b o q => by
    refine Ld.keep b o (F.keep b o q) (fun hm => ?_) (fun z => ?_) (fun z => ?_)
    · rw [hfs b hm, kts_self F] at q; cases q
    · rw [z, he] at q; cases q
    · injection z with z; rw [← z, hTB] at q; cases q
  obtain ⟨o, es, ep, h1, h2, h3⟩ := F.ns
  obtain ⟨sl, hs⟩ := Ld.slots L o h1 (fun vs q => by rw [h2] at q; cases q)
  exact ⟨⟨_, es, ep, hs, h2, h3⟩, keep, F.above⟩
theorem lands_news (N : News h₀ L h led) (Ld : Lands fs e (.ref TB) h h') (hfs : ∀ b ∈ fs, b = L) (hoff : ∀ p ∈ led, p.1 ≠ e ∧ p.1 ≠ TB) : News h₀ L h' led := fun p hp => by
  obtain ⟨h1, h2, h3⟩ := N p hp
  exact ⟨Ld.keep _ _ h1 (fun hm => h2 (hfs _ hm)) (hoff p hp).1 (fun z => by injection z with z; exact (hoff p hp).2 z.symm), h2, h3⟩
end
section
variable {w : World} {A : Around} {E : Value → Shared → Prop} {s : Shared} {A₀ : Around} {base h₀ : Heap} {L a e D T TB : Addr} {m : Str → Option Value} {cn : Str} {cs : Scope} {ccd : Value} {led : List (Addr × Obj)} {oTB : Obj} {ts : Array Value} {mean : ExcName → Option Value} {mg mb : Str → Option Value}
  {b₀ : Stmt} {suite : List Stmt} {pos np : Pos} {n : Str} {Q : Flow → Shared → Prop}
theorem nag_catch (hA : A.frames = some (envOf cn cs L a ccd :: [])) (B : Below A₀ base [] h₀) (F : Fr h₀ L s.heap m) (X : (Mine.hd.heap_1 w.params).In h₀) (TT : Top P0 L0 mean mg mb h₀)
    (N : News h₀ L s.heap ((e, nagO D T (.ref TB)) :: (TB, oTB) :: led)) (hd1 : oTB.data = .fields ts) (hd2 : ts[3]? = some .none) (hTe : @Ne Nat TB e) (hoff : ∀ p ∈ led, p.1 ≠ e ∧ p.1 ≠ TB)
    (k : ∀ h' TB' (E' : Value → Shared → Prop), Fr h₀ L h' (fun y => if y = n then some (.ref e) else m y) → News h₀ L h' ((e, nagO D T (.ref TB')) :: led) →
      wpAny (model PySem.Challenge.rw_wn0113_01.row.prog w) (A.mark (some (.ref e))) (execs (b₀ :: suite) (envOf cn cs L a ccd))
        (fun f s₄ => wpAny (model PySem.Challenge.rw_wn0113_01.row.prog w) A (do bindName (envOf cn cs L a ccd) n .none; unbindBehindTheSuite (envOf cn cs L a ccd) n pos) (fun _ s₅ => Q f s₅) E s₄) E' { s with heap := h', toks := s.toks + 1 })
    (hk : cs.kind = .function := by rfl) (hx : (envOf cn cs L a ccd).kindOf "NannyNag" = some .globalImplicit := by rfl) (hn : (envOf cn cs L a ccd).kindOf n = some .local := by rfl) :
    wpAny (model PySem.Challenge.rw_wn0113_01.row.prog w) A (noteFrame (.ref e) (envOf cn cs L a ccd)) (fun _ s₂ => wpAny (model PySem.Challenge.rw_wn0113_01.row.prog w) A (setFlight (.ref e) none) (fun _ s₃ =>
      wpAny (model PySem.Challenge.rw_wn0113_01.row.prog w) A (handleBy (.ref e) (envOf cn cs L a ccd) (.ExceptHandler (some (.Name "NannyNag" np)) (some n) (b₀ :: suite) pos :: [])) Q E s₃) E s₂) E s := by
  have he := (N _ (.head _)).2.2
  have hTB := (N _ (.tail _ (.head _))).2.2
  have hLs := F.ns.lt
  have hLsome : ∃ o, s.heap.get? L = some o := let ⟨o, _, _, h1, _⟩ := F.ns; ⟨o, h1⟩
  have fs1 : ∀ b ∈ frs (envOf cn cs L a ccd :: []), b = L := fun b hb => by
    rcases kts_mem hb with q | q
    · exact q
    · exact nomatch q
  refine note_land (W := fun s₃ => wpAny (model PySem.Challenge.rw_wn0113_01.row.prog w) A (handleBy (.ref e) (envOf cn cs L a ccd) (.ExceptHandler (some (.Name "NannyNag" np)) (some n) (b₀ :: suite) pos :: [])) Q E s₃) hA (B.push F hk).frames rfl
    ⟨(N _ (.head _)).1, .inr ⟨TB, oTB, ts, rfl, hTe, (N _ (.tail _ (.head _))).1, hd1, hd2⟩⟩ fun h1 TB1 Ld Ng hTB1 => ?_
  have F1 := lands_fr F Ld fs1 he hTB
  have N1 := lands_news (news_sub N fun p hp => .tail _ (.tail _ hp)) Ld fs1 hoff
  have o1 : ∀ p ∈ led, p.1 ≠ e ∧ p.1 ≠ TB1 := fun p hp => ⟨(hoff p hp).1, fun q => by
    have z := (N p (.tail _ (.tail _ hp))).1
    rw [q, hTB1] at z; cases z⟩
  have hTB1' : h₀.get? TB1 = none := kts_none F.keep hTB1
  have P : TopRead P0 L0 mg mb h₀ := topRead_of TT
  have X1 := X.keeps F1.keep
  have hC : h1.get? 59 = some (excClassObj "NannyNag" "NannyNag" 59 58 [.type "Exception"] [.type "Exception", .type "BaseException", .type "object"] true [] [] false none none (some (.ref 22)) none (some (.str "NannyNag" 196)) (some (.str "NannyNag" 204)) (some (.bool true)) "Exception.__new__") := X1 59 _ rfl
  refine wpAny_handleBy_cons (codeAny_handlers_test (name_K F1 X P (show nsIn (Mine.hd.heap_1 w.params) mainGlobals (Str.ofString "NannyNag") = some (some (.ref 59)) from rfl) ?_ hk hx (by decide))) (by intro q; cases q)
  refine wpAny_excMatches_sub_self hC Ng.at_ rfl rfl (codeAny_handlers_suite_as ?_)
  refine land_again Ng (by intro q; cases q) fun h2 Ld2 Ng2 => ?_
  have F2 := lands_fr F1 Ld2 (fun b hb => nomatch hb) he hTB1'
  have N2 := lands_news N1 Ld2 (fun b hb => nomatch hb) o1
  have N2' : News h₀ L h2 ((e, nagO D T (.ref TB1)) :: led) := faC ⟨Ng2.at_, (N _ (.head _)).2.1, he⟩ N2
  refine wpAny_storeName_local hn F2.ns (fun h3 hn3 hs3 => ?_) (by show (cs.kind == .class || (cs.kind == .module && L != mainGlobals)) = false; rw [hk]; rfl)
  exact k h3 TB1 _ (F2.set hn3 hs3) (N2'.set hs3)
end
end Mine

-- CTd
namespace Mine
theorem good_true {cl : Str → Option Addr} {mean : ExcName → Option Value} {ns : List Int} {s₁ s' : Shared} (hK : OldK s₁.heap s'.heap) (ho : s'.os = s₁.os) (hg : AllBare s'.gens) :
    GoodWG Challenge.rw_wn0113_01.row.claim cl mean [ofPy (PyData.list (List.map PyData.int ns))] s₁ (.ok (.ret (.bool true))) s' :=
  ⟨.inl ⟨.bool true, .bool true, [], rfl, fun _ => rfl, .bool true, postW_of (by wrow_shape) (by wtm_val) rfl, fun _ => ⟨List.nodup_nil, fun _ h => nomatch h⟩⟩, hK, ho, hg⟩
structure Hid (w : World) (h : Heap) (ls : Addr) (ol : Obj) (h₀ : Heap) : Prop where
  of : ∀ b o, h₀.get? b = some o → h.get? b = some o
  to : ∀ b o, h.get? b = some o → b ≠ 130 → b ≠ ls → h₀.get? b = some o
  n1 : h₀.get? 130 = none
  n2 : h₀.get? ls = none
  sz : h₀.objs.size = h.objs.size
  frag : (Mine.hd.heap_1 w.params).In h₀
theorem hid_of {w : World} {h : Heap} {ls : Addr} {ol : Obj} (X : (Mine.hd.heap_1 w.params).In h) (hl : h.get? ls = some ol) (hc : ol.cls = .type "list") : Hid w h ls ol (hideAll h [130, ls]) := by
  have to : ∀ b o, h.get? b = some o → b ≠ 130 → b ≠ ls → (hideAll h [130, ls]).get? b = some o := fun b o e h1 h2 => hideAll_get _ e (by simp [h1, h2])
  refine ⟨fun b o e => of_hideAll _ e, to, hideAll_none _ (by simp), hideAll_none _ (by simp), hideAll_size _ _, fun a o e => ?_⟩
  obtain ⟨p1, p2⟩ := frag_plain w a o e
  refine to a o (X a o e) p1 fun q => ?_
  have := X a o e
  rw [q, hl] at this
  obtain rfl := Option.some.inj this
  exact p2 hc
theorem hid_top {w : World} {h h₀ : Heap} {ls : Addr} {ol : Obj} {nk : Nat} {vs : List Value} {mean : ExcName → Option Value} {mg mb : Str → Option Value} (H : Hid w h ls ol h₀) (h130 : h.get? 130 = some (tblO #[])) (hl : h.get? ls = some ol) (hd : ol.data = .seq vs.toArray nk)
    (T : Top Mine.vX (looseW Mine.vX Mine.lX) mean mg mb h) : Top P0 L0 mean mg mb h₀ := by
  refine top0 T (free0 T) (fun b o es n e q => H.to b o e (fun z => ?_) fun z => ?_) (fun b o e q => H.to b o e (fun z => ?_) fun z => ?_)
  · rw [z, h130] at e; obtain rfl := Option.some.inj e; cases q
  · rw [z, hl] at e; obtain rfl := Option.some.inj e; rw [hd] at q; cases q
  · rw [z, h130] at e; obtain rfl := Option.some.inj e; cases q
  · rw [z, hl] at e; obtain rfl := Option.some.inj e; rw [hd] at q; cases q
theorem hid_old {w : World} {h h₀ h' : Heap} {ls L : Addr} {ol : Obj} {m : Str → Option Value} {ps : Array Value} {led : List (Addr × Obj)} (H : Hid w h ls ol h₀) (h130 : h.get? 130 = some (tblO #[])) (hct : isCodeTable h 130) (hl : h.get? ls = some ol)
    (F : Fr h₀ L h' m) (N : News h₀ L h' led) (m1 : ((130 : Addr), tblO ps) ∈ led) (m2 : (ls, ol) ∈ led) : OldK h h' := by
  refine ⟨fun b o e => ?_, fun b o e => ?_⟩
  · by_cases q : b = 130
    · subst q
      rw [h130] at e
      obtain rfl := Option.some.inj e
      refine .inr (.inl ⟨hct, rfl, #[], ps, rfl, ?_⟩)
      have z := (N _ m1).1
      rw [z, Array.empty_append]
    by_cases q2 : b = ls
    · subst q2
      rw [hl] at e
      obtain rfl := Option.some.inj e
      exact .inl (N _ m2).1
    · exact .inl (F.keep b o (H.to b o e q q2))
  · by_cases q : b = 130
    · exact ⟨_, q ▸ (N _ m1).1⟩
    by_cases q2 : b = ls
    · exact ⟨_, q2 ▸ (N _ m2).1⟩
    · exact ⟨_, F.keep b o (H.to b o e q q2)⟩
theorem wpC_anyE {α : Type} {M : Model} {A : Around} {t : Sem α} {Q : α → Shared → Prop} {E : Value → Shared → Prop} {s : Shared} (h : ∀ E, wpC M A t Q E s) : wpC M A t Q E s := h E
theorem kk_cells {a : Addr × Obj} {tl r : List (Addr × Obj)} (h : a ∈ tl) : ∀ p ∈ a :: r, p ∈ tl ++ r := fun p hp => by
  rcases List.mem_cons.mp hp with q | q
  · exact q ▸ List.mem_append_left _ h
  · exact List.mem_append_right _ q
theorem kk_drawn {t l b c d : Addr × Obj} {tl dtl : List (Addr × Obj)} (h1 : t ∈ tl ++ c :: b :: d :: []) (h2 : l ∈ tl ++ c :: b :: d :: []) (h3 : ∀ p ∈ dtl, p ∈ tl ++ c :: b :: d :: []) : ∀ p ∈ t :: b :: d :: l :: dtl, p ∈ tl ++ c :: b :: d :: [] := fun p hp => by
  rcases List.mem_cons.mp hp with q | hp
  · exact q ▸ h1
  rcases List.mem_cons.mp hp with q | hp
  · exact q ▸ List.mem_append_right _ (.tail _ (.head _))
  rcases List.mem_cons.mp hp with q | hp
  · exact q ▸ List.mem_append_right _ (.tail _ (.tail _ (.head _)))
  rcases List.mem_cons.mp hp with q | hp
  · exact q ▸ h2
  · exact h3 p hp
end Mine

-- CLw
namespace Mine
theorem kk_law {a x b c d : Addr × Obj} {r : List (Addr × Obj)} : ∀ p ∈ a :: b :: c :: d :: r, p ∈ a :: x :: b :: c :: d :: r := fun p hp => by
  rcases List.mem_cons.mp hp with q | hp
  · exact q ▸ .head _
  · exact .tail _ (.tail _ hp)
theorem lt2_law {ls lA : Addr} {ol : Obj} {lvs : Array Value} {lk : Nat} {dtl : List (Addr × Obj)} (h : ol.cls = .type "list") (h2 : ∀ p ∈ dtl, LT2 p.2) : ∀ p ∈ (ls, ol) :: (lA, W.listOf lvs lk) :: dtl, LT2 p.2 :=
  faC (.inl h) (faC (.inl rfl) h2)
theorem kk_off {l Td ls lA : Addr} {ol oA : Obj} {dtl : List (Addr × Obj)} (o : @LT.lt Nat _ Td l ∧ @LT.lt Nat _ 130 l ∧ @LT.lt Nat _ ls l ∧ @LT.lt Nat _ lA l ∧ AllLt l dtl) : ∀ p ∈ (ls, ol) :: (lA, oA) :: dtl, p.1 ≠ l :=
  faC (Nat.ne_of_lt o.2.2.1) (faC (Nat.ne_of_lt o.2.2.2.1) fun p hp => Nat.ne_of_lt (allLt_in o.2.2.2.2 p hp))
theorem ok_done {D : DSt} {told : List Dat} (h : outOk D (.done told)) : told = D.due := h
theorem ok_nag {D : DSt} {told : List Dat} {k : Int} {msg line : Str} (h : outOk D (.nag told k msg line)) : told ++ [.tuple [.int k, .str msg, .str line]] = D.due := h
theorem dat_list {l : List (Addr × Obj)} {a : Addr} {ds : List Dat} (h : DatIn l (.ref a) (.list ds)) : ∃ vs n, (a, W.listOf vs.toArray n) ∈ l ∧ DatAll l vs ds := by
  cases h with
  | list hm hr => exact ⟨_, _, hm, hr⟩
theorem dict_law {h₀ h : Heap} {L e TB D tA : Addr} {oe oTB : Obj} {es : List DictEntry} {n k : Nat} {vs : Array Value} {r : List (Addr × Obj)} (N : News h₀ L h ((e, oe) :: (TB, oTB) :: (D, dictOf es n) :: (tA, W.listOf vs k) :: r)) : D ≠ tA :=
  ne_of_cls N (.tail _ (.tail _ (.head _))) (.tail _ (.tail _ (.tail _ (.head _)))) (by show Value.type "dict" ≠ Value.type "list"; decide)
theorem post_law {h₀ h : Heap} {L e TB D tA Td ls lA : Addr} {oe oTB oD ol oA ot : Obj} {vs : Array Value} {k : Nat} {tl9 dtl : List (Addr × Obj)} (N : News h₀ L h ((e, oe) :: (TB, oTB) :: (D, oD) :: (tA, W.listOf vs k) :: (130, ot) :: (tl9 ++ (ls, ol) :: (lA, oA) :: dtl)))
    (hc : ∀ p ∈ tl9, Cls3 p.2) (o : @LT.lt Nat _ Td tA ∧ @LT.lt Nat _ 130 tA ∧ @LT.lt Nat _ ls tA ∧ @LT.lt Nat _ lA tA ∧ AllLt tA dtl) : ∀ p ∈ (130, ot) :: (tl9 ++ (ls, ol) :: (lA, oA) :: dtl), p.1 ≠ tA :=
  faC (Nat.ne_of_lt o.2.1) fun p hp => (List.mem_append.mp hp).elim (fun h => ne_of_cls N (.tail _ (.tail _ (.tail _ (.tail _ (.tail _ (List.mem_append_left _ h)))))) (.tail _ (.tail _ (.tail _ (.head _)))) (hc p h).1) fun h => kk_off o p h
theorem len_law {tl : List (Addr × Obj)} {vs : List Value} {told due : List Dat} {d : Dat} (h : DatAll tl vs told) (e : told ++ [d] = due) (hd : due.length ≤ 6) : vs.length ≤ 6 := by
  have := h.length
  subst e
  rw [List.length_append] at hd
  exact Nat.le_trans (Nat.le_of_eq this) (Nat.le_trans (Nat.le_add_right _ _) hd)
theorem told_dat {tl : List (Addr × Obj)} {D : Addr} {vs : List Value} {told due : List Dat} {k : Int} {msg line : Str} {t1 t2 t3 : Tok} (h : DatAll tl vs told) (e : told ++ [.tuple [.int k, .str msg, .str line]] = due) :
    DatAll ((D, { cls := .type "tuple", data := .seq #[.int k t1, .str msg t2, .str line t3] }) :: tl) (vs ++ [.ref D]) due :=
  e ▸ (h.mono fun p hp => .tail _ hp).append (.one (.tuple (vs := [.int k t1, .str msg t2, .str line t3]) (.head _) (.cons (.int _ _) (.cons (.str _ _) (.cons (.str _ _) .nil)))))
theorem told_sub {x a b c d : Addr × Obj} {tl r : List (Addr × Obj)} : ∀ p ∈ x :: tl, p ∈ x :: a :: b :: c :: d :: (tl ++ r) := fun p hp => by
  rcases List.mem_cons.mp hp with q | hp
  · exact q ▸ .head _
  · exact .tail _ (.tail _ (.tail _ (.tail _ (.tail _ (List.mem_append_left _ hp)))))
theorem claimX : Challenge.rw_wn0113_01.Holds := hd (by
  k_fill
  intro w s₀ s₁ mg mb G Y fa o pm cd doc dV kV ho hdt hcd hD hmg hg args vals as hpre hlay hrd hwl hlo
  have KX := kIn_of Y
  refine Ground.open G ?_
  intro T B D TE TW
  clear D B TE TW
  wrow_args hpre hlay hrd hwl hlo
  rename_i ns _ _ _ _ _ _ _ ls vs _ hL _ _ _ hI _ h63 _
  have hn63 : ns.length ≤ 63 := by omega
  obtain ⟨ol, hol, hlc, nk, hld⟩ := hL
  obtain ⟨h130, hct⟩ := tab130 T KX
  obtain ⟨h₀, hh₀⟩ : ∃ h₀, h₀ = hideAll s₁.heap [130, ls] := ⟨_, rfl⟩
  have H : Hid w s₁.heap ls ol h₀ := hh₀ ▸ hid_of KX hol hlc
  have T0 := hid_top H h130 hol hld T
  have X0 := H.frag
  have B0 := below_caller h₀
  have he := Dflts.none hD rfl
  subst he
  have he := Dflts.noKw hD
  subst he
  refine ⟨good_true (OldK.refl _) rfl (.of_eq hg), ?_⟩
  show wpC _ callerA (call (.ref fa) [.ref ls]) _ _ s₁
  refine wpC_call ?_
  refine codeC_call_def (by decide) ho hdt (Top.nolimit T) hcd rfl (BindsTo.of_eq rfl) (by dsimp only [docDef]; decide) (locs rfl) (fun h₁ hns hk₁ => ?_)
  have F1 : Fr h₀ s₁.heap.objs.size h₁ _ := ⟨hns, fun b o e => hk₁ b o (H.of b o e), Nat.le_of_eq H.sz⟩
  have N1 : News h₀ s₁.heap.objs.size h₁ [(130, tblO #[]), (ls, ol)] := faC ⟨hk₁ _ _ h130, Nat.ne_of_lt (Heap.lt_size h130), H.n1⟩ (fa1 ⟨hk₁ _ _ hol, Nat.ne_of_lt (Heap.lt_size hol), H.n2⟩)
  have hdp : 1 + claimMargin + 1 + 20 < recursionLimit := by decide
  have hun : 4 + 3 + 2000 < cLine := by decide
  have hG : AllBare s₁.gens := .of_eq hg
  clear hg hmg hD hcd hdt ho hns hk₁
  show wpC _ (ktrTop (1 + claimMargin + 1) (4 + 3) (some []) (Str.ofString "law") _ s₁.heap.objs.size fa cd [] []) (execs _ (envOf (Str.ofString "law") _ s₁.heap.objs.size fa cd)) _ _ _
  generalize 1 + claimMargin + 1 = dp at hdp ⊢
  generalize 4 + 3 = un at hun ⊢
  generalize s₁.heap.objs.size = L at F1 N1 ⊢
  refine wpC_anyE fun E => ?_
  dsimp only [docDef]
  k_with_none
  k_with "m eval Name" => (k_here; name_kind "local"; k_dflt (refine' ld (by k_asm) ?_ ?_; (first | exact rfl | (rotate_left; exact rfl)); k_whole))
  k_with "m k_mem" => first | with_reducible assumption | (refine' List.mem_append_left _ ?_; k_mem) | (refine' List.mem_append_right _ ?_; k_mem)
  k_with "m ne" => first | assumption | (rename ∀ p ∈ _, _ ≠ Prod.fst p => hh2; k_extra "m ne1") | (refine ne_of_stored (by assumption) ?_; decide +kernel)
  k_with "m ne1" => (rename ∀ p ∈ _, _ ≠ Prod.fst p => hh2; first | (have hh3 := hh2 _ (List.Mem.head _); exact hh3) | (replace hh2 := ne_tail hh2; k_extra "m ne1"))
  k_with "m nes" => first | exact fa0 | (refine faC ?_ ?_; (k_extra "m ne"); (k_extra "m nes"))
  k_with "m same1" => first | (refine kstB_out ?_ (by assumption); k_extra "m nes") | (refine (if_neg ?_).trans ?_; (k_extra "m ne"); (k_extra "m same1"))
  k_with "m same" => (intro z h1 h2 h3; k_extra "m same1")
  k_with "m sameW" => (intro z h2 h3; k_extra "m same1")
  k_with "m k_all" => first | with_reducible assumption | (refine' List.forall_mem_append.mpr ⟨?_, ?_⟩; (k_all); (k_all))
  k_with "hk on" => fail_if_success (fail_if_success (with_reducible rename HkOn => hkOn))
  k_with "hk ne" => first | exact neAround | exact neShared | exact neWorld | exact neDrawn | exact neGen | exact neSCtx | exact neI | exact Nonempty.intro (by constructor <;> first | exact default | (constructor <;> exact default))
  k_with "m execs cons" => (k_extra "hk on"; (try k_made); (with_reducible refine wpAny_execs_cons ?_); try dsimp only)
  k_with "m execs nil" => (k_extra "hk on"; refine wpAny_execs_nil ?_)
  k_with "hk omega" => ((k_extra "hk on"); dsimp +zetaDelta only; first | lia | omega +splitDisjunctions)
  k_with "hk ne" => exact neWsD
  k_with "m k_mem" => first | (with_reducible assumption) | exact List.Mem.head _ | ((with_reducible refine' List.mem_append_left _ ?_); k_mem) | ((with_reducible refine' List.mem_append_right _ ?_); k_mem) | ((with_reducible refine' List.Mem.tail _ ?_); (try show (_ : Addr × Obj) ∈ (_ : List (Addr × Obj))); k_mem)
  k_with "m same2" => first | with_reducible rfl | (refine (if_neg ?_).trans ?_; (k_extra "m ne"); (k_extra "m same2"))
  k_with "m same3" => first | (refine kstB_out ?_ (by assumption); k_extra "m nes") | (refine (kstB_f (cPs_out ?_ (by assumption))).trans ?_; (k_extra "m ne"); refine (if_neg (at_out (by assumption))).trans ?_; k_extra "m same3") | (refine (if_neg ?_).trans ?_; (k_extra "m ne"); (k_extra "m same3"))
  k_with_none
  k_with "m eval Name" => (k_here; name_kind "local"; k_dflt (refine' ld (by k_asm) ?_ ?_; (first | exact rfl | (rotate_left; exact rfl)); k_whole))
  k_with "m k_mem" => first | with_reducible assumption | (refine' List.mem_append_left _ ?_; k_mem) | (refine' List.mem_append_right _ ?_; k_mem)
  k_with "m ne" => first | assumption | (rename ∀ p ∈ _, _ ≠ Prod.fst p => hh2; k_extra "m ne1") | (refine ne_of_stored (by assumption) ?_; decide +kernel)
  k_with "m ne1" => (rename ∀ p ∈ _, _ ≠ Prod.fst p => hh2; first | (have hh3 := hh2 _ (List.Mem.head _); exact hh3) | (replace hh2 := ne_tail hh2; k_extra "m ne1"))
  k_with "m nes" => first | exact fa0 | (refine faC ?_ ?_; (k_extra "m ne"); (k_extra "m nes"))
  k_with "m same1" => first | (refine kstB_out ?_ (by assumption); k_extra "m nes") | (refine (if_neg ?_).trans ?_; (k_extra "m ne"); (k_extra "m same1"))
  k_with "m same" => (intro z h1 h2 h3; k_extra "m same1")
  k_with "m sameW" => (intro z h2 h3; k_extra "m same1")
  k_with "m k_all" => first | with_reducible assumption | (refine' List.forall_mem_append.mpr ⟨?_, ?_⟩; (k_all); (k_all))
  k_with "hk on" => fail_if_success (fail_if_success (with_reducible rename HkOn => hkOn))
  k_with "hk ne" => first | exact neAround | exact neShared | exact neWorld | exact neDrawn | exact neGen | exact neSCtx | exact neI | exact Nonempty.intro (by constructor <;> first | exact default | (constructor <;> exact default))
  k_with "m execs cons" => (k_extra "hk on"; (try k_made); (with_reducible refine wpAny_execs_cons ?_); try dsimp only)
  k_with "m execs nil" => (k_extra "hk on"; refine wpAny_execs_nil ?_)
  k_with "hk omega" => ((k_extra "hk on"); dsimp +zetaDelta only; first | lia | omega +splitDisjunctions)
  k_with "hk ne" => exact neWsD
  k_with "m k_mem" => first | (with_reducible assumption) | exact List.Mem.head _ | ((with_reducible refine' List.mem_append_left _ ?_); k_mem) | ((with_reducible refine' List.mem_append_right _ ?_); k_mem) | ((with_reducible refine' List.Mem.tail _ ?_); (try show (_ : Addr × Obj) ∈ (_ : List (Addr × Obj))); k_mem)
  k_with "m same2" => first | with_reducible rfl | (refine (if_neg ?_).trans ?_; (k_extra "m ne"); (k_extra "m same2"))
  k_with "m same3" => first | (refine kstB_out ?_ (by assumption); k_extra "m nes") | (refine (kstB_f (cPs_out ?_ (by assumption))).trans ?_; (k_extra "m ne"); refine (if_neg (at_out (by assumption))).trans ?_; k_extra "m same3") | (refine (if_neg ?_).trans ?_; (k_extra "m ne"); (k_extra "m same3"))
  k_with "m call ref" =>
    first | (show wpAny _ _ (call (Value.ref _) [_]) _ _ _) | (show wpAny _ _ (call (Value.ref _) [_, _]) _ _ _) | (show wpAny _ _ (call (Value.ref _) [_, _, _]) _ _ _) | (show wpAny _ _ (call (Value.ref _) [_, _, _, _]) _ _ _) | skip
    rename Fr _ _ _ _ => F3
    rename News _ _ _ _ => N3
    first
    | (with_reducible show wpAny _ _ (call (Value.ref 233) [Value.ref ls]) _ _ _
       refine spec_use (cCells w _ ls vs ns (⟨ol, nk, .tail _ (.head _), hlc, hld⟩ : ListIn _ ls vs) hI hn63) (by k_asm) F3 (by k_asm) N3 (by k_asm) rfl (by ktr_room) (by ktr_units) (fun r7 tl7 h7 tk7 F7 N7' hp7 => ?_)
       (obtain ⟨cA, cvs, cs, rfl, hcm, hIc, hcl, hcb⟩ := hp7; have N7 := news_sub N7' (kk_cells hcm); clear N7' F3 N3))
    | (with_reducible show wpAny _ _ (call (Value.ref 269) [Value.ref cA]) _ _ _
       refine spec_use (cDrawn w _ cA cvs cs (.head _) hIc hcl hcb) (by k_asm) F3 (by k_asm) N3 (by k_asm) rfl (by ktr_room) (by ktr_units) (fun r7 tl7 h7 tk7 F7 N7' hp7 => ?_)
       (obtain ⟨Td, lA, lvs, lk, dA, nd, rfl, mT, mL, hSl, hDd⟩ := hp7; obtain ⟨dtl, hdt1, hdt2, hDd2⟩ := dat_small hDd; have N7 := news_sub N7' (kk_drawn mT mL hdt1); clear N7' F3 N3 hDd))
  refine wpC_cutN 2 ?_
  simp only [List.take_succ_cons, List.take_zero, List.drop_succ_cons, List.drop_zero]
  (repeat' (first | (k_unfold; (try dsimp only)) | (k_end; kc_close) | (walk1; (try dsimp only)) | (dsimp only; walk1) | (leave1; (try dsimp only)) | fail "no step"))
  (try dsimp only)
  rename Fr _ _ _ _ => F2
  rename News _ _ _ _ => N2
  rename (_ < _ ∧ _) => o2
  rename_i tA hx1 hx2
  obtain ⟨hpl, hpx, hpn⟩ := plain_lines cs hcl hcb
  have hpd := plain_due cs hcl hcb
  have hlaw := plain_law cs hcl hcb
  generalize drawnD cs = DD at *
  refine wpC_execs_cons (wpC_Try ?_)
  refine wpC_execs_cons (wpC_Expr (wpC_Call ?_))
  k_steps
  refine wpC_callDef ?_
  k_steps
  rename Fr _ _ _ _ => F3
  rename News _ _ _ _ => N3
  refine atDef F3 X0 (by k_is) ?_
  have N4 := news_sub N3 (kk_law)
  refine cChecked w _ lA _ lvs lk 0 DD.lines (.tail _ (.head _)) hSl (lt2_law (ls := ls) hlc hdt2) (kk_off o2) hpl hpx _ _ _ _ _ _ _ _ _ _ _ _ _ _ _ _ _ _ B0 F3 X0 N4 T0 X0 T0 rfl (by ktr_room) (by ktr_units) hG (fun tvs tk9 tl9 told h9 tk8 F9 N9 hD9 hc9 hr9 => ?_) (fun tvs tk9 tl9 told k9 msg9 line9 t91 t92 t93 u91 u92 u93 e9 D9 T9 TB9 oTB9 ts9 n9 ps9 s9 F9 N9 hd91 hd92 hTe9 hoff9 hD9 hc9 hr9 hG9 ho9 => ?_)
  · have hto := ok_done (hlaw _ hr9)
    subst hto
    obtain ⟨dvs, dk, mD, hDa⟩ := dat_list hDd2
    k_with_none
    k_with "m eval Name" => (k_here; name_kind "local"; k_dflt (refine' ld (by k_asm) ?_ ?_; (first | exact rfl | (rotate_left; exact rfl)); k_whole))
    k_with "m k_mem" => first | with_reducible assumption | (refine' List.mem_append_left _ ?_; k_mem) | (refine' List.mem_append_right _ ?_; k_mem)
    k_with "m ne" => first | assumption | (rename ∀ p ∈ _, _ ≠ Prod.fst p => hh2; k_extra "m ne1") | (refine ne_of_stored (by assumption) ?_; decide +kernel)
    k_with "m ne1" => (rename ∀ p ∈ _, _ ≠ Prod.fst p => hh2; first | (have hh3 := hh2 _ (List.Mem.head _); exact hh3) | (replace hh2 := ne_tail hh2; k_extra "m ne1"))
    k_with "m nes" => first | exact fa0 | (refine faC ?_ ?_; (k_extra "m ne"); (k_extra "m nes"))
    k_with "m same1" => first | (refine kstB_out ?_ (by assumption); k_extra "m nes") | (refine (if_neg ?_).trans ?_; (k_extra "m ne"); (k_extra "m same1"))
    k_with "m same" => (intro z h1 h2 h3; k_extra "m same1")
    k_with "m sameW" => (intro z h2 h3; k_extra "m same1")
    k_with "m k_all" => first | with_reducible assumption | (refine' List.forall_mem_append.mpr ⟨?_, ?_⟩; (k_all); (k_all))
    k_with "hk on" => fail_if_success (fail_if_success (with_reducible rename HkOn => hkOn))
    k_with "hk ne" => first | exact neAround | exact neShared | exact neWorld | exact neDrawn | exact neGen | exact neSCtx | exact neI | exact Nonempty.intro (by constructor <;> first | exact default | (constructor <;> exact default))
    k_with "m execs cons" => (k_extra "hk on"; (try k_made); (with_reducible refine wpAny_execs_cons ?_); try dsimp only)
    k_with "m execs nil" => (k_extra "hk on"; refine wpAny_execs_nil ?_)
    k_with "hk omega" => ((k_extra "hk on"); dsimp +zetaDelta only; first | lia | omega +splitDisjunctions)
    k_with "hk ne" => exact neWsD
    k_with "m k_mem" => first | (with_reducible assumption) | exact List.Mem.head _ | ((with_reducible refine' List.mem_append_left _ ?_); k_mem) | ((with_reducible refine' List.mem_append_right _ ?_); k_mem) | ((with_reducible refine' List.Mem.tail _ ?_); (try show (_ : Addr × Obj) ∈ (_ : List (Addr × Obj))); k_mem)
    k_with "m same2" => first | with_reducible rfl | (refine (if_neg ?_).trans ?_; (k_extra "m ne"); (k_extra "m same2"))
    k_with "m same3" => first | (refine kstB_out ?_ (by assumption); k_extra "m nes") | (refine (kstB_f (cPs_out ?_ (by assumption))).trans ?_; (k_extra "m ne"); refine (if_neg (at_out (by assumption))).trans ?_; k_extra "m same3") | (refine (if_neg ?_).trans ?_; (k_extra "m ne"); (k_extra "m same3"))
    k_with "m compareOp Eq ref ref" =>
      rename News _ _ _ _ => N6
      refine kqd_eq N6 (.head _) rfl rfl hD9 (fun p hp => .tail _ (.tail _ (List.mem_append_left _ hp))) (.tail _ (.tail _ (List.mem_append_right _ (.tail _ (.tail _ mD))))) rfl rfl hDa (fun p hp => .tail _ (.tail _ (List.mem_append_right _ (.tail _ (.tail _ hp))))) hpd hpd (by ktr_units) ?_
    refine ⟨rfl, wpC_any ?_⟩
    k_steps
    dsimp only
    refine wpC_any ?_
    k_steps
    dsimp only
    refine wpC_any ?_
    k_steps
    dsimp only
    rename Fr _ _ _ _ => F6
    have e9 : ∀ i : Decidable (DD.due = DD.due), @decide _ i = true := fun i => decide_eq_true rfl
    rw [e9]
    rename News _ _ _ _ => N8
    exact good_true (hid_old H h130 hct hol F6 N8 (.tail _ (.head _)) (.tail _ (.tail _ (List.mem_append_right _ (.head _))))) rfl hG
  · have hto := ok_nag (hlaw _ hr9)
    obtain ⟨dvs, dk, mD, hDa⟩ := dat_list hDd2
    have htl := len_law hD9 hto hpn
    have hpost := post_law N9 hc9 o2
    have hDl := dict_law N9
    have hel : e9 ≠ tA := Ne.symm (hoff9 (tA, _) (.tail _ (.head _))).1
    refine nag_catch rfl B0 F9 X0 T0 N9 hd91 hd92 hTe9 hoff9 (fun h10 TB10 E10 F10 N10 => ?_)
    k_with_none
    k_with "m eval Name" => (k_here; name_kind "local"; k_dflt (refine' ld (by k_asm) ?_ ?_; (first | exact rfl | (rotate_left; exact rfl)); k_whole))
    k_with "m k_mem" => first | with_reducible assumption | (refine' List.mem_append_left _ ?_; k_mem) | (refine' List.mem_append_right _ ?_; k_mem)
    k_with "m ne" => first | assumption | (rename ∀ p ∈ _, _ ≠ Prod.fst p => hh2; k_extra "m ne1") | (refine ne_of_stored (by assumption) ?_; decide +kernel)
    k_with "m ne1" => (rename ∀ p ∈ _, _ ≠ Prod.fst p => hh2; first | (have hh3 := hh2 _ (List.Mem.head _); exact hh3) | (replace hh2 := ne_tail hh2; k_extra "m ne1"))
    k_with "m nes" => first | exact fa0 | (refine faC ?_ ?_; (k_extra "m ne"); (k_extra "m nes"))
    k_with "m same1" => first | (refine kstB_out ?_ (by assumption); k_extra "m nes") | (refine (if_neg ?_).trans ?_; (k_extra "m ne"); (k_extra "m same1"))
    k_with "m same" => (intro z h1 h2 h3; k_extra "m same1")
    k_with "m sameW" => (intro z h2 h3; k_extra "m same1")
    k_with "m k_all" => first | with_reducible assumption | (refine' List.forall_mem_append.mpr ⟨?_, ?_⟩; (k_all); (k_all))
    k_with "hk on" => fail_if_success (fail_if_success (with_reducible rename HkOn => hkOn))
    k_with "hk ne" => first | exact neAround | exact neShared | exact neWorld | exact neDrawn | exact neGen | exact neSCtx | exact neI | exact Nonempty.intro (by constructor <;> first | exact default | (constructor <;> exact default))
    k_with "m execs cons" => (k_extra "hk on"; (try k_made); (with_reducible refine wpAny_execs_cons ?_); try dsimp only)
    k_with "m execs nil" => (k_extra "hk on"; refine wpAny_execs_nil ?_)
    k_with "hk omega" => ((k_extra "hk on"); dsimp +zetaDelta only; first | lia | omega +splitDisjunctions)
    k_with "hk ne" => exact neWsD
    k_with "m k_mem" => first | (with_reducible assumption) | exact List.Mem.head _ | ((with_reducible refine' List.mem_append_left _ ?_); k_mem) | ((with_reducible refine' List.mem_append_right _ ?_); k_mem) | ((with_reducible refine' List.Mem.tail _ ?_); (try show (_ : Addr × Obj) ∈ (_ : List (Addr × Obj))); k_mem)
    k_with "m same2" => first | with_reducible rfl | (refine (if_neg ?_).trans ?_; (k_extra "m ne"); (k_extra "m same2"))
    k_with "m same3" => first | (refine kstB_out ?_ (by assumption); k_extra "m nes") | (refine (kstB_f (cPs_out ?_ (by assumption))).trans ?_; (k_extra "m ne"); refine (if_neg (at_out (by assumption))).trans ?_; k_extra "m same3") | (refine (if_neg ?_).trans ?_; (k_extra "m ne"); (k_extra "m same3"))
    k_with "m getMethod ref" =>
      rename Fr _ _ _ _ => F6
      rename News _ _ _ _ => N6
      refine nag_method (X0.keeps F6.keep) (⟨(N6 (e9, nagO D9 T9 (.ref TB10)) (by k_mem)).1, rfl, rfl, (N6 (D9, dictOf (nagEs w k9 msg9 line9 t91 t92 t93 u91 u92 u93) n9) (by k_mem)).1⟩ : InstAt _ e9 (nagO D9 T9 (.ref TB10)) 59 (some (dictOf (nagEs w k9 msg9 line9 t91 t92 t93 u91 u92 u93) n9))) (by exact rfl) (by exact rfl) (by exact rfl) ?_
    k_with "m call builtin:list.append" =>
      rename Fr _ _ _ _ => F6
      rename News _ _ _ _ => N6
      rename (_ < _ ∧ _) => o6
      refine append_K F6 N6 (.tail (Nat.ne_of_gt o6.2.2.1) (.tail hel (.tail hDl (.head hpost)))) (fun h6 F' N' => ?_) (by rw [List.size_toArray]; exact Nat.le_trans htl (by decide))
    k_with "m call ref" =>
      rename Fr _ _ _ _ => F3
      rename News _ _ _ _ => N3
      show wpAny _ _ (call (Value.ref _) [Value.ref e9]) _ _ _
      first
      | ((with_reducible show wpAny _ _ (call (Value.ref 49) [Value.ref e9]) _ _ _)
         refine cGetMsg w _ e9 D9 T9 (.ref TB10) k9 msg9 line9 t91 t92 t93 u91 u92 u93 n9 (show (e9, nagO D9 T9 (.ref TB10)) ∈ _ from by k_mem) (show (D9, dictOf (nagEs w k9 msg9 line9 t91 t92 t93 u91 u92 u93) n9) ∈ _ from by k_mem) _ _ _ _ _ _ _ _ _ _ _ _ _ _ _ _ _ _ _ _ _ B0 F3 X0 N3 T0 rfl (by ktr_room) (by ktr_units) (fun r7 tl7 h7 tk7 F7 N7' hp7 => ?_)
         subst hp7
         have N7 := news_sub N7' (fun p hp => List.mem_append_right _ hp)
         clear N7' F3 N3)
      | ((with_reducible show wpAny _ _ (call (Value.ref 56) [Value.ref e9]) _ _ _)
         refine cGetLine w _ e9 D9 T9 (.ref TB10) k9 msg9 line9 t91 t92 t93 u91 u92 u93 n9 (show (e9, nagO D9 T9 (.ref TB10)) ∈ _ from by k_mem) (show (D9, dictOf (nagEs w k9 msg9 line9 t91 t92 t93 u91 u92 u93) n9) ∈ _ from by k_mem) _ _ _ _ _ _ _ _ _ _ _ _ _ _ _ _ _ _ _ _ _ B0 F3 X0 N3 T0 rfl (by ktr_room) (by ktr_units) (fun r7 tl7 h7 tk7 F7 N7' hp7 => ?_)
         subst hp7
         have N7 := news_sub N7' (fun p hp => List.mem_append_right _ hp)
         clear N7' F3 N3)
      | ((with_reducible show wpAny _ _ (call (Value.ref 42) [Value.ref e9]) _ _ _)
         refine cGetLineno w _ e9 D9 T9 (.ref TB10) k9 msg9 line9 t91 t92 t93 u91 u92 u93 n9 (show (e9, nagO D9 T9 (.ref TB10)) ∈ _ from by k_mem) (show (D9, dictOf (nagEs w k9 msg9 line9 t91 t92 t93 u91 u92 u93) n9) ∈ _ from by k_mem) _ _ _ _ _ _ _ _ _ _ _ _ _ _ _ _ _ _ _ _ _ B0 F3 X0 N3 T0 rfl (by ktr_room) (by ktr_units) (fun r7 tl7 h7 tk7 F7 N7' hp7 => ?_)
         subst hp7
         have N7 := news_sub N7' (fun p hp => List.mem_append_right _ hp)
         clear N7' F3 N3)
    k_steps
    refine wpC_any ?_
    k_with "m compareOp Eq ref ref" =>
      rename News _ _ _ _ => N6
      rw [listOf_push] at N6
      refine kqd_eq N6 (.tail _ (.tail _ (.tail _ (.head _)))) rfl rfl (told_dat hD9 hto) told_sub (.tail _ (.tail _ (.tail _ (.tail _ (.tail _ (List.mem_append_right _ (.tail _ (.tail _ mD)))))))) rfl rfl hDa (fun p hp => .tail _ (.tail _ (.tail _ (.tail _ (.tail _ (List.mem_append_right _ (.tail _ (.tail _ hp)))))))) hpd hpd (by ktr_units) ?_
    k_steps
    dsimp only
    rename Fr _ _ _ _ => F6
    rename News _ _ _ _ => N8
    have e9 : ∀ i : Decidable (DD.due = DD.due), @decide _ i = true := fun i => decide_eq_true rfl
    rw [e9]
    exact good_true (hid_old H h130 hct hol F6 N8 (.tail _ (.tail _ (.tail _ (.tail _ (.head _))))) (.tail _ (.tail _ (.tail _ (.tail _ (.tail _ (List.mem_append_right _ (.head _)))))))) ho9 hG9)
end Mine

theorem PySem.Challenge.cw_wn0113_01_holds : PySem.Challenge.rw_wn0113_01.Holds :=
  Mine.claimX
