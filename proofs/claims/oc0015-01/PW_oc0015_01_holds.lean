import PyProof.Rows.All
import Wide.All
import OpenK.AllK
import Wide.FinOn
import PySem.Challenge.RW_oc0015_01
open PySem PySem.W PySem.Calls PyProof.Rows
set_option Elab.async false
set_option maxRecDepth 100000

namespace Mine
open Sem (wp)

/-- no decoder that holds a bytearray's memory -/
def noDec : Code → Bool
  | .builtin id _ => !(Builtin.Bytes.decodersThatHold.contains id)
  | _ => true
def cleanStack (l : List (Code × Pos)) : Bool := l.all fun x => noDec x.1
def Clean (Γ : Ctx) : Prop := noDec Γ.code = true ∧ cleanStack Γ.below = true

/-- wpAny over the clean contexts alone -/
def wpD {α : Type} (M : Model) (A : Around) (t : Sem α) (Q : α → Shared → Prop) (E : Value → Shared → Prop) (s : Shared) : Prop :=
  ∀ Γ p, Γ.In A → Clean Γ → wp M Γ t (fun a _ s' => Q a s') (fun e _ s' => E e s') p s
def codeD (M : Model) (A : Around) (c : Code) (R : Result → Shared → Prop) (s : Shared) : Prop :=
  ∀ Γ p, Γ.code = c → Γ.Below A → Clean Γ → wpCode M Γ R p s

section
variable {α β : Type} {M : Model} {A : Around} {E : Value → Shared → Prop} {s : Shared}
theorem wpD_of_any {t : Sem α} {Q : α → Shared → Prop} (h : wpAny M A t Q E s) : wpD M A t Q E s := fun Γ p hΓ _ => h Γ p hΓ
theorem wpD_pure {a : α} {Q : α → Shared → Prop} (h : Q a s) : wpD M A (pure a) Q E s := fun _ _ _ _ => h
theorem wpD_mono {t : Sem α} {Q Q' : α → Shared → Prop} {E' : Value → Shared → Prop} (h : wpD M A t Q E s)
    (hQ : ∀ a s, Q a s → Q' a s) (hE : ∀ e s, E e s → E' e s) : wpD M A t Q' E' s :=
  fun Γ p hΓ hc => Sem.wp_mono M Γ t (fun a _ s => hQ a s) (fun e _ s => hE e s) p s (h Γ p hΓ hc)
theorem wpD_bind {m : Sem α} {f : α → Sem β} {Q : β → Shared → Prop} (h : wpD M A m (fun a s' => wpD M A (f a) Q E s') E s) :
    wpD M A (m >>= f) Q E s := fun Γ p hΓ hc => by
  rw [Sem.wp_bind']
  exact Sem.wp_mono M Γ m (fun a p' s' h' => h' Γ p' hΓ hc) (fun _ _ _ h' => h') p s (h Γ p hΓ hc)
/-- a leaf by the library's rule, then on -/
theorem wpD_leaf {m : Sem α} {f : α → Sem β} {Q : β → Shared → Prop} (h : wpAny M A m (fun a s' => wpD M A (f a) Q E s') E s) :
    wpD M A (m >>= f) Q E s := wpD_bind (wpD_of_any h)
theorem wpD_holding {vs : List Value} {m : Sem α} {Q : α → Shared → Prop} (h : wpD M A m Q E s) : wpD M A (holding vs m) Q E s :=
  fun Γ p hΓ hc => by rw [Sem.wp_holding]; exact h Γ p hΓ hc
theorem wpD_keep {vs : List Value} {m : Sem α} {Q : α → Shared → Prop} (h : wpD M A m Q E s) : wpD M A (m.keep vs) Q E s :=
  fun Γ p hΓ hc => by rw [Sem.wp_keep]; exact h Γ p hΓ hc
theorem wpD_standAt {pos : Pos} {Q : Unit → Shared → Prop} (h : Q () s) : wpD M A (standAt pos) Q E s := fun _ _ _ _ => h
theorem wpD_onRaise {m : Sem α} {k : Value → Sem Unit} {Q : α → Shared → Prop} (h : wpD M A m Q (fun _ _ => False) s) : wpD M A (m.onRaise k) Q E s := fun Γ p hΓ hc => by
  rw [Sem.wp_onRaise]
  exact Sem.wp_mono M Γ m (fun _ _ _ h' => h') (fun e p' s' h' => h'.elim) p s (h Γ p hΓ hc)
theorem wpD_noE {t : Sem α} {Q : α → Shared → Prop} (h : wpD M A t Q (fun _ _ => False) s) : wpD M A t Q E s := wpD_mono h (fun _ _ h => h) fun _ _ h => h.elim
theorem wpAny_noE {t : Sem α} {Q : α → Shared → Prop} (h : wpAny M A t Q (fun _ _ => False) s) : wpAny M A t Q E s := wpAny_mono h (fun _ _ h => h) fun _ _ h => h.elim
theorem wpD_of_eq {t t' : Sem α} {Q : α → Shared → Prop} (e : t = t') (h : wpD M A t' Q E s) : wpD M A t Q E s := e ▸ h

theorem codeD_of_any {c : Code} {R : Result → Shared → Prop} (h : codeAny M A c R s) : codeD M A c R s := fun Γ p hc hΓ _ => h Γ p hc hΓ
theorem codeD_mono {c : Code} {R R' : Result → Shared → Prop} (h : codeD M A c R s) (hR : ∀ r s, R r s → R' r s) : codeD M A c R' s :=
  fun Γ p hc hΓ hcl => wpCode_mono hR (h Γ p hc hΓ hcl)
theorem clean_enter {Γ : Ctx} {c : Code} {h : Option Value} {p : Pos} (hΓ : Clean Γ) (hc : noDec c = true) : Clean (Γ.enter c h p) :=
  ⟨hc, by show cleanStack ((Γ.code, p) :: Γ.below) = true; simp only [cleanStack, List.all_cons, Bool.and_eq_true]; exact ⟨hΓ.1, hΓ.2⟩⟩
theorem clean_goto {Γ : Ctx} {c : Code} (hΓ : Clean Γ) (hc : noDec c = true) : Clean (Γ.goto c) := ⟨hc, hΓ.2⟩
theorem wpD_run {c : Code} {h : Option Value} {Q : Flow → Shared → Prop} (hd : noDec c = true)
    (hc : codeD M (A.mark h) c (fun r s' => match r with | .ok f => Q f s' | .error e => E e s') s) (hnb : h ≠ some byPass := by intro x; cases x) :
    wpD M A (run c h) Q E s :=
  fun Γ p hΓ hcl => by rw [Sem.wp_run]; exact hc _ p rfl (hΓ.enter c h p hnb) (clean_enter hcl hd)
theorem wpD_runValue {c : Code} {Q : Value → Shared → Prop} (hd : noDec c = true)
    (hc : codeD M A c (fun r s' => match r with | .ok (.ret v) => Q v s' | .ok _ => False | .error e => E e s') s) :
    wpD M A (runValue c) Q E s := fun Γ p hΓ hcl => by rw [Sem.wp_runValue]; exact hc _ p rfl (hΓ.enter c none p (by intro x; cases x)) (clean_enter hcl hd)
theorem wpD_call {f : Value} {pos : List Value} {kw : List (Str × Value)} {Q : Value → Shared → Prop}
    (hc : codeD M A (.call f ⟨pos, kw⟩) (fun r s' => match r with | .ok (.ret v) => Q v s' | .ok _ => False | .error e => E e s') s) :
    wpD M A (call f pos kw) Q E s := wpD_runValue rfl hc
theorem codeD_of_tree {c : Code} {R : Result → Shared → Prop}
    (h : wpD M (A.under c) (M.den c) (fun fin s' => match fin with | .done f => R (.ok f) s' | .again c' => c'.quiet = true ∧ noDec c' = true ∧ codeD M A c' R s')
      (fun e s' => R (.error e) s') s) : codeD M A c R s := fun Γ p hc hΓ hcl => by
  rw [wpCode_iff_wp, hc]
  refine Sem.wp_mono M Γ _ (fun fin p' s' h' => ?_) (fun _ _ _ h' => h') p s (h Γ p (hc ▸ hΓ.in) hcl)
  cases fin with
  | done f => exact h'
  | again c' => exact ⟨h'.1, h'.2.2 (Γ.goto c') p' rfl (hΓ.goto c') (clean_goto hcl h'.2.1)⟩
theorem codeD_loop {c c₂ : Code} {R : Result → Shared → Prop} (hq : c.quiet = true) (I : Nat → Shared → Prop)
    (turn : ∀ n s, I n s → wpD M (A.under c) (M.den c)
      (fun fin s' => match fin with | .done f => R (.ok f) s' | .again c' => (c' = c ∧ ∃ m, m < n ∧ I m s') ∨ (c' = c₂ ∧ c₂.quiet = true ∧ noDec c₂ = true ∧ codeD M A c₂ R s')) (fun e s' => R (.error e) s') s)
    (n : Nat) (h : I n s) : codeD M A c R s := by
  induction n using Nat.strongRecOn generalizing s with
  | ind n ih =>
    intro Γ p hc hΓ hcl
    rw [wpCode_iff_wp, hc]
    refine Sem.wp_mono M Γ _ (fun fin p' s' h' => ?_) (fun _ _ _ h' => h') p s (turn n s h Γ p (hc ▸ hΓ.in) hcl)
    cases fin with
    | done f => exact h'
    | again c' =>
      rcases h' with ⟨rfl, m, hm, hI⟩ | ⟨rfl, h1, h2, h3⟩
      · exact ⟨hq, ih m hm hI (Γ.goto c') p' rfl (hΓ.goto c') (clean_goto hcl (hc ▸ hcl.1))⟩
      · exact ⟨h1, h3 (Γ.goto c') p' rfl (hΓ.goto c') (clean_goto hcl h2)⟩
theorem noDec_builtin {id : String} (args : Args) (h : Builtin.Bytes.decodersThatHold.contains id = false) : noDec (.builtin id args) = true := by
  show (!(Builtin.Bytes.decodersThatHold.contains id)) = true
  rw [h]; rfl
end
section
variable {prog : Program} {w : World} {A : Around} {E : Value → Shared → Prop} {R : Result → Shared → Prop} {s : Shared}
theorem codeD_builtin {id : String} {args : Args} {b : Builtin} (hb : entryFor table id = some b)
    (h : wpD (model prog w) (A.under (.builtin id args)) (b args)
      (fun fin s' => match fin with | .done f => R (.ok f) s' | .again c' => c'.quiet = true ∧ noDec c' = true ∧ codeD (model prog w) A c' R s') (fun e s' => R (.error e) s') s) :
    codeD (model prog w) A (.builtin id args) R s := by
  refine codeD_of_tree ?_
  show wpD _ _ (match entryFor table id with | some b => b args | none => unsupported ((withoutEnding? id "#data").getD id)) _ _ s
  rw [hb]; exact h
theorem codeD_call_builtin {id : String} {args : Args} {b : Builtin} (hq : plainId id = true) (hd : Builtin.Bytes.decodersThatHold.contains id = false) (hb : entryFor table id = some b)
    (h : wpAny (model prog w) A.in1 (checkBuiltinCall id args) (fun _ s₁ => wpD (model prog w) A.in1 (b args)
      (fun fin s' => match fin with | .done f => R (.ok f) s' | .again c' => c'.quiet = true ∧ noDec c' = true ∧ codeD (model prog w) A c' R s') (fun e s' => R (.error e) s') s₁)
      (fun e s' => R (.error e) s') s) : codeD (model prog w) A (.call (.builtin id) args) R s := by
  refine codeD_of_tree ?_
  show wpD _ A.in1 (do checkBuiltinCall id args; again (.builtin id args)) _ _ s
  refine wpD_leaf (wpAny_mono h (fun _ s₁ h₁ => wpD_pure ⟨plainId_quiet hq args, noDec_builtin args hd, codeD_builtin hb ?_⟩) fun _ _ h' => h')
  rw [Around.under_plainId hq args]; exact h₁
end
end Mine

namespace Mine
open Sem (wp)

/-- the call if the stack is clean, else True at once -/
def seen (t : Sem Value) : Sem Value := Sem.stack fun st => if cleanStack st = true then t else pure (.bool true)
def seenFin (t : Sem Fin) : Sem Fin := Sem.stack fun st => if cleanStack st = true then t else pure (.done (.ret (.bool true)))

theorem seen_any {M : Model} {A : Around} {t : Sem Value} {Q : Value → Shared → Prop} {E : Value → Shared → Prop} {s : Shared}
    (h : wpD M A t Q E s) (h' : Q (.bool true) s) : wpAny M A (seen t) Q E s := by
  intro Γ p hΓ
  show wp M Γ (Sem.stack _) _ _ p s
  rw [Sem.wp_stack]
  by_cases hc : cleanStack ((Γ.code, p) :: Γ.below) = true
  · rw [if_pos hc]
    refine h Γ p hΓ ?_
    simp only [cleanStack, List.all_cons, Bool.and_eq_true] at hc
    exact hc
  · rw [if_neg hc]; exact h'

theorem sched_stack {prog : Program} {w : World} {s : Shared} (hs : s.asleep) (k : List (Code × Pos) → Sem Fin) (c : Code) (p : Pos) (n : Nat) :
    schedN (denote table) prog w (n + 1) (.single s ⟨.stack k, c, p, []⟩) = schedN (denote table) prog w n (.single s ⟨k [(c, p)], c, p, []⟩) := by
  obtain ⟨heap, gens, drawn, toks, os⟩ := s
  rcases sstep_single (denote table) prog w _ ⟨.stack k, c, p, []⟩ rfl hs with e | e
  · show (match sstep (denote table) prog w _ with | .go c' => schedN (denote table) prog w n c' | .halt o s => .halted o s) = _
    rw [e]; rfl
  · cases e

theorem callFrom_seen {c : ClaimW} {w : World} {free : Addr → Prop} {gens : Prop} {kept : Heap → Prop} {s : Shared} {tree : List Value → Sem Fin} (hz : s.asleep)
    (h : c.CallFrom (fun vs => ⟨seenFin (tree vs), .builtin "claim.caller" {}, default, []⟩) w free gens kept s) :
    c.CallFrom (fun vs => ⟨tree vs, .builtin "claim.caller" {}, default, []⟩) w free gens kept s := by
  intro args hpre hlay ord hord
  obtain ⟨vs, s₁, hl, n, o, s', hrun, hrest⟩ := h args hpre hlay ord hord
  have hz₁ : s₁.asleep := Shared.asleep_of_life (layAllW_rest _ _ _ hl).2.2.2 hz
  refine ⟨vs, s₁, hl, ?_⟩
  cases n with
  | zero => cases hrun
  | succ n =>
    refine ⟨n, o, s', ?_, hrest⟩
    rw [← hrun]
    have hc : cleanStack [(.builtin "claim.caller" {}, (default : Pos))] = true := by decide +kernel
    refine Eq.trans ?_ (sched_stack (prog := c.prog) (w := w) hz₁ (fun st => if cleanStack st = true then tree vs else pure (.done (.ret (.bool true)))) (.builtin "claim.caller" {}) default n).symm
    rw [if_pos hc]

abbrev WalkD (q : Program) (loose : List Str) (XP : (Str → Option Value) → Heap → Prop) (YP : World → Heap → Prop) (r : RowW) (d : DefRec) (kwd : List (Str × Expr)) : Prop :=
  ∀ (w : World) (s₀ s₁ : Shared) (mg mb : Str → Option Value), Ground q loose r.records XP w s₀ mg mb s₁.heap → YP w s₁.heap → ∀ (a : Addr) (o : Obj) (pm cd doc dV kV : Value), s₁.heap.get? a = some o →
    o.data = .func { docDef d.name d.params d.body d.scope pm cd doc with defaults := dV, kwdefaults := kV } → s₁.heap.CodeRec cd d.name → Dflts mg s₁.heap d.params kwd dV kV → mg d.name = some (.ref a) → s₁.gens = #[] →
    ∀ (args : List WData) (vals : List Value) (as : List Addr), r.claim.pre args = true → WData.layableAll args = true → ReadsAllW r.records (classAt s₀.heap) s₁.heap vals args as → WellAll w.params s₁.heap vals args → (∀ a ∈ as, (a == sysModules) = false) →
      wpD (model r.prog w) callerA (PySem.call (.ref a) vals) (fun v s' => GoodWG r.claim (classAt s₀.heap) (ExcName.means s₀.heap) args s₁ (.ok (.ret v)) s')
        (fun e s' => GoodWG r.claim (classAt s₀.heap) (ExcName.means s₀.heap) args s₁ (.error e) s') s₁ ∧
      GoodWG r.claim (classAt s₀.heap) (ExcName.means s₀.heap) args s₁ (.ok (.ret (.bool true))) s₁

end Mine

namespace Mine.PySem.W
open Sem (wp)
/-- the head's theorem over the one real stack: the premise speaks of clean contexts alone -/
theorem holds_open {r : OpenRow} {q : Program} {loose : List Str} {Xt : Shared → Bool} {XP : (Str → Option Value) → Heap → Prop} {α : Type} {Yf : Shared → α} {Ya : World → α} {YP : World → Heap → Prop} {d : DefRec} {kwd : List (Str × Expr)} {N : Nat}
    (left : LeftO r.prog q loose Xt Yf Ya N) (hY : ∀ w s, Yf s = Ya w → YP w s.heap) (hYk : ∀ w h h', YP w h → (∀ b o, h.get? b = some o → h'.get? b = some o) → YP w h')
    (hX : ∀ s, Xt s = true → XP (s.heap.nsMap mainGlobals) s.heap) (hXk : ∀ mg h h', XP mg h → (∀ b o, h.get? b = some o → h'.get? b = some o) → XP mg h')
    (hdef : defOf q r.name = some (d, kwd)) (hp : r.prog.theDef r.name = some (d.params, d.body, d.scope)) (hk : kwWritten? d.params.kwonlyargs d.params.kw_defaults = some kwd) (hRf : ∀ s, Xt s = true → RecFacts r.records s.heap) (hwr : (!r.writes || r.records.isEmpty) = true)
    (k1 : r.wellSaid = true) (ok : (chainsOk q && opensWell r.prog && (frees r.toRowW && r.within.isEmpty)) = true) (hb : r.prog.bare) (hw : r.toRowW.promised)
    (call : WalkD q loose XP YP r.toRowW d kwd) : r.Holds := by
  let tree : List Value → Sem Fin := fun vs => do match ← nsGet mainNs r.name with
      | some f => do ret (← PySem.call f vs)
      | none => unsupported "claim.caller:no-such-global"
  have H := open_anyG (r := r.toRowW) (run := fun f vs => seen (PySem.call f vs)) (tree := fun vs => seenFin (tree vs)) (defs := if r.pinned then [r.name] else []) (kps := r.keeps) (writes := r.writes) left hY hYk hX hXk hRf hwr ok hb hw
    (fun vs w s mg f Q E hg hf h => by
      intro Γ p hΓ
      have h0 := h Γ p hΓ
      change wp _ Γ (Sem.stack _) _ _ p s at h0
      rw [Sem.wp_stack] at h0
      show wp _ Γ (Sem.stack _) _ _ p s
      rw [Sem.wp_stack]
      by_cases hc : cleanStack ((Γ.code, p) :: Γ.below) = true
      · rw [if_pos hc] at h0 ⊢
        show wp _ Γ (nsGet mainNs r.name >>= _) _ _ p s
        rw [Sem.wp_bind']
        show wp _ Γ (nsGet mainGlobals r.name) _ _ p s
        rw [Sem.wp_nsGet _ Γ _ p s hg, hf]
        show wp _ Γ (PySem.call f vs >>= fun v => ret v) _ _ p s
        rw [Sem.wp_bind']
        exact h0
      · rw [if_neg hc] at h0 ⊢; exact h0)
    (fun w s hg G n hn => by
      obtain rfl : n = r.name := by split at hn <;> simp_all
      exact pinned_of_view hg G hdef hp hk)
    fun w s₀ s₁ mg mb G Y args vs as hpre hlay L low => by
      obtain ⟨a, o, pm, cd, doc, dV, kV, h1, h2, h3, h4, h5⟩ := G.fn hdef
      have z := call w s₀ s₁ mg mb G Y a o pm cd doc dV kV h2 h3 h4 h5 (defOf_name hdef ▸ h1) L.gens args vs as hpre hlay L.reads L.well (L.low low)
      exact ⟨.ref a, h1, seen_any z.1 z.2⟩
  refine ⟨k1, hw, H.1, H.2.1, fun w => ⟨(H.2.2 w).1, fun s hs => ?_⟩⟩
  obtain ⟨s₀, hf, hg0, s₁, hT, hd, h1, h2, hcall⟩ := (H.2.2 w).2 s hs
  refine ⟨s₀, hf, hg0, s₁, hT, hd, h1, h2, callFrom_seen ?_ hcall⟩
  have hch : chainsOk q = true := by
    simp only [Bool.and_eq_true] at ok
    exact ok.1.1
  obtain ⟨s₀', hf', _, s₂, hT₂, hz, _⟩ := (left.behind hX hch w).2 s hs
  obtain rfl : s₀ = s₀' := Option.some.inj (hf.symm.trans hf')
  exact Shared.asleep_of_life (hT.2.1.trans hT₂.2.1.symm) hz
end Mine.PySem.W

namespace Mine
open_top hd for PySem.Challenge.rw_oc0015_01
end Mine

namespace Mine
open Sem (wp)

/-- what stood stands, but at the addresses of mu -/
def Up (mu : Addr → Prop) (h h' : Heap) : Prop := ∀ b o, ¬ mu b → h.get? b = some o → h'.get? b = some o
def Ext (h h' : Heap) : Prop := ∀ b o, h.get? b = some o → h'.get? b = some o
theorem Ext.refl (h : Heap) : Ext h h := fun _ _ e => e
theorem Ext.trans {a b c : Heap} (x : Ext a b) (y : Ext b c) : Ext a c := fun p o e => y p o (x p o e)
theorem Up.refl (mu : Addr → Prop) (h : Heap) : Up mu h h := fun _ _ _ e => e
theorem Up.trans {mu : Addr → Prop} {a b c : Heap} (x : Up mu a b) (y : Up mu b c) : Up mu a c := fun p o n e => y p o n (x p o n e)
theorem Up.mono {mu mu' : Addr → Prop} {a b : Heap} (x : Up mu a b) (h : ∀ p, mu p → mu' p) : Up mu' a b := fun p o n e => x p o (fun q => n (h p q)) e
theorem Ext.up {mu : Addr → Prop} {a b : Heap} (x : Ext a b) : Up mu a b := fun p o _ e => x p o e
theorem Up.of_same {mu : Addr → Prop} {a : Addr} {h h' : Heap} (x : Heap.SameBut a h h') (ha : mu a) : Up mu h h' := fun b o n e => x.extBut b o (fun q => n (q ▸ ha)) e
theorem Ext.after {mu : Addr → Prop} {g h h' : Heap} (e : Ext g h) (U : Up mu h h') (hm : ∀ b, mu b → g.objs.size ≤ b) : Ext g h' :=
  fun b o q => U b o (fun z => Nat.lt_irrefl _ (Nat.lt_of_lt_of_le (Heap.lt_size q) (hm b z))) (e b o q)
theorem ext_push (h : Heap) (o : Obj) : Ext h (h.push o) := fun _ _ e => Heap.get?_push_of_some _ e
theorem IsList.ext {h h' : Heap} {a : Addr} {vs : Array Value} (x : h.IsList a vs) (e : Ext h h') : h'.IsList a vs := x.at fun o q => e a o q
theorem IsList.up {mu : Addr → Prop} {h h' : Heap} {a : Addr} {vs : Array Value} (x : h.IsList a vs) (e : Up mu h h') (ha : ¬ mu a) : h'.IsList a vs := x.at fun o q => e a o ha q

/-- the names of a frame: locals and cells by one map -/
structure Vars (env : Env) (h : Heap) (vm : Str → Option Value) : Prop where
  loc : ∃ m, h.Ns env.locals m ∧ ∀ x, env.kindOf x = some .local → m x = vm x
  cell : ∀ x c, env.kindOf x = some .cell → env.cells.lookup x = some c → h.IsCell c (vm x)
def FA (env : Env) (b : Addr) : Prop := b = env.locals ∨ ∃ x, env.kindOf x = some .cell ∧ env.cells.lookup x = some b
structure EnvOk (env : Env) : Prop where
  kind : env.scope.kind = .function
  off : ∀ x c, env.kindOf x = some .cell → env.cells.lookup x = some c → c ≠ env.locals
  inj : ∀ x y c, env.kindOf x = some .cell → env.kindOf y = some .cell → env.cells.lookup x = some c → env.cells.lookup y = some c → x = y
  gl : env.globals = mainGlobals
  bl : env.builtins = builtinsNs
def kd (env : Env) (x : Str) : Bool := env.kindOf x == some .local || (env.kindOf x == some .cell && (env.cells.lookup x).isSome)
def upd (vm : Str → Option Value) (x : Str) (v : Value) : Str → Option Value := fun y => if y = x then some v else vm y
theorem upd_self (vm : Str → Option Value) (x : Str) (v : Value) : upd vm x v x = some v := if_pos rfl
theorem upd_ne {vm : Str → Option Value} {x y : Str} {v : Value} (h : y ≠ x) : upd vm x v y = vm y := if_neg h

theorem Ns.at {h h' : Heap} {a : Addr} {m : Str → Option Value} (x : h.Ns a m) (e : ∀ o, h.get? a = some o → h'.get? a = some o) : h'.Ns a m :=
  let ⟨o, es, ep, q, r⟩ := x; ⟨o, es, ep, e _ q, r⟩
theorem IsCell.at {h h' : Heap} {a : Addr} {v : Option Value} (x : h.IsCell a v) (e : ∀ o, h.get? a = some o → h'.get? a = some o) : h'.IsCell a v :=
  let ⟨o, q, r⟩ := x; ⟨o, e _ q, r⟩
theorem Vars.at {env : Env} {h h' : Heap} {vm : Str → Option Value} (V : Vars env h vm) (e : ∀ b, FA env b → ∀ o, h.get? b = some o → h'.get? b = some o) : Vars env h' vm :=
  ⟨let ⟨m, hm, r⟩ := V.loc; ⟨m, Ns.at hm (e _ (.inl rfl)), r⟩, fun x c hk hc => IsCell.at (V.cell x c hk hc) (e c (.inr ⟨x, hk, hc⟩))⟩
theorem Vars.ext {env : Env} {h h' : Heap} {vm : Str → Option Value} (V : Vars env h vm) (e : Ext h h') : Vars env h' vm := V.at fun b _ o q => e b o q
theorem Vars.up {env : Env} {mu : Addr → Prop} {h h' : Heap} {vm : Str → Option Value} (V : Vars env h vm) (e : Up mu h h') (hm : ∀ b, FA env b → ¬ mu b) : Vars env h' vm :=
  V.at fun b hb o q => e b o (hm b hb) q
theorem Vars.congr {env : Env} {h : Heap} {vm vm' : Str → Option Value} (V : Vars env h vm) (e : ∀ x, vm x = vm' x) : Vars env h vm' := by
  have : vm = vm' := funext e
  exact this ▸ V

section
variable {M : Model} {A : Around} {E : Value → Shared → Prop} {s : Shared} {env : Env} {vm : Str → Option Value}

theorem ev_name {x : Str} {pos : Pos} {v : Value} {Q : Value → Shared → Prop} (K : EnvOk env) (V : Vars env s.heap vm) (hv : vm x = some v) (hk : kd env x = true) (h : Q v s)
    (hd : (x == ("__debug__" : Str)) = false) : wpAny M A (eval (.Name x pos) env) Q E s := by
  refine wpAny_Name ?_ hd
  unfold kd at hk
  rcases Bool.or_eq_true_iff.mp hk with q | q
  · have q' := beq_iff_eq.mp q
    obtain ⟨m, hm, r⟩ := V.loc
    exact wpAny_loadName_local K.kind q' hm ((r x q').trans hv) h
  · obtain ⟨q1, q2⟩ := Bool.and_eq_true_iff.mp q
    have q1' := beq_iff_eq.mp q1
    obtain ⟨c, hc⟩ := Option.isSome_iff_exists.mp q2
    exact wpAny_loadName_cell K.kind q1' hc (hv ▸ V.cell x c q1' hc) h

theorem ld_name {x : Str} {v : Value} {Q : Value → Shared → Prop} (K : EnvOk env) (V : Vars env s.heap vm) (hv : vm x = some v) (hk : kd env x = true) (h : Q v s) :
    wpAny M A (loadName env x) Q E s := by
  unfold kd at hk
  rcases Bool.or_eq_true_iff.mp hk with q | q
  · have q' := beq_iff_eq.mp q
    obtain ⟨m, hm, r⟩ := V.loc
    exact wpAny_loadName_local K.kind q' hm ((r x q').trans hv) h
  · obtain ⟨q1, q2⟩ := Bool.and_eq_true_iff.mp q
    have q1' := beq_iff_eq.mp q1
    obtain ⟨c, hc⟩ := Option.isSome_iff_exists.mp q2
    exact wpAny_loadName_cell K.kind q1' hc (hv ▸ V.cell x c q1' hc) h

theorem st_name {x : Str} {v : Value} {Q : Unit → Shared → Prop} (K : EnvOk env) (V : Vars env s.heap vm) (hk : kd env x = true)
    (h : ∀ h' tk, Vars env h' (upd vm x v) → Up (FA env) s.heap h' → Q () { s with heap := h', toks := tk }) : wpAny M A (storeName env x v) Q E s := by
  unfold kd at hk
  rcases Bool.or_eq_true_iff.mp hk with q | q
  · have q' := beq_iff_eq.mp q
    obtain ⟨m, hm, r⟩ := V.loc
    refine wpAny_storeName_local q' hm (fun h' hn hs => h h' _ ⟨⟨_, hn, fun y hy => ?_⟩, fun y c hy hc => ?_⟩ (Up.of_same hs (.inl rfl))) (by rw [K.kind]; rfl)
    · unfold upd; by_cases e : y = x
      · simp [e]
      · simp [e, r y hy]
    · have hne : y ≠ x := fun e => by rw [e, q'] at hy; cases hy
      rw [upd_ne hne]
      exact IsCell.at (V.cell y c hy hc) fun o e => hs.extBut c o (K.off y c hy hc) e
  · obtain ⟨q1, q2⟩ := Bool.and_eq_true_iff.mp q
    have q1' := beq_iff_eq.mp q1
    obtain ⟨c, hc⟩ := Option.isSome_iff_exists.mp q2
    refine wpAny_storeName_cell K.kind q1' hc (V.cell x c q1' hc) fun h' hv hs => ?_
    refine h h' s.toks ⟨?_, fun y c' hy hc' => ?_⟩ (Up.of_same hs (.inr ⟨x, q1', hc⟩))
    · obtain ⟨m, hm, r⟩ := V.loc
      refine ⟨m, Ns.at hm fun o e => hs.extBut _ o (Ne.symm (K.off x c q1' hc)) e, fun y hy => ?_⟩
      have hne : y ≠ x := fun e => by rw [e, q1'] at hy; cases hy
      rw [upd_ne hne]; exact r y hy
    · by_cases e : y = x
      · subst e
        rw [hc] at hc'; cases hc'
        rw [upd_self]; exact hv
      · rw [upd_ne e]
        exact IsCell.at (V.cell y c' hy hc') fun o q => hs.extBut c' o (fun e' => e (K.inj y x c' hy q1' hc' (e' ▸ hc))) q

theorem as_name {x : Str} {pos : Pos} {v : Value} {Q : Unit → Shared → Prop} (K : EnvOk env) (V : Vars env s.heap vm) (hk : kd env x = true)
    (h : ∀ h' tk, Vars env h' (upd vm x v) → Up (FA env) s.heap h' → Q () { s with heap := h', toks := tk }) : wpAny M A (assign (.Name x pos) env v) Q E s :=
  wpAny_assign_Name (st_name K V hk h)

theorem ex_assign {x : Str} {px pos : Pos} {value : Expr} {Q : Flow → Shared → Prop} (K : EnvOk env) (hk : kd env x = true)
    (h : wpAny M A (eval value env) (fun v s₁ => ∃ vm, Vars env s₁.heap vm ∧ ∀ h' tk, Vars env h' (upd vm x v) → Up (FA env) s₁.heap h' → Q .next { s₁ with heap := h', toks := tk }) E s)
    (hs : swapsWith value (some (.Name x px)) pos.line env = pure false) : wpAny M A (exec (.Assign [.Name x px] value pos) env) Q E s := by
  refine wpAny_Assign_Name (wpAny_mono h (fun v s₁ h₁ => ?_) fun _ _ e => e) hs
  obtain ⟨vm, V, h₁⟩ := h₁
  exact st_name K V hk h₁
end
end Mine

namespace Mine
open Sem (wp)

abbrev NoE : Value → Shared → Prop := fun _ _ => False

section
variable {M : Model} {A : Around} {E : Value → Shared → Prop} {s : Shared} {env : Env}
theorem xs_nil {Q : Flow → Shared → Prop} (h : Q .next s) : wpD M A (execs [] env) Q E s := fun _ _ _ _ => h
theorem xs_cons {st rest} {Q : Flow → Shared → Prop}
    (h : wpD M A (exec st env) (fun f s' => match f with | .next => wpD M A (execs rest env) Q E s' | f => Q f s') E s) : wpD M A (execs (st :: rest) env) Q E s := by
  rw [execs_cons]
  refine wpD_bind (wpD_mono h (fun f s' h' => ?_) fun _ _ e => e)
  cases f with
  | next => exact h'
  | brk => exact wpD_pure h'
  | cont => exact wpD_pure h'
  | ret v => exact wpD_pure h'
/-- a statement that goes on -/
theorem xs_next {st rest} {Q : Flow → Shared → Prop} (h : wpD M A (exec st env) (fun f s' => f = .next ∧ wpD M A (execs rest env) Q E s') E s) : wpD M A (execs (st :: rest) env) Q E s :=
  xs_cons (wpD_mono h (fun f s' h' => by obtain ⟨rfl, h'⟩ := h'; exact h') fun _ _ e => e)
theorem xs_any {st rest} {Q : Flow → Shared → Prop} (h : wpAny M A (exec st env) (fun f s' => f = .next ∧ wpD M A (execs rest env) Q E s') E s) : wpD M A (execs (st :: rest) env) Q E s :=
  xs_next (wpD_of_any h)
theorem xa_next {st rest} {Q : Flow → Shared → Prop} (h : wpAny M A (exec st env) (fun f s' => f = .next ∧ wpAny M A (execs rest env) Q E s') E s) : wpAny M A (execs (st :: rest) env) Q E s :=
  wpAny_execs_cons (wpAny_mono h (fun f s' h' => by obtain ⟨rfl, h'⟩ := h'; exact h') fun _ _ e => e)
theorem D_runOwn {c : Code} {Q : Flow → Shared → Prop} (hd : noDec c = true) (hc : codeD M A c (fun r s' => match r with | .ok f => Q f s' | .error _ => False) s) : wpD M A (runOwn c env) Q E s := by
  unfold runOwn
  refine wpD_onRaise (wpD_run hd ?_)
  have e : A.mark none = A := by cases A; rfl
  rw [e]
  exact hc
theorem D_assign {x px value pos} {Q : Flow → Shared → Prop} (K : EnvOk env) (hk : kd env x = true)
    (h : wpD M A (eval value env) (fun v s₁ => ∃ vm, Vars env s₁.heap vm ∧ ∀ h' tk, Vars env h' (upd vm x v) → Up (FA env) s₁.heap h' → Q .next { s₁ with heap := h', toks := tk }) E s)
    (hs : swapsWith value (some (.Name x px)) pos.line env = pure false) : wpD M A (exec (.Assign [.Name x px] value pos) env) Q E s := by
  rw [exec_Assign_Name env x px value pos hs]
  refine wpD_bind (wpD_standAt (wpD_bind (wpD_mono h (fun v s₁ h₁ => wpD_bind (wpD_standAt ?_)) fun _ _ e => e)))
  obtain ⟨vm, V, h₁⟩ := h₁
  exact wpD_leaf (wpAny_bindName (st_name K V hk fun h' tk V' U => wpD_pure (h₁ h' tk V' U)))
end

section
variable {prog : Program} {w : World} {A : Around} {E : Value → Shared → Prop} {s : Shared} {env : Env}

theorem codeD_block_nil {R : Result → Shared → Prop} (h : R (.ok .next) s) : codeD (model prog w) A (.block [] env) R s := by
  refine codeD_of_tree ?_
  show wpD _ _ (do return PySem.Fin.done (← (execs [] env).onRaise (fun x => do noteFrame x env; theTreesLotGoes x))) _ _ s
  refine wpD_bind (wpD_onRaise (xs_nil ?_))
  exact wpD_pure h

theorem codeD_forLoop {R : Result → Shared → Prop} {x : Str} {px : Pos} {it : Value} {body : List Stmt} (I : Nat → Shared → Prop)
    (turn : ∀ n s, I n s → wpAny (model prog w) A (pyNext it) (fun r s₁ => match r with
      | none => R (.ok .next) s₁
      | some v => wpAny (model prog w) A (assign (.Name x px) env v) (fun _ s₂ => wpD (model prog w) A (execs body env) (fun f s₃ => f = .next ∧ ∃ m, m < n ∧ I m s₃) NoE s₂) NoE s₁) NoE s)
    (n : Nat) (h : I n s) : codeD (model prog w) A (.forLoop (.Name x px) it body [] env) R s := by
  refine codeD_loop (c₂ := .block [] env) rfl I (fun n s hI => ?_) n h
  show wpD _ A ((forTurn (.Name x px) it body [] env).onRaise (fun x => do noteFrame x env; theTreesLotGoes x)) _ _ s
  refine wpD_onRaise ?_
  simp only [forTurn]
  refine wpD_bind (wpD_standAt (wpD_bind (wpD_onRaise (wpD_of_any (wpAny_mono (turn n s hI) (fun r s₁ h₁ => ?_) fun _ _ e => e)))))
  cases r with
  | none => exact wpD_pure (.inr ⟨rfl, rfl, rfl, codeD_block_nil h₁⟩)
  | some v =>
    refine wpD_leaf (wpAny_of_eq (a := ()) rfl ?_)
    refine wpD_leaf (wpAny_mono h₁ (fun _ s₂ h₂ => ?_) fun _ _ e => e)
    refine wpD_bind (wpD_mono h₂ (fun f s₃ h₃ => ?_) fun _ _ e => e)
    obtain ⟨rfl, h₃⟩ := h₃
    exact wpD_pure (.inl ⟨rfl, h₃⟩)

/-- the invariant of a loop: it speaks of what mu names, but the frame -/
def Stab (env : Env) (mu : Addr → Prop) (J : Nat → (Str → Option Value) → Heap → Prop) : Prop :=
  ∀ i vm h h', J i vm h → (∀ b o, mu b → ¬ FA env b → h.get? b = some o → h'.get? b = some o) → J i vm h'

theorem for_list {x : Str} {px pos : Pos} {iter : Expr} {body : List Stmt} {Q : Flow → Shared → Prop} (K : EnvOk env) (hk : kd env x = true) (hh : A.handled = none)
    (h : wpAny (model prog w) A (eval iter env) (fun xv s₁ => ∃ (l : Addr) (items : Array Value) (mu : Addr → Prop) (J : Nat → (Str → Option Value) → Heap → Prop) (vm : Str → Option Value),
      xv = .ref l ∧ s₁.heap.IsList l items ∧ ¬ mu l ∧ (∀ b, mu b → b < s₁.heap.objs.size) ∧ (∀ b, FA env b → mu b) ∧ Vars env s₁.heap vm ∧ J 0 vm s₁.heap ∧ Stab env mu J ∧
      (∀ i v vm h tk, items[i]? = some v → J i vm h → Vars env h (upd vm x v) → Up mu s₁.heap h →
        wpD (model prog w) A (execs body env) (fun f s₃ => f = .next ∧ ∃ h' tk' vm', s₃ = { s₁ with heap := h', toks := tk' } ∧ Vars env h' vm' ∧ J (i + 1) vm' h' ∧ Up mu h h') NoE { s₁ with heap := h, toks := tk }) ∧
      (∀ vm h tk, J items.size vm h → Vars env h vm → Up mu s₁.heap h → Q .next { s₁ with heap := h, toks := tk })) E s)
    (hs : ∀ x, foldedSetIterable iter env x = pure x) : wpD (model prog w) A (exec (.For (.Name x px) iter body [] pos) env) Q E s := by
  rw [exec_For]
  refine wpD_bind (wpD_standAt (wpD_leaf (wpAny_mono h (fun xv s₁ h₁ => wpD_leaf (wpAny_of_eq (hs xv) (wpD_bind (wpD_standAt ?_)))) fun _ _ e => e)))
  obtain ⟨l, items, mu, J, vm, rfl, hl, hml, hsz, hfa, V, hJ, st, turn, done⟩ := h₁
  refine wpD_leaf (wpAny_holding (wpAny_pyIter_list hl ?_))
  refine D_runOwn rfl ?_
  obtain ⟨ol, hol, _⟩ := id hl
  have hlI : l ≠ s₁.heap.objs.size := Nat.ne_of_lt (Heap.lt_size hol)
  have hmI : ¬ mu s₁.heap.objs.size := fun q => Nat.lt_irrefl _ (hsz _ q)
  have old : ∀ b o, s₁.heap.get? b = some o → b ≠ s₁.heap.objs.size := fun b o e => Nat.ne_of_lt (Heap.lt_size e)
  refine codeD_forLoop (fun n s' => ∃ h' tk vm i, s' = { s₁ with heap := h', toks := tk } ∧ h'.IsListIter s₁.heap.objs.size l i ∧ h'.IsList l items ∧ Vars env h' vm ∧ J i vm h' ∧ i ≤ items.size ∧ n = items.size + 1 - i ∧ Up mu s₁.heap h') ?_ (items.size + 1)
    ⟨_, s₁.toks, vm, 0, rfl, ⟨_, Heap.get?_push_size _ rfl, rfl, rfl⟩, hl.push _, V.ext (ext_push _ _), st _ _ _ _ hJ fun b o _ _ e => Heap.get?_push_of_some _ e, Nat.zero_le _, rfl, (ext_push _ _).up⟩
  rintro n s' ⟨h', tk, vm, i, rfl, hit, hl', V', hJ', hi, rfl, hup⟩
  cases hv : items[i]? with
  | none =>
    have hsz' : i = items.size := Nat.le_antisymm hi (by simpa using hv)
    refine wpAny_pyNext_list_end hh hit hl' hv fun h₁ he₁ => ?_
    refine done vm h₁ tk (st _ _ _ _ (hsz' ▸ hJ') fun b o hb _ e => he₁ b o (fun q => hmI (q ▸ hb)) e) (V'.at fun b hb o e => he₁ b o (fun q => hmI (q ▸ hfa b hb)) e) fun b o hb e => he₁ b o (old b o e) (hup b o hb e)
  | some v =>
    have hlt : i < items.size := (Array.getElem?_eq_some_iff.mp hv).1
    refine wpAny_pyNext_list_item hit hl' hv fun h₁ hit₁ hs₁ => ?_
    have V₁ : Vars env h₁ vm := V'.at fun b hb o e => hs₁.extBut b o (fun q => hmI (q ▸ hfa b hb)) e
    refine as_name K V₁ hk fun h₂ tk₂ V₂ U₂ => ?_
    have hJ₂ : J i vm h₂ := st _ _ _ _ hJ' fun b o hb hf e => U₂ b o hf (hs₁.extBut b o (fun q => hmI (q ▸ hb)) e)
    have up₂ : Up mu s₁.heap h₂ := fun b o hb e => U₂ b o (fun q => hb (hfa b q)) (hs₁.extBut b o (old b o e) (hup b o hb e))
    have hl₂ : h₂.IsList l items := IsList.up (IsList.up hl' (Up.of_same (mu := (· = s₁.heap.objs.size)) hs₁ rfl) hlI) U₂ fun q => hml (hfa _ q)
    have hit₂ : h₂.IsListIter s₁.heap.objs.size l (i + 1) := hit₁.at fun o e => U₂ _ o (fun q => hmI (hfa _ q)) e
    refine wpD_mono (turn i v vm h₂ tk₂ hv hJ₂ V₂ up₂) (fun f s₃ h₃ => ?_) fun _ _ e => e
    obtain ⟨rfl, h₃, tk₃, vm₃, rfl, V₃, hJ₃, U₃⟩ := h₃
    exact ⟨rfl, items.size + 1 - (i + 1), by omega, h₃, tk₃, vm₃, i + 1, rfl, hit₂.at fun o e => U₃ _ o hmI e, IsList.up hl₂ U₃ hml, V₃, hJ₃, hlt, rfl, up₂.trans U₃⟩

theorem for_range {x : Str} {px pos : Pos} {iter : Expr} {body : List Stmt} {Q : Flow → Shared → Prop} (K : EnvOk env) (hk : kd env x = true) (hh : A.handled = none)
    (h : wpAny (model prog w) A (eval iter env) (fun xv s₁ => ∃ (r : Addr) (a b c : Int) (t u v : Tok) (mu : Addr → Prop) (J : Nat → (Str → Option Value) → Heap → Prop) (vm : Str → Option Value),
      xv = .ref r ∧ IsRange s₁.heap r a b c t u v ∧ Builtin.Range.small a b c = true ∧ (∀ b, mu b → b < s₁.heap.objs.size) ∧ (∀ b, FA env b → mu b) ∧ Vars env s₁.heap vm ∧ J 0 vm s₁.heap ∧ Stab env mu J ∧
      (∀ i t vm h tk, i < (Builtin.Range.rangeSize a b c).toNat → J i vm h → Vars env h (upd vm x (.int (a + i * c) t)) → Up mu s₁.heap h →
        wpD (model prog w) A (execs body env) (fun f s₃ => f = .next ∧ ∃ h' tk' vm', s₃ = { s₁ with heap := h', toks := tk' } ∧ Vars env h' vm' ∧ J (i + 1) vm' h' ∧ Up mu h h') NoE { s₁ with heap := h, toks := tk }) ∧
      (∀ vm h tk, J (Builtin.Range.rangeSize a b c).toNat vm h → Vars env h vm → Up mu s₁.heap h → Q .next { s₁ with heap := h, toks := tk })) E s)
    (hs : ∀ x, foldedSetIterable iter env x = pure x) : wpD (model prog w) A (exec (.For (.Name x px) iter body [] pos) env) Q E s := by
  rw [exec_For]
  refine wpD_bind (wpD_standAt (wpD_leaf (wpAny_mono h (fun xv s₁ h₁ => wpD_leaf (wpAny_of_eq (hs xv) (wpD_bind (wpD_standAt ?_)))) fun _ _ e => e)))
  obtain ⟨r, a, b, c, t, u, v, mu, J, vm, rfl, hr, hsm, hsz, hfa, V, hJ, st, turn, done⟩ := h₁
  refine wpD_leaf (wpAny_holding (wpAny_pyIter_range hr hsm ?_))
  refine D_runOwn rfl ?_
  have hmI : ¬ mu s₁.heap.objs.size := fun q => Nat.lt_irrefl _ (hsz _ q)
  have old : ∀ b o, s₁.heap.get? b = some o → b ≠ s₁.heap.objs.size := fun b o e => Nat.ne_of_lt (Heap.lt_size e)
  have hnn : 0 ≤ Builtin.Range.rangeSize a b c := by
    unfold Builtin.Range.rangeSize
    split
    · split
      · have := Int.ediv_nonneg (show 0 ≤ b - a - 1 by omega) (show 0 ≤ c by omega)
        omega
      · omega
    · split
      · have := Int.ediv_nonneg (show 0 ≤ a - b - 1 by omega) (show 0 ≤ -c by omega)
        omega
      · omega
  generalize hN : Builtin.Range.rangeSize a b c = N at *
  refine codeD_forLoop (fun n s' => ∃ (h' : Heap) (tk : Nat) (vm : Str → Option Value) (i : Nat), s' = { s₁ with heap := h', toks := tk } ∧ IsRangeIter h' s₁.heap.objs.size (a + i * c) (N - i) c ∧ Vars env h' vm ∧ J i vm h' ∧ i ≤ N.toNat ∧ n = N.toNat + 1 - i ∧ Up mu s₁.heap h') ?_ (N.toNat + 1)
    ⟨_, s₁.toks, vm, 0, rfl, by simpa using Heap.get?_push_size _ rfl, V.ext (ext_push _ _), st _ _ _ _ hJ fun b o _ _ e => Heap.get?_push_of_some _ e, Nat.zero_le _, rfl, (ext_push _ _).up⟩
  rintro n s' ⟨h', tk, vm, i, rfl, hit, V', hJ', hi, rfl, hup⟩
  by_cases hlt : i < N.toNat
  · refine wpAny_pyNext_range_item hit (by omega) fun h₁ hit₁ hs₁ => ?_
    have V₁ : Vars env h₁ vm := V'.at fun b hb o e => hs₁.extBut b o (fun q => hmI (q ▸ hfa b hb)) e
    refine as_name K V₁ hk fun h₂ tk₂ V₂ U₂ => ?_
    have hJ₂ : J i vm h₂ := st _ _ _ _ hJ' fun b o hb hf e => U₂ b o hf (hs₁.extBut b o (fun q => hmI (q ▸ hb)) e)
    have up₂ : Up mu s₁.heap h₂ := fun b o hb e => U₂ b o (fun q => hb (hfa b q)) (hs₁.extBut b o (old b o e) (hup b o hb e))
    have hit₂ : IsRangeIter h₂ s₁.heap.objs.size (a + (i + 1 : Nat) * c) (N - (i + 1 : Nat)) c := by
      have e1 : a + i * c + c = a + (i + 1 : Nat) * c := by rw [Int.natCast_add, Int.add_mul]; simp; omega
      have e2 : N - i - 1 = N - (i + 1 : Nat) := by omega
      rw [← e1, ← e2]
      exact U₂ _ _ (fun q => hmI (hfa _ q)) hit₁
    refine wpD_mono (turn i _ vm h₂ tk₂ hlt hJ₂ V₂ up₂) (fun f s₃ h₃ => ?_) fun _ _ e => e
    obtain ⟨rfl, h₃, tk₃, vm₃, rfl, V₃, hJ₃, U₃⟩ := h₃
    exact ⟨rfl, N.toNat + 1 - (i + 1), by omega, h₃, tk₃, vm₃, i + 1, rfl, U₃ _ _ hmI hit₂, V₃, hJ₃, hlt, rfl, up₂.trans U₃⟩
  · have hin : i = N.toNat := by omega
    refine wpAny_pyNext_range_end hh hit (by omega) fun h₁ he₁ => ?_
    refine done vm h₁ tk (st _ _ _ _ (hin ▸ hJ') fun b o hb _ e => he₁ b o (fun q => hmI (q ▸ hb)) e) (V'.at fun b hb o e => he₁ b o (fun q => hmI (q ▸ hfa b hb)) e) fun b o hb e => he₁ b o (old b o e) (hup b o hb e)
end
end Mine

namespace Mine
open Sem (wp)

def biList : List (Str × Value) := [("len", .builtin "len"), ("range", .type "range"), ("bytes", .type "bytes"), ("bytearray", .type "bytearray"), ("sum", .builtin "sum"), ("sorted", .builtin "sorted"), ("IndexError", .type "IndexError")]
structure Gl (mg mb : Str → Option Value) (h : Heap) : Prop where
  g : h.Ns mainGlobals mg
  b : h.Ns builtinsNs mb
  lim : h.NoLimit
  bi : ∀ x v, (x, v) ∈ biList → mg x = none ∧ mb x = some v
theorem Gl.ext {mg mb : Str → Option Value} {h h' : Heap} (G : Gl mg mb h) (e : Ext h h') : Gl mg mb h' := ⟨G.g.keeps e, G.b.keeps e, G.lim.keeps e, G.bi⟩

/-- a list of ints -/
def IL (h : Heap) (a : Addr) (ns : List Int) : Prop := ∃ vs : List Value, h.IsList a vs.toArray ∧ IntsAre vs ns
theorem IL.at {h h' : Heap} {a : Addr} {ns : List Int} (x : IL h a ns) (e : ∀ o, h.get? a = some o → h'.get? a = some o) : IL h' a ns := let ⟨vs, hl, hi⟩ := x; ⟨vs, hl.at e, hi⟩
theorem IL.ext {h h' : Heap} {a : Addr} {ns : List Int} (x : IL h a ns) (e : Ext h h') : IL h' a ns := x.at fun o q => e a o q
theorem IL.up {mu : Addr → Prop} {h h' : Heap} {a : Addr} {ns : List Int} (x : IL h a ns) (e : Up mu h h') (ha : ¬ mu a) : IL h' a ns := x.at fun o q => e a o ha q
theorem IL.lt {h : Heap} {a : Addr} {ns : List Int} (x : IL h a ns) : a < h.objs.size := let ⟨_, ⟨_, ho, _⟩, _⟩ := x; Heap.lt_size ho
theorem IL.old {h : Heap} {a : Addr} {ns : List Int} (x : IL h a ns) : ∃ o, h.get? a = some o := let ⟨_, ⟨o, ho, _⟩, _⟩ := x; ⟨o, ho⟩

section
variable {M : Model} {A : Around} {E : Value → Shared → Prop} {s : Shared} {env : Env} {mg mb : Str → Option Value}
theorem ev_bi {x : Str} {pos : Pos} {v : Value} {Q : Value → Shared → Prop} (K : EnvOk env) (G : Gl mg mb s.heap) (hm : (x, v) ∈ biList) (hx : env.kindOf x = some .globalImplicit) (h : Q v s)
    (hd : (x == ("__debug__" : Str)) = false) : wpAny M A (eval (.Name x pos) env) Q E s :=
  Name_function_global K.kind hx (loadGlobal_builtin (mg := mg) (by rw [K.gl]; exact G.g) (G.bi x v hm).1 (mb := mb) (by rw [K.bl]; exact G.b) (G.bi x v hm).2 h) hd
theorem ev_gl {x : Str} {pos : Pos} {v : Value} {Q : Value → Shared → Prop} (K : EnvOk env) (G : Gl mg mb s.heap) (hm : mg x = some v) (hx : env.kindOf x = some .globalImplicit) (h : Q v s)
    (hd : (x == ("__debug__" : Str)) = false) : wpAny M A (eval (.Name x pos) env) Q E s :=
  Name_function_global K.kind hx (loadGlobal_global (mg := mg) (by rw [K.gl]; exact G.g) hm h) hd
theorem cl_builtin1 {f : Str} {fp pos : Pos} {id : String} {e : Expr} {Q : Value → Shared → Prop} (K : EnvOk env) (G : Gl mg mb s.heap) (hm : (f, Value.builtin id) ∈ biList) (hx : env.kindOf f = some .globalImplicit)
    (hd : (f == ("__debug__" : Str)) = false) (hs : starEach [e] env = [(false, eval e env)])
    (h : wpAny M A (eval e env) (fun v s₁ => wpAny M A (call (.builtin id) [v]) Q E s₁) E s) : wpAny M A (eval (.Call (.Name f fp) [e] [] pos) env) Q E s :=
  Call_Name1 (ev_bi K G hm hx (callWith_builtin rfl (evalArgs_plain (spliced_cons (wpAny_mono h (fun _ _ h₁ => spliced_nil h₁) fun _ _ e => e)))) hd) hs
theorem cl_type1 {f : Str} {fp pos : Pos} {T : String} {e : Expr} {Q : Value → Shared → Prop} (K : EnvOk env) (G : Gl mg mb s.heap) (hm : (f, Value.type T) ∈ biList) (hx : env.kindOf f = some .globalImplicit)
    (hd : (f == ("__debug__" : Str)) = false) (hs : starEach [e] env = [(false, eval e env)])
    (h : wpAny M A (eval e env) (fun v s₁ => wpAny M A (call (.type T) [v]) Q E s₁) E s) : wpAny M A (eval (.Call (.Name f fp) [e] [] pos) env) Q E s :=
  Call_Name1 (ev_bi K G hm hx (PySem.callWith_type rfl (evalArgs_plain (spliced_cons (wpAny_mono h (fun _ _ h₁ => spliced_nil h₁) fun _ _ e => e)))) hd) hs
theorem cl_type3 {f : Str} {fp pos : Pos} {T : String} {e₁ e₂ e₃ : Expr} {Q : Value → Shared → Prop} (K : EnvOk env) (G : Gl mg mb s.heap) (hm : (f, Value.type T) ∈ biList) (hx : env.kindOf f = some .globalImplicit)
    (hd : (f == ("__debug__" : Str)) = false) (hs : starEach [e₁, e₂, e₃] env = [(false, eval e₁ env), (false, eval e₂ env), (false, eval e₃ env)])
    (h : wpAny M A (eval e₁ env) (fun v₁ s₁ => wpAny M A (eval e₂ env) (fun v₂ s₂ => wpAny M A (eval e₃ env) (fun v₃ s₃ => wpAny M A (call (.type T) [v₁, v₂, v₃]) Q E s₃) E s₂) E s₁) E s) :
    wpAny M A (eval (.Call (.Name f fp) [e₁, e₂, e₃] [] pos) env) Q E s := by
  refine Call_Name (trees := [(false, eval e₁ env), (false, eval e₂ env), (false, eval e₃ env)]) (by rw [hs]; rfl) (ev_bi K G hm hx (PySem.callWith_type rfl (evalArgs_plain (spliced_cons (wpAny_mono h (fun _ _ h₁ => ?_) fun _ _ e => e)))) hd)
  exact spliced_cons (wpAny_mono h₁ (fun _ _ h₂ => spliced_cons (wpAny_mono h₂ (fun _ _ h₃ => spliced_nil h₃) fun _ _ e => e)) fun _ _ e => e)

/-- bytearray(..) over clean contexts -/
theorem D_cl_type1 {f : Str} {fp pos : Pos} {T : String} {e : Expr} {Q : Value → Shared → Prop} (K : EnvOk env) (G : Gl mg mb s.heap) (hm : (f, Value.type T) ∈ biList) (hx : env.kindOf f = some .globalImplicit)
    (hd : (f == ("__debug__" : Str)) = false) (hs : starEach [e] env = [(false, eval e env)])
    (h : wpAny M A (eval e env) (fun v s₁ => wpD M A (call (.type T) [v]) Q E s₁) E s) : wpD M A (eval (.Call (.Name f fp) [e] [] pos) env) Q E s := by
  rw [arm_eval_Call_Name']
  refine wpD_leaf (ev_bi K G hm hx ?_ hd)
  rw [hs]
  unfold callWith
  refine wpD_leaf (wpAny_holding (evalArgs_plain (spliced_cons (wpAny_mono h (fun _ _ h₁ => spliced_nil ?_) fun _ _ e => e))))
  refine wpD_bind (wpD_standAt ?_)
  refine wpD_leaf (wpAny_of_eq (a := Keeper.machine) rfl ?_)
  exact wpD_bind (wpD_mono h₁ (fun r s₂ hr => wpD_leaf (wpAny_holding (wpAny_point (wpD_pure hr)))) fun _ _ e => e)

/-- a call of a def of the text, over clean contexts -/
theorem D_cl_fn {f : Str} {fp pos : Pos} {a : Addr} {o : Obj} {fd : FuncData} {e : Expr} {rest : List Expr} {Q : Value → Shared → Prop} (K : EnvOk env) (G : Gl mg mb s.heap) (hm : mg f = some (.ref a)) (hx : env.kindOf f = some .globalImplicit)
    (hd : (f == ("__debug__" : Str)) = false) (hs : ∃ r, backTo pos (starEach (e :: rest) env) = (false, eval e env) :: r) (hst : (backTo pos (starEach (e :: rest) env)).any (·.1) = false)
    (h : wpAny M A (spliced (backTo pos (starEach (e :: rest) env))) (fun vs s₁ => (s₁.heap.get? a = some o ∧ o.data = .func fd) ∧ wpD M A (call (.ref a) vs) Q E s₁) E s) :
    wpD M A (eval (.Call (.Name f fp) (e :: rest) [] pos) env) Q E s := by
  rw [arm_eval_Call_Name']
  refine wpD_leaf (ev_gl K G hm hx ?_ hd)
  obtain ⟨r, hr⟩ := hs
  rw [hr] at h hst ⊢
  unfold callWith
  refine wpD_leaf (wpAny_holding (evalArgs_plain (wpAny_mono h (fun vs s₁ h₁ => ?_) fun _ _ e => e)))
  refine wpD_bind (wpD_standAt ?_)
  have tail : ∀ {t : Sem Value}, wpD M A t Q E s₁ → wpD M A (t >>= fun r => holding [r] point >>= fun _ => pure r) Q E s₁ :=
    fun ht => wpD_bind (wpD_mono ht (fun r s₂ hr => wpD_leaf (wpAny_holding (wpAny_point (wpD_pure hr)))) fun _ _ x => x)
  refine wpD_leaf (m := keeperOf (.ref a)) ?_
  unfold keeperOf
  refine wpAny_bind (wpAny_load h₁.1.1 ?_)
  rw [h₁.1.2]
  refine wpAny_pure ?_
  rw [hst]
  show wpD M A (if ((false, eval e env) :: r).length + 2 * 0 > 30 then (call (.ref a) ([] ++ vs) [] >>= fun r => holding [r] point >>= fun _ => pure r) else (callMarked plainCall (.ref a) ([] ++ vs) [] >>= fun r => holding [r] point >>= fun _ => pure r)) Q E s₁
  split
  · exact tail h₁.2
  · exact tail (by unfold callMarked; exact wpD_keep h₁.2)
end
end Mine

namespace Mine
open Sem (wp)

theorem bindL_all (k : Str → Option NameKind) : ∀ (binds : List (Str × Value)) (m : Str → Option Value), (∀ y ∈ binds, k y.1 = some .local) → ∀ x, bindL k binds m x = (binds.reverse.lookup x).or (m x)
  | [], m, _, x => by simp [bindL]
  | (n, v) :: r, m, h, x => by
    unfold bindL
    rw [if_pos (h _ List.mem_cons_self), bindL_all k r _ (fun y hy => h y (List.mem_cons_of_mem _ hy)) x]
    simp only [List.reverse_cons, List.lookup_append, List.lookup_cons, List.lookup_nil, Option.or_assoc]
    by_cases hx : x = n
    · subst hx; simp
    · have hb : (x == n) = false := beq_eq_false_iff_ne.mpr hx
      simp [hb, hx]
theorem bindC_all (k : Str → Option NameKind) : ∀ (binds : List (Str × Value)) (m : Str → Option Value), (∀ y ∈ binds, k y.1 = some .local) → bindC k binds m = m
  | [], m, _ => rfl
  | (n, v) :: r, m, h => by
    unfold bindC
    rw [if_pos (h _ List.mem_cons_self), bindC_all k r _ (fun y hy => h y (List.mem_cons_of_mem _ hy))]
theorem lookup_none_of {α : Type} : ∀ (l : List (Str × α)) (x : Str), (∀ y ∈ l, y.1 ≠ x) → l.lookup x = none
  | [], _, _ => rfl
  | (n, v) :: r, x, h => by
    rw [List.lookup_cons, beq_eq_false_iff_ne.mpr (Ne.symm (h _ List.mem_cons_self))]
    exact lookup_none_of r x fun y hy => h y (List.mem_cons_of_mem _ hy)

section
variable {prog : Program} {w : World} {A : Around} {E : Value → Shared → Prop} {s : Shared}
theorem codeD_fn {R : Result → Shared → Prop} {a : Addr} {o : Obj} {name : Str} {params : Arguments} {body : List Stmt} {scope : Scope} {pm cd doc : Value} {vals : List Value} {binds : List (Str × Value)}
    (hroom : A.depth < recursionLimit) (ho : s.heap.get? a = some o) (hdata : o.data = .func (docDef name params body scope pm cd doc)) (hlim : s.heap.NoLimit) (hcd : s.heap.CodeRec cd name)
    (hbind : bindArgs (docDef name params body scope pm cd doc) ⟨vals, []⟩ = pure binds) (hloc : ∀ y ∈ binds, scope.names.lookup y.1 = some .local)
    (h : ∀ h₁ tk, EnvOk (envOfC name scope s.heap.objs.size a cd) → Vars (envOfC name scope s.heap.objs.size a cd) h₁ (fun x => binds.reverse.lookup x) → Ext s.heap h₁ →
      (∀ b, FA (envOfC name scope s.heap.objs.size a cd) b → s.heap.objs.size ≤ b ∧ b < h₁.objs.size) →
      wpD (model prog w) (A.deeper (envOfC name scope s.heap.objs.size a cd)) (execs body (envOfC name scope s.heap.objs.size a cd)) (fun f s' => R (.ok (.ret (match f with | .ret v => v | _ => .none))) s') NoE { s with heap := h₁, toks := tk })
    (hco : scope.isCoroutine = false) (hgen : scope.isGenerator = false) (hk : scope.kind = .function) :
    codeD (model prog w) A (.call (.ref a) ⟨vals, []⟩) R s := by
  refine codeD_of_tree ?_
  show wpD _ A.in1 (callAny (.ref a) ⟨vals, []⟩) _ _ s
  simp only [callAny]
  refine wpD_leaf (wpAny_load ho ?_)
  obtain ⟨c, oc, vs, tq, hc, hoc, hdc, hq⟩ := hcd
  subst hc
  simp only [hdata, callFunction, docDef, hco, hgen]
  refine wpD_leaf (m := field (.ref c) 1) (wpAny_field hoc hdc hq ?_)
  refine wpD_leaf (wpAny_pure (a := name) ?_)
  have hb' : bindArgs { name := name, qualname := name, params := params, body := FuncBody.stmts body, scope := scope, globals := mainGlobals, closure := [], defaults := Value.none, kwdefaults := Value.none, doc := doc, pyModule := pm, code := Value.ref c, builtins := builtinsNs } ⟨vals, []⟩ = pure binds := hbind
  refine wpD_leaf (wpAny_of_eq hb' ?_)
  refine wpD_leaf (wpAny_newFunctionEnv_cells hk (fun x hx => .inl (hloc x hx)) fun env he s' x => ?_)
  refine wpD_leaf (wpAny_enterFrame (hlim.keeps x.toInCall.keep) hroom ?_)
  have he' : env = envOfC name scope s.heap.objs.size a (.ref c) := he
  subst he'
  refine wpD_pure ⟨rfl, rfl, codeD_of_tree ?_⟩
  show wpD _ (A.deeper (envOfC name scope s.heap.objs.size a (.ref c))) (do point; match ← (execs body (envOfC name scope s.heap.objs.size a (.ref c))).onRaise (leaving (envOfC name scope s.heap.objs.size a (.ref c))) with | .ret v => ret v | _ => ret .none) _ _ s'
  refine wpD_leaf (wpAny_point (wpD_bind (wpD_onRaise ?_)))
  obtain ⟨h₁, tk, rfl, hkeep⟩ := x.done
  have hns := x.toInCall.ns
  have hcell := x.cell
  have happ := x.apart
  have habove := x.above
  rw [bindC_all _ binds _ hloc] at hcell
  refine wpD_mono (h h₁ tk ⟨hk, ?_, ?_, rfl, rfl⟩ ⟨⟨_, hns, fun y _ => ?_⟩, ?_⟩ hkeep ?_) (fun f s' h' => ?_) fun _ _ e => e
  · intro y c' _ hc'
    exact Nat.ne_of_gt (habove y c' (mem_of_lookup hc'))
  · intro y z c' _ _ h1 h2
    exact name_of_addr happ (mem_of_lookup h1) (mem_of_lookup h2)
  · rw [bindL_all _ binds _ hloc y]; simp
  · intro y c' hky hc'
    have : (binds.reverse.lookup y) = none := lookup_none_of _ _ fun z hz e => by
      have := hloc z (List.mem_reverse.mp hz)
      rw [e] at this
      have hky' : scope.names.lookup y = some .cell := hky
      rw [hky'] at this; cases this
    rw [this]
    exact hcell y c' hc'
  · rintro b (rfl | ⟨y, hy, hc'⟩)
    · exact ⟨Nat.le_refl _, hns.lt⟩
    · exact ⟨Nat.le_of_lt (habove y b (mem_of_lookup hc')), (hcell y b hc').lt⟩
  · cases f <;> exact wpD_pure h'
end
end Mine

namespace Mine
open Sem (wp)

/-- the text's defs, by their place -/
def recAt (i : Nat) : DefRec := match PySem.Challenge.pw_oc0015_01.main.body[i]? with
  | some (.FunctionDef name args body _ _ _ scope _ _ pos) => { name := name, params := args, body := body, scope := scope, pos := pos }
  | _ => { name := "", params := { posonlyargs := [], args := [], vararg := none, kwonlyargs := [], kw_defaults := [], kwarg := none, defaults := [] }, body := [], scope := { kind := .function, names := [], isGenerator := false, isCoroutine := false, more := [] }, pos := default }
def dB : DefRec := recAt 1
def dS : DefRec := recAt 3
def dM : DefRec := recAt 5
def dL : DefRec := recAt 6
def forBody : Stmt → List Stmt
  | .For _ _ b _ _ => b
  | .While _ b _ _ => b
  | .Try b _ _ _ _ => b
  | _ => []
def stAt (l : List Stmt) (i : Nat) : Stmt := l.getD i (.Pass default)
/-- a def of the text stands -/
def FnAt (mg : Str → Option Value) (h : Heap) (d : DefRec) (a : Addr) : Prop :=
  mg d.name = some (.ref a) ∧ ∃ o pm cd doc, h.get? a = some o ∧ o.data = .func (docDef d.name d.params d.body d.scope pm cd doc) ∧ h.CodeRec cd d.name
theorem FnAt.ext {mg : Str → Option Value} {h h' : Heap} {d : DefRec} {a : Addr} (x : FnAt mg h d a) (e : Ext h h') : FnAt mg h' d a :=
  ⟨x.1, let ⟨o, pm, cd, doc, h1, h2, h3⟩ := x.2; ⟨o, pm, cd, doc, e _ _ h1, h2, h3.keeps e⟩⟩

section
variable {M : Model} {A : Around} {E : Value → Shared → Prop} {s : Shared} {env : Env}
theorem ev_sub {value slice : Expr} {pos : Pos} {T id : String} {Q : Value → Shared → Prop}
    (hl : typeLookup (.type T) "__getitem__" = pure (some (.builtin id)))
    (h : wpAny M A (eval value env) (fun o s₁ => wpAny M A (eval slice env) (fun i s₂ => s₂.TypeIs o T ∧ wpAny M A (getItem o i) Q E s₂) E s₁) E s)
    (hsub : ∀ o i, subscripted slice false o i = operate [o, i] (getItem o i)) (ht : ∀ o r, letTemporaryGo value o r = pure ()) :
    wpAny M A (eval (.Subscript value slice pos) env) Q E s := by
  rw [eval_Subscript]
  refine wpAny_bind (wpAny_mono h (fun o s₁ h₁ => wpAny_bind (wpAny_holding (wpAny_mono h₁ (fun i s₂ h₂ => wpAny_bind (wpAny_standAt ?_)) fun _ _ x => x))) fun _ _ x => x)
  refine wpAny_bind ?_
  rw [getitemInPython_of_ne h₂.1.not_modules]
  refine wpAny_bind (wpAny_specialOf h₂.1 hl ?_)
  refine wpAny_pure ?_
  refine wpAny_bind ?_
  show wpAny M A (subscripted slice false o i) _ E s₂
  rw [hsub]
  exact wpAny_operating (wpAny_mono h₂.2 (fun r s₃ h₃ => wpAny_bind (wpAny_of_eq (ht o r) (wpAny_pure h₃))) fun _ _ x => x)
end
end Mine

namespace Mine
open Sem (wp)

/-- an IndexError of the call's own, its context c; traced or new -/
def Xc (g h : Heap) (e : Addr) (c : Value) : Prop :=
  ∃ oe vs, h.get? e = some oe ∧ oe.cls = .type "IndexError" ∧ oe.data = .fields vs ∧ vs[2]? = some c ∧ g.get? e = none ∧
    (vs[1]? = some .none ∨ ∃ T oT ts, vs[1]? = some (.ref T) ∧ g.get? T = none ∧ T ≠ e ∧ h.get? T = some oT ∧ oT.data = .fields ts ∧ 3 < ts.size)
def Xt (g h : Heap) (e : Addr) (c : Value) : Prop :=
  ∃ oe vs T oT ts, h.get? e = some oe ∧ oe.cls = .type "IndexError" ∧ oe.data = .fields vs ∧ vs[2]? = some c ∧ g.get? e = none ∧ vs[1]? = some (.ref T) ∧ g.get? T = none ∧ T ≠ e ∧ h.get? T = some oT ∧ oT.data = .fields ts ∧ 3 < ts.size
theorem Xt.x {g h : Heap} {e : Addr} {c : Value} (x : Xt g h e c) : Xc g h e c := by
  obtain ⟨oe, vs, T, oT, ts, h1, h2, h3, h4, h5, h6, h7, h8, h9, h10, h11⟩ := x
  exact ⟨oe, vs, h1, h2, h3, h4, h5, .inr ⟨T, oT, ts, h6, h7, h8, h9, h10, h11⟩⟩
/-- what an exception's way changes: records of its own, and slots of frames -/
structure XR (g : Heap) (S : List Addr) (h h' : Heap) : Prop where
  old : ∀ b o, g.get? b ≠ none → b ∉ S → h.get? b = some o → h'.get? b = some o
  slots : h.UpToSlots h'
theorem XR.refl (g : Heap) (S : List Addr) (h : Heap) : XR g S h h := ⟨fun _ _ _ _ e => e, Heap.UpToSlots.refl h⟩
theorem XR.trans {g : Heap} {S : List Addr} {a b c : Heap} (x : XR g S a b) (y : XR g S b c) : XR g S a c :=
  ⟨fun p o h1 h2 e => y.old p o h1 h2 (x.old p o h1 h2 e), x.slots.trans y.slots⟩
theorem XR.ext {g : Heap} {S : List Addr} {h h' : Heap} (e : Ext h h') : XR g S h h' := ⟨fun b o _ _ q => e b o q, Heap.UpToSlots.of_keeps e⟩
/-- a record of the call's own is changed -/
theorem XR.ofRec {g : Heap} {S : List Addr} {h h' : Heap} {a : Addr} {o : Obj} {vs : Array Value} (ho : h.get? a = some o) (hd : o.data = .fields vs) (hN : g.get? a = none) (hs : Heap.SameBut a h h') : XR g S h h' :=
  ⟨fun b o' hb _ q => hs.extBut b o' (fun e => hb (e ▸ hN)) q, fun b o' q hn => ⟨o'.slots, hs.extBut b o' (fun e => by
    subst e; rw [ho] at q; cases q; exact hn vs hd) q⟩⟩
theorem frames_up {h h' : Heap} (x : h.UpToSlots h') {l : List Env} (hl : h.FunFrames {} l) : h'.FunFrames {} l :=
  hl.of_keeps fun b o ho hn => let ⟨_, e⟩ := x b o ho hn; ⟨_, e, rfl⟩
theorem Ns.slots {h h' : Heap} {a : Addr} {m : Str → Option Value} (x : h.Ns a m) (y : h.UpToSlots h') : h'.Ns a m := y.ns x
theorem Vars.slots {env : Env} {h h' : Heap} {vm : Str → Option Value} (V : Vars env h vm) (y : h.UpToSlots h') : Vars env h' vm :=
  ⟨let ⟨m, hm, r⟩ := V.loc; ⟨m, y.ns hm, r⟩, fun x c hk hc => by
    obtain ⟨o, ho, hd⟩ := V.cell x c hk hc
    obtain ⟨sl, e⟩ := y c o ho fun vs q => by rw [hd] at q; cases q
    exact ⟨_, e, hd⟩⟩
theorem IsList.slots {h h' : Heap} {a : Addr} {vs : Array Value} (x : h.IsList a vs) (y : h.UpToSlots h') : h'.IsList a vs := by
  obtain ⟨o, ho, hc, n, hd⟩ := x
  obtain ⟨sl, e⟩ := y a o ho fun vs q => by rw [hd] at q; cases q
  exact ⟨_, e, hc, n, hd⟩
theorem IL.slots {h h' : Heap} {a : Addr} {ns : List Int} (x : IL h a ns) (y : h.UpToSlots h') : IL h' a ns := let ⟨vs, hl, hi⟩ := x; ⟨vs, IsList.slots hl y, hi⟩

section
variable {M : Model} {A : Around} {E : Value → Shared → Prop} {s : Shared}

theorem flight_X {g : Heap} {e : Addr} {c : Value} {fr : Option Addr} {S : List Addr} {Q : Unit → Shared → Prop} (x : Xt g s.heap e c)
    (h : ∀ h', Xt g h' e c → XR g S s.heap h' → Q () { s with heap := h' }) : wpAny M A (setFlight (.ref e) fr) Q E s := by
  obtain ⟨oe, vs, T, oT, ts, h1, h2, h3, h4, h5, h6, h7, h8, h9, h10, h11⟩ := x
  unfold setFlight
  refine wpAny_bind (wpAny_field h1 h3 h6 ?_)
  rw [if_pos (show (Value.ref T != Value.none) = true from by simp)]
  refine wpAny_setField h9 h10 h11 (h _ ?_ (XR.ofRec h9 h10 h7 (Heap.SameBut.update ..)))
  have hd := Obj.data_mapFields h10 (·.setIfInBounds 3 (fr.elim Value.none fun f => rawInt f))
  exact ⟨oe, vs, T, _, _, (Heap.get?_update_other _ _ h8).trans h1, h2, h3, h4, h5, h6, h7, h8, Heap.get?_update_self _ h9 (Obj.isFreed_of_fields hd), hd, by simp [h11]⟩

theorem entry_X {g : Heap} {env : Env} {outer : List Env} {L e : Addr} {c : Value} {oe : Obj} {vs : Array Value} {head : Value} {hadNext : Bool} {Q : Unit → Shared → Prop}
    (hfr : A.frames = some (env :: outer)) (hl : s.heap.FunFrames {} (env :: outer)) (hf : env.frame = some L) (hN : g.objs.size ≤ s.heap.objs.size)
    (he : s.heap.get? e = some oe) (hcl : oe.cls = .type "IndexError") (hd : oe.data = .fields vs) (hc : vs[2]? = some c) (hNe : g.get? e = none)
    (h : ∀ h', Xt g h' e c → XR g ((env :: outer).filterMap (·.frame)) s.heap h' → Q () { s with heap := h' }) :
    wpAny M A (do let a ← frameOf env; let pl ← entryPlaceOf L hadNext; let b ← EntryCells.newEntry head a .none (rawInt L) .none pl; setField (.ref e) 1 b) Q E s := by
  have hsz : 1 < vs.size := by have := (Array.getElem?_eq_some_iff.mp hc).1; omega
  have hene : e ∉ (env :: outer).filterMap (·.frame) := fun hm => by
    obtain ⟨_, o, ho, hnf⟩ := hl.mem hm
    rw [he] at ho; injection ho with ho; subst ho; exact hnf vs hd
  refine wpAny_bind (wpAny_frameOf_fun hfr hl hf fun h₁ hs₁ => ?_)
  refine wpAny_bind (wpAny_entryPlaceOf fun pl hpl => ?_)
  unfold EntryCells.newEntry newFields
  refine wpAny_bind (wpAny_newObj_type ?_ (hpl.sizeOk5 _ _ _ _ _))
  have he₁ : h₁.get? e = some oe := (hs₁.2.1 e hene).trans he
  generalize hoT : ({ cls := .type "traceback", dict := none, data := .fields ([head, .ref L, .none, rawInt L, .none] ++ (if pl.isEmpty then List.replicate 6 Value.none else pl)).toArray } : Obj) = oT
  have he₂ := Heap.get?_push_of_some (h := h₁) oT he₁
  have hTe : h₁.objs.size ≠ e := Nat.ne_of_gt (Heap.lt_size he₁)
  have hd₃ := Obj.data_mapFields hd (·.setIfInBounds 1 (Value.ref h₁.objs.size))
  have hfre : oT.isFreed = false := by rw [← hoT]; rfl
  refine wpAny_setField he₂ hd hsz (h _ ⟨_, _, h₁.objs.size, oT, _, Heap.get?_update_self _ he₂ (Obj.isFreed_of_fields hd₃), (Obj.cls_mapFields _ _).trans hcl, hd₃, ?_, hNe, ?_, ?_, hTe, ?_, by rw [← hoT], ?_⟩ ?_)
  · rw [Array.getElem?_setIfInBounds, if_neg (by omega)]; exact hc
  · rw [Array.getElem?_setIfInBounds, if_pos rfl, if_pos hsz]
  · exact Heap.get?_none_of_le (by rw [hs₁.1]; exact hN)
  · exact (Heap.get?_update_other _ _ (Ne.symm hTe)).trans (Heap.get?_push_size h₁ hfre)
  · simp only [List.size_toArray, List.length_append, List.length_cons, List.length_nil]; omega
  · have x1 : XR g ((env :: outer).filterMap (·.frame)) s.heap h₁ := ⟨fun b o _ hb q => (hs₁.2.1 b hb).trans q, fun b o q _ => hs₁.2.2 b o q⟩
    exact (x1.trans (XR.ext (ext_push _ _))).trans (XR.ofRec he₂ hd hNe (Heap.SameBut.update ..))

theorem note_X {g : Heap} {env : Env} {outer : List Env} {L e : Addr} {c : Value} {Q : Unit → Shared → Prop}
    (hfr : A.frames = some (env :: outer)) (hl : s.heap.FunFrames {} (env :: outer)) (hf : env.frame = some L) (hN : g.objs.size ≤ s.heap.objs.size) (x : Xc g s.heap e c)
    (h : ∀ h', Xt g h' e c → XR g ((env :: outer).filterMap (·.frame)) s.heap h' → Q () { s with heap := h' }) : wpAny M A (noteFrame (.ref e) env) Q E s := by
  obtain ⟨oe, vs, h1, h2, h3, h4, h5, hx⟩ := x
  unfold noteFrame
  simp only [hf]
  rcases hx with hx | ⟨T, oT, ts, h6, h7, h8, h9, h10, h11⟩
  · refine wpAny_bind (wpAny_field h1 h3 hx ?_)
    rw [if_neg (by decide)]
    exact entry_X hfr hl hf hN h1 h2 h3 h4 h5 h
  · refine wpAny_bind (wpAny_field h1 h3 h6 ?_)
    rw [if_pos (show (Value.ref T != Value.none) = true from by simp)]
    refine wpAny_bind (wpAny_field h9 h10 (x := ts[3]) (by simp [h11]) ?_)
    by_cases hb : (ts[3] == rawInt L) = true
    · rw [if_pos hb]
      exact wpAny_pure (h _ ⟨oe, vs, T, oT, ts, h1, h2, h3, h4, h5, h6, h7, h8, h9, h10, h11⟩ (XR.refl ..))
    · rw [if_neg hb]
      refine wpAny_bind (wpAny_setField h9 h10 h11 ?_)
      have x1 : XR g ((env :: outer).filterMap (·.frame)) s.heap (s.heap.update T (Obj.mapFields (·.setIfInBounds 3 Value.none))) := XR.ofRec h9 h10 h7 (Heap.SameBut.update ..)
      refine entry_X (s := { s with heap := s.heap.update T (Obj.mapFields (·.setIfInBounds 3 Value.none)) }) hfr (frames_up x1.slots hl) hf (by rw [Heap.size_after_update]; exact hN) ((Heap.get?_update_other _ _ h8).trans h1) h2 h3 h4 h5 fun h' y1 y2 => h h' y1 (x1.trans y2)
end
namespace B
theorem unchain_entry : entryFor table "proto.unchain" = some Builtin.«proto.unchain» := by first | exact entryFor_of_fast (by kernel_rfl) | exact entryFor_of_tree (by kernel_rfl)
theorem unchain_plain : plainId "proto.unchain" = true := by decide +kernel
end B
/-- what is handled at a raise: nothing, or a traced IndexError without a context -/
def HX (A : Around) (h : Heap) : Prop := A.handled = none ∨ ∃ e₁ oe vs, A.handled = some (.ref e₁) ∧ h.get? e₁ = some oe ∧ oe.data = .fields vs ∧ vs[2]? = some .none

section
variable {prog : Program} {w : World} {A : Around} {E : Value → Shared → Prop} {s : Shared}
theorem raise_X {α : Type} {g : Heap} {msg : String} {Q : α → Shared → Prop} (hA : HX A s.heap) (hN : g.objs.size ≤ s.heap.objs.size)
    (hE : ∀ h' tk e c, Ext s.heap h' → Xc g h' e c → (A.handled = none → c = .none) → E (.ref e) { s with heap := h', toks := tk }) :
    wpAny (model prog w) A (raiseErrorWords "IndexError" msg : Sem α) Q E s := by
  unfold raiseErrorWords
  refine wpAny_bind (wpAny_mkText (wpAny_bind ?_))
  unfold newExc newTuple
  refine wpAny_bind (wpAny_newObj_type ?_ (by size_fits))
  refine wpAny_bind (m := firstArgMember _ _) (wpAny_of_eq (a := Value.none) (by simp only [firstArgMember, plainExc_IndexError.first]; rfl) ?_)
  rw [plainExc_IndexError.own]
  refine wpAny_newObj_type ?_ (by size_fits)
  dsimp only
  generalize hH1 : s.heap.push { cls := Value.type "tuple", data := Data.seq [Value.str (Str.ofString msg) s.toks].toArray } = H1
  have hsz1 : H1.objs.size = s.heap.objs.size + 1 := by rw [← hH1, Heap.size_push]
  generalize hoe : ({ cls := Value.type "IndexError", data := Data.fields (#[Value.ref s.heap.objs.size, Value.none, Value.none, Value.none, Value.bool false, Value.none] ++ #[]) } : Obj) = oe
  have e1 : Ext s.heap H1 := hH1 ▸ ext_push _ _
  have e2 : Ext H1 (H1.push oe) := ext_push _ _
  have hfre : oe.isFreed = false := by rw [← hoe]; rfl
  have he : (H1.push oe).get? H1.objs.size = some oe := Heap.get?_push_size _ hfre
  have hgn : g.get? H1.objs.size = none := Heap.get?_none_of_le (by omega)
  have hde : oe.data = .fields #[Value.ref s.heap.objs.size, Value.none, Value.none, Value.none, Value.bool false, Value.none] := by rw [← hoe]; rfl
  have hcl : oe.cls = .type "IndexError" := by rw [← hoe]
  unfold raiseNew
  refine wpAny_bind (wpAny_handled ?_)
  rcases hA with hA | ⟨e₁, o₁, vs₁, hA, h1, h2, h3⟩
  · rw [hA]
    refine wpAny_throw (hE _ _ _ .none (e1.trans e2) ⟨oe, _, he, hcl, hde, rfl, hgn, .inl rfl⟩ fun _ => rfl)
  · rw [hA]
    dsimp only
    have hne : e₁ ≠ H1.objs.size := Nat.ne_of_lt (Heap.lt_size (e1 _ _ h1))
    rw [if_pos (show (Value.ref e₁ != Value.ref H1.objs.size) = true from by simpa using hne)]
    refine wpAny_bind (wpAny_holding (wpAny_runValue (codeAny_builtin B.unchain_entry ?_)))
    rw [Around.under_plainId B.unchain_plain]
    unfold Builtin.«proto.unchain»
    dsimp only
    refine wpAny_bind (wpAny_field (e2 _ _ (e1 _ _ h1)) h2 h3 ?_)
    rw [if_pos (by decide)]
    refine wpAny_pure ?_
    refine wpAny_bind ?_
    unfold updateField
    refine wpAny_bind (wpAny_load he ?_)
    rw [hde]
    dsimp only
    rw [if_pos (show 2 < (#[Value.ref s.heap.objs.size, Value.none, Value.none, Value.none, Value.bool false, Value.none] : Array Value).size by simp)]
    refine wpAny_update he (wpAny_throw ?_)
    have hd2 := Obj.data_mapFields hde (·.setIfInBounds 2 (Value.ref e₁))
    refine hE _ _ _ (.ref e₁) ?_ ⟨_, _, Heap.get?_update_self _ he (Obj.isFreed_of_fields hd2), (Obj.cls_mapFields _ _).trans hcl, hd2, rfl, hgn, .inl rfl⟩ fun q => by rw [hA] at q; cases q
    intro b o q
    have hb : b ≠ H1.objs.size := Nat.ne_of_lt (Heap.lt_size (e1 _ _ q))
    exact (Heap.get?_update_other _ _ (Ne.symm hb)).trans (e2 _ _ (e1 _ _ q))

theorem getItem_out {g : Heap} {l : Addr} {items : Array Value} {k : Int} {t : Tok} {Q : Value → Shared → Prop} (hA : HX A s.heap) (hN : g.objs.size ≤ s.heap.objs.size) (hl : s.heap.IsList l items)
    (h0 : 0 ≤ k) (hout : (items.size : Int) ≤ k) (hhi : k < 2 ^ 63)
    (hE : ∀ h' tk e c, Ext s.heap h' → Xc g h' e c → (A.handled = none → c = .none) → E (.ref e) { s with heap := h', toks := tk }) :
    wpAny (model prog w) A (getItem (.ref l) (.int k t)) Q E s := by
  obtain ⟨o, ho, hc, ne, hd⟩ := id hl
  unfold getItem
  refine wpAny_holding ?_
  refine wpAny_bind (wpAny_sequenceKey hl.typeIs (by decide) ?_)
  refine wpAny_bind (wpAny_callSpecial?_slot (name := Str.ofString "__getitem__") hl.typeIs slot_list_getitem
    (wpAny_call_entry slot_list_getitem hl.typeIs entry_list_getitem ?_ (args_list_getitem _ _)))
  show wpAny _ _ (Builtin.List.listSubscript? (.int k t) >>= _) _ _ s
  refine wpAny_bind (wpAny_listSubscript_int (fitsIndex_of h0 hhi) ?_)
  clear hhi
  obtain ⟨j, rfl⟩ := Int.eq_ofNat_of_zero_le h0
  have hx : items[j]? = none := Array.getElem?_eq_none (by omega)
  show wpAny _ _ ((seqItemAt l j >>= fun r => pure (r.map (j, ·))) >>= _) _ _ s
  refine wpAny_bind (wpAny_bind (wpAny_seqItemAt ho hd (wpAny_pure ?_)))
  rw [hx]
  have hA' : HX A.in1 s.heap := hA
  first
    | exact wpAny_bind (wpAny_rule (raise_X hA' hN hE))
    | exact wpAny_bind (wpAny_rule (wpAny_bind (raise_X hA' hN hE)))
    | exact wpAny_bind (wpAny_bind (wpAny_rule (raise_X hA' hN hE)))
    | exact wpAny_rule (raise_X hA' hN hE)
end
end Mine

namespace Mine
open Sem (wp)
namespace B
theorem ba_mro : mroOf (.type "bytearray") = pure [.type "bytearray", .type "object"] := by rw [mroOf_type]; kernel_rfl
theorem ba_lookup_new : typeLookup (.type "bytearray") "__new__" = pure (some (.builtin "bytearray.__new__")) := by rw [typeLookup_type, builtinLookup_eq_fast]; kernel_rfl
theorem ba_slot_init : Slot "bytearray" "__init__" "bytearray.__init__" :=
  .of (owner := "bytearray") (n := "__init__") (by rw [typeLookup_type, builtinLookup_eq_fast]; kernel_rfl) (by decide +kernel) (by decide +kernel) (by decide +kernel)
    (by first | exact .inl (by decide +kernel) | exact .inr (by decide +kernel)) (by rw [isSubtype_type]; kernel_rfl)
theorem ba_called : TypeCalled "bytearray" "bytearray.__new__" "bytearray.__init__" :=
  ⟨by decide +kernel, by decide +kernel, ⟨_, _, ba_mro⟩, madeBy_type ba_mro ba_lookup_new (by decide +kernel), by decide +kernel, by rw [isSubtype_type]; kernel_rfl, ba_slot_init⟩
theorem ba_typeCall (a : Value) : checkTypeCall "bytearray" ⟨[a], []⟩ = pure () := by kernel_rfl
theorem ba_newCall (a : Value) : checkBuiltinCall "bytearray.__new__" ⟨[.type "bytearray", a], []⟩ = pure () := by kernel_rfl
theorem ba_entry_new : entryFor table "bytearray.__new__" = some Builtin.«list.__new__» :=
  entryFor_alias (id' := "list.__new__") (by kernel_rfl) (by decide +kernel) (by decide +kernel) (by kernel_rfl)
theorem ba_entry_init : entryFor table "bytearray.__init__" = some Builtin.«bytearray.__init__» := by first | exact entryFor_of_fast (by kernel_rfl) | exact entryFor_of_tree (by kernel_rfl)
theorem ba_plain_new : plainId "bytearray.__new__" = true := by decide +kernel
theorem ba_plain_init : plainId "bytearray.__init__" = true := by decide +kernel
theorem ba_sub : isSubtype (.type "bytearray") (.type "bytearray") = pure true := by rw [isSubtype_type]; kernel_rfl
theorem ba_bind (v : Value) : Builtin.Bytes.bindOptional "bytearray.__init__" "bytearray" ["source", "encoding", "errors"] [v] [] = pure [some v, none, none] := by kernel_rfl
theorem ba_release : typeLookup (.type "bytearray") "__release_buffer__" = pure (some (.builtin "bytearray.__release_buffer__")) := by rw [typeLookup_type, builtinLookup_eq_fast]; kernel_rfl
set_option maxRecDepth 1000000 in
set_option maxHeartbeats 4000000 in
theorem owner_ba : ("bytearray.__new__".splitOn ".__new__").headD "" = "bytearray" := by simp +decide [String.splitOn, String.splitOnAux]
theorem ba_initArgs (obj a : Value) : argsOk "bytearray.__init__" ⟨[obj, a], []⟩ := by
  unfold argsOk; kernel_rfl
end B

section
variable {prog : Program} {w : World} {A : Around} {E : Value → Shared → Prop} {s : Shared}

theorem code_ba_new (a : Value) {Q₁ : Value → Shared → Prop}
    (h : Q₁ (.ref s.heap.objs.size) { s with heap := s.heap.push { cls := .type "bytearray", data := .bytearray #[] } }) :
    codeAny (model prog w) A (.call (.builtin "bytearray.__new__") ⟨[.type "bytearray", a], []⟩) (wants Q₁ E) s := by
  refine codeAny_of_tree ?_
  show wpAny _ A.in1 (do checkBuiltinCall "bytearray.__new__" ⟨[.type "bytearray", a], []⟩; again (.builtin "bytearray.__new__" ⟨[.type "bytearray", a], []⟩)) _ _ s
  refine wpAny_bind (wpAny_of_eq (B.ba_newCall a) (wpAny_pure ⟨plainId_quiet B.ba_plain_new _, codeAny_builtin_stack B.ba_entry_new rfl fun p st => ?_⟩))
  rw [Around.under_plainId B.ba_plain_new _]
  have hsub := B.ba_sub
  have hown := B.owner_ba
  obtain ⟨hp, g, d, tk, os⟩ := s
  simp only [hown]
  wp_walk
  exact h

theorem exported_clean {Γ : Ctx} {self : Value} {Q : Bool → Pos → Shared → Prop} {E' : Value → Pos → Shared → Prop} {p : Pos} (hΓ : Γ.In A) (hc : Clean Γ) (hg : A.guards = some [])
    (h : Q false p s) : wp (model prog w) Γ (Builtin.Bytes.exported self) Q E' p s := by
  have hgs : guardsOf ((Γ.code, p) :: Γ.below) = [] := by rw [guardsOf_cons]; exact hΓ.2.2.2.1 [] hg
  have hcs : cleanStack ((Γ.code, p) :: Γ.below) = true := by simp only [cleanStack, List.all_cons, Bool.and_eq_true]; exact ⟨hc.1, hc.2⟩
  generalize hl : (Γ.code, p) :: Γ.below = l at hgs hcs
  unfold Builtin.Bytes.exported
  rw [Sem.wp_bind']
  unfold stack
  rw [Sem.wp_stack, hl]
  show Q (List.any _ _) p s
  refine Eq.mpr (congrArg (fun b => Q b p s) (?e : List.any _ _ = false)) h
  rw [List.any_eq_false]
  rintro ⟨c, p'⟩ hm
  have h1 : noDec c = true := List.all_eq_true.mp hcs _ hm
  have h2 : c.isGuard = false := by
    cases hh : c.isGuard with
    | false => rfl
    | true =>
      have : c ∈ guardsOf l := by
        unfold guardsOf
        exact List.mem_filter.mpr ⟨List.mem_map.mpr ⟨(c, p'), hm, rfl⟩, hh⟩
      rw [hgs] at this; cases this
  split
  · next e => cases e; exact absurd h2 (by show ¬ (guardIds.contains "bytearray.__contains__" = false); decide +kernel)
  · next e => cases e; exact absurd h2 (by show ¬ (guardIds.contains "bytearray.__mod__" = false); decide +kernel)
  · next e => cases e; exact absurd h2 (by show ¬ (guardIds.contains "bytearray.__rmod__" = false); decide +kernel)
  · next e => cases e; exact absurd h2 (by show ¬ (guardIds.contains "_struct.pack_into.held" = false); decide +kernel)
  · next e => cases e; exact absurd h2 (by show ¬ (guardIds.contains "bytearray.find.held" = false); decide +kernel)
  · next e =>
    cases e
    simp only [noDec, Bool.not_eq_true'] at h1
    rw [h1]; simp
  · simp

theorem exported_D {self : Value} {Q : Bool → Shared → Prop} (hg : A.guards = some []) (h : Q false s) : wpD (model prog w) A (Builtin.Bytes.exported self) Q E s :=
  fun _ _ hΓ hc => exported_clean hΓ hc hg h

theorem if_false_D {α : Type} {M : Model} {c : Bool} {a b : Sem α} {Q : α → Shared → Prop} (hc : c = false) (h : wpD M A b Q E s) : wpD M A (if c = true then a else b) Q E s := by
  subst hc; exact h
theorem if_true_D {α : Type} {M : Model} {c : Bool} {a b : Sem α} {Q : α → Shared → Prop} (hc : c = true) (h : wpD M A a Q E s) : wpD M A (if c = true then a else b) Q E s := by
  subst hc; exact h

end
end Mine

namespace Mine
open Sem (wp)
namespace B
theorem ba_lookup_release : ∃ r, typeLookup (.type "bytearray") "__release_buffer__" = pure (some (.builtin r)) := ⟨_, ba_release⟩
theorem ba_ends : ("bytearray.__release_buffer__".endsWith ("." ++ "__release_buffer__")) = true := by decide +kernel
theorem ba_drop : ("bytearray.__release_buffer__".dropRight ("__release_buffer__".length + 1)) = "bytearray" := by decide +kernel
theorem asStr_int (i : Int) (t : Tok) : asStr? (.int i t) = pure none := rfl
theorem asIndex_int (i : Int) (t : Tok) : asIndex (.int i t) = pure i := rfl
theorem int_index : typeLookup (.type "int") "__index__" = pure (some (.builtin "int.__index__")) := by rw [typeLookup_type, builtinLookup_eq_fast]; kernel_rfl
end B
section
variable {prog : Program} {w : World} {A : Around} {E : Value → Shared → Prop} {s : Shared}
theorem slotIsOwn_release {S : Addr} {Q : Bool → Shared → Prop} (hT : s.TypeIs (.ref S) "bytearray") (h : Q true s) :
    wpAny (model prog w) A (Builtin.Bytes.slotIsOwn (.ref S) "__release_buffer__") Q E s := by
  unfold Builtin.Bytes.slotIsOwn
  refine wpAny_bind (wpAny_specialOf hT B.ba_release ?_)
  dsimp only
  rw [B.ba_ends, B.ba_drop]
  exact wpAny_isInstance hT B.ba_sub h
theorem ownRelease_ba {S : Addr} {Q : Bool → Shared → Prop} (hT : s.TypeIs (.ref S) "bytearray") (h : Q false s) :
    wpAny (model prog w) A (Builtin.Bytes.ownRelease (.ref S)) Q E s := by
  unfold Builtin.Bytes.ownRelease
  exact wpAny_bind (slotIsOwn_release hT (wpAny_pure h))

theorem write_ba {S : Addr} {b₀ : Array UInt8} {f : Array UInt8 → Array UInt8} {Q : Unit → Shared → Prop} (hS : s.heap.get? S = some { cls := .type "bytearray", data := .bytearray b₀ }) (hz : (f b₀).size ≤ sizeLine)
    (h : ∀ h', h'.get? S = some { cls := .type "bytearray", data := .bytearray (f b₀) } → Heap.SameBut S s.heap h' → Q () { s with heap := h' }) :
    wpAny (model prog w) A (Builtin.Bytes.write (.ref S) f) Q E s := by
  show wpAny _ _ (updateBytearray S f) _ _ _
  unfold updateBytearray
  refine wpAny_bind (wpAny_load hS ?_)
  show wpAny _ _ (update S (Obj.mapBytearray f) >>= fun _ => lookBehind S) _ _ _
  refine wpAny_bind (wpAny_update hS ?_)
  have hS₂ : (s.heap.update S (Obj.mapBytearray f)).get? S = some { cls := .type "bytearray", data := .bytearray (f b₀) } :=
    Heap.get?_update_self (Obj.mapBytearray f) hS rfl
  refine wpAny_lookBehind hS₂ ?_ (h _ hS₂ (Heap.SameBut.update ..))
  show (if (f b₀).size > sizeLine then some "bytearray:memory" else none) = none
  rw [if_neg (Nat.not_lt.mpr hz)]
theorem payload_ba {S : Addr} {b₀ : Array UInt8} {Q : Array UInt8 → Shared → Prop} (hS : s.heap.get? S = some { cls := .type "bytearray", data := .bytearray b₀ }) (h : Q b₀ s) :
    wpAny (model prog w) A (Builtin.Bytes.payload (.ref S)) Q E s := by
  unfold Builtin.Bytes.payload Builtin.Bytes.payload?
  exact wpAny_bind (wpAny_bind (wpAny_load hS (wpAny_pure (wpAny_pure h))))

theorem ba_init {n : Int} {t : Tok} {S : Addr} {Q : PySem.Fin → Shared → Prop} (hg : A.guards = some []) (h0 : 0 ≤ n) (hn : n.toNat ≤ sizeLine)
    (hS : s.heap.get? S = some { cls := .type "bytearray", data := .bytearray #[] })
    (h : ∀ h', h'.get? S = some { cls := .type "bytearray", data := .bytearray (Array.replicate n.toNat 0) } → Heap.SameBut S s.heap h' → Q (.done (.ret .none)) { s with heap := h' }) :
    wpD (model prog w) A (Builtin.«bytearray.__init__» ⟨[.ref S, .int n t], []⟩) Q E s := by
  have hT : s.TypeIs (.ref S) "bytearray" := ⟨_, hS, rfl⟩
  unfold Builtin.«bytearray.__init__»
  dsimp only
  refine wpD_leaf (ownRelease_ba hT ?_)
  refine if_false_D rfl ?_
  refine wpD_leaf (wpAny_of_eq (B.ba_bind _) ?_)
  dsimp only
  refine wpD_leaf (wpAny_of_eq (a := ()) rfl ?_)
  refine wpD_leaf (wpAny_of_eq (a := ()) rfl ?_)
  refine wpD_bind ?_
  unfold orM
  refine wpD_bind (exported_D hg ?_)
  refine wpD_leaf (m := Builtin.Bytes.exportsOf (.ref S)) ?_
  show wpAny _ _ (load S >>= _) _ _ _
  refine wpAny_bind (wpAny_load hS (wpAny_pure ?_))
  refine wpD_pure ?_
  refine if_false_D (by decide) ?_
  refine wpD_of_any ?_
  refine wpAny_bind (write_ba hS (Nat.zero_le _) fun h₁ hS₁ hs₁ => ?_)
  refine wpAny_bind ?_
  refine wpAny_of_eq (B.asStr_int _ _) ?_
  refine bm_if_false rfl ?_
  refine wpAny_bind (wpAny_of_eq (a := ()) rfl ?_)
  refine wpAny_bind (wpAny_specialOf (T := "int") rfl B.int_index ?_)
  refine bm_if_true rfl ?_
  refine wpAny_bind (wpAny_attempt (wpAny_of_eq (B.asIndex_int _ _) ?_))
  have hsz : sizeLine = 2 ^ 24 := sizeLine_eq
  have hlt : n < 2 ^ 25 := by omega
  have hf : (!Builtin.Bytes.fitsIndex n) = false := by
    unfold Builtin.Bytes.fitsIndex
    simp only [Bool.not_eq_false', Bool.and_eq_true, decide_eq_true_eq]
    omega
  have hm : (n == 2 ^ 63 - 1) = false := beq_eq_false_iff_ne.mpr (by omega)
  have ht : Builtin.Bytes.tooLong n.toNat = false := by
    unfold Builtin.Bytes.tooLong
    exact decide_eq_false (by omega)
  dsimp only
  refine bm_if_false hf ?_
  rw [if_neg (show ¬ n < 0 by omega)]
  refine bm_if_false hm ?_
  refine bm_if_false ht ?_
  refine wpAny_bind (wpAny_rule ?_)
  by_cases hp : n > 0
  · rw [if_pos hp]
    refine wpAny_bind (write_ba hS₁ (by rw [Array.size_replicate]; exact hn) fun h₂ hS₂ hs₂ => ?_)
    exact wpAny_pure (h h₂ hS₂ (hs₁.trans hs₂))
  · rw [if_neg hp]
    have hn0 : n = 0 := by omega
    subst hn0
    exact wpAny_pure (h h₁ hS₁ hs₁)

/-- bytearray(n): a new bytearray of n noughts -/
theorem call_bytearray {n : Int} {t : Tok} {Q : Value → Shared → Prop} (hg : A.guards = some []) (h0 : 0 ≤ n) (hn : n.toNat ≤ sizeLine)
    (h : ∀ h', h'.get? s.heap.objs.size = some { cls := .type "bytearray", data := .bytearray (Array.replicate n.toNat 0) } → (∀ b o, s.heap.get? b = some o → h'.get? b = some o) →
      Q (.ref s.heap.objs.size) { s with heap := h' }) :
    wpD (model prog w) A (call (.type "bytearray") [.int n t]) Q E s := by
  refine wpD_call (codeD_of_tree ?_)
  show wpD _ _ (callAny (.type "bytearray") _) _ _ _
  refine wpD_pure ⟨Code.quiet_builtin _ (by decide +kernel), noDec_builtin _ (by decide +kernel), codeD_builtin F.entry_type_call ?_⟩
  rw [Around.under_plain (weight_type_call_type _ _ _) rfl]
  unfold Builtin.«type.__call__»
  dsimp only
  refine if_false_D B.ba_called.notType ?_
  refine if_false_D B.ba_called.canCreate ?_
  refine wpD_leaf (wpAny_of_eq (B.ba_typeCall _) ?_)
  refine wpD_leaf (wpAny_of_eq B.ba_mro ?_)
  refine if_false_D rfl ?_
  refine wpD_leaf (wpAny_of_eq B.ba_called.made ?_)
  dsimp only
  refine wpD_leaf (wpAny_of_eq (a := Value.builtin "bytearray.__new__") rfl ?_)
  refine wpD_leaf (wpAny_holding (wpAny_call (code_ba_new _ ?_)))
  have hS : (s.heap.push { cls := .type "bytearray", data := .bytearray #[] }).get? s.heap.objs.size = some { cls := .type "bytearray", data := .bytearray #[] } := Heap.get?_push_size _ rfl
  have hT : ({ s with heap := s.heap.push { cls := .type "bytearray", data := .bytearray #[] } } : Shared).TypeIs (.ref s.heap.objs.size) "bytearray" := ⟨_, hS, rfl⟩
  refine wpD_leaf (wpAny_isInstance hT B.ba_sub ?_)
  refine if_false_D rfl ?_
  refine wpD_bind (wpD_holding ?_)
  unfold callSpecial?
  refine wpD_leaf (wpAny_specialOf hT B.ba_slot_init.lookup ?_)
  dsimp only
  refine wpD_holding ?_
  refine wpD_leaf (wpAny_of_eq (B.ba_slot_init.bind _) ?_)
  dsimp only
  refine wpD_bind (wpD_call (codeD_call_builtin B.ba_plain_init (by decide +kernel) B.ba_entry_init ?_))
  refine B.ba_slot_init.check _ _ _ _ _ _ _ _ hT (B.ba_initArgs _ _) ?_
  refine ba_init hg h0 hn hS fun h' hS' hs' => ?_
  refine wpD_pure ?_
  refine if_false_D rfl ?_
  refine wpD_pure (h h' hS' fun b o e => hs'.extBut b o (Nat.ne_of_lt (Heap.lt_size e)) (Heap.get?_push_of_some _ e))
end
end Mine

namespace Mine
open Sem (wp)
namespace B
theorem ba_slot_setitem : Slot "bytearray" "__setitem__" "bytearray.__setitem__" :=
  .of (owner := "bytearray") (n := "__setitem__") (by rw [typeLookup_type, builtinLookup_eq_fast]; kernel_rfl) (by decide +kernel) (by decide +kernel) (by decide +kernel)
    (by first | exact .inl (by decide +kernel) | exact .inr (by decide +kernel)) (by rw [isSubtype_type]; kernel_rfl)
theorem ba_entry_setitem : entryFor table "bytearray.__setitem__" = some Builtin.«bytearray.__setitem__» := by first | exact entryFor_of_fast (by kernel_rfl) | exact entryFor_of_tree (by kernel_rfl)
theorem ba_setArgs (a b c : Value) : argsOk "bytearray.__setitem__" ⟨[a, b, c], []⟩ := by
  unfold argsOk; kernel_rfl
theorem ba_no_bytes : typeLookup (.type "bytearray") "__bytes__" = pure none := by rw [typeLookup_type, builtinLookup_eq_fast]; kernel_rfl
theorem ba_no_index : typeLookup (.type "bytearray") "__index__" = pure none := by rw [typeLookup_type, builtinLookup_eq_fast]; kernel_rfl
theorem ba_buffer : typeLookup (.type "bytearray") "__buffer__" = pure (some (.builtin "bytearray.__buffer__")) := by rw [typeLookup_type, builtinLookup_eq_fast]; kernel_rfl
theorem ba_ends2 : ("bytearray.__buffer__".endsWith ("." ++ "__buffer__")) = true := by decide +kernel
theorem ba_drop2 : ("bytearray.__buffer__".dropRight ("__buffer__".length + 1)) = "bytearray" := by decide +kernel
end B
section
variable {prog : Program} {w : World} {A : Around} {E : Value → Shared → Prop} {s : Shared}

theorem setItem_ba {S : Addr} {b₀ : Array UInt8} {k v : Int} {t u : Tok} {Q : Unit → Shared → Prop} (hS : s.heap.get? S = some { cls := .type "bytearray", data := .bytearray b₀ })
    (hz : b₀.size ≤ sizeLine) (h0 : 0 ≤ k) (hk : k.toNat < b₀.size) (hv0 : 0 ≤ v) (hv : v < 256)
    (h : ∀ h', h'.get? S = some { cls := .type "bytearray", data := .bytearray (b₀.setIfInBounds k.toNat v.toNat.toUInt8) } → Heap.SameBut S s.heap h' → Q () { s with heap := h' }) :
    wpAny (model prog w) A (setItem (.ref S) (.int k t) (.int v u)) Q E s := by
  have hT : s.TypeIs (.ref S) "bytearray" := ⟨_, hS, rfl⟩
  have hsz : sizeLine = 2 ^ 24 := sizeLine_eq
  unfold setItem
  refine wpAny_holding ?_
  refine wpAny_bind (wpAny_sequenceKey hT (by decide) ?_)
  refine wpAny_bind (wpAny_callSpecial?_slot (name := Str.ofString "__setitem__") hT B.ba_slot_setitem
    (wpAny_call_entry B.ba_slot_setitem hT B.ba_entry_setitem ?_ (B.ba_setArgs _ _ _)))
  unfold Builtin.«bytearray.__setitem__»
  dsimp only
  refine bm_if_false rfl ?_
  refine wpAny_bind ?_
  unfold Builtin.Bytes.subscript?
  refine wpAny_bind (wpAny_specialOf (T := "int") rfl B.int_index ?_)
  refine bm_if_false rfl ?_
  refine wpAny_bind (wpAny_of_eq (B.asIndex_int _ _) ?_)
  have hf : (!Builtin.Bytes.fitsIndex k) = false := by
    unfold Builtin.Bytes.fitsIndex
    simp only [Bool.not_eq_false', Bool.and_eq_true, decide_eq_true_eq]
    omega
  refine bm_if_false hf ?_
  refine wpAny_pure ?_
  dsimp only
  refine wpAny_bind ?_
  unfold Builtin.Bytes.byteValue
  refine wpAny_bind (wpAny_of_eq (B.asIndex_int _ _) ?_)
  refine bm_if_false (by simp only [Bool.or_eq_false_iff, decide_eq_false_iff_not]; omega) ?_
  refine wpAny_pure ?_
  refine wpAny_bind (payload_ba hS ?_)
  have hi : seqIndex? k b₀.size = some k.toNat := by
    unfold seqIndex?
    rw [if_neg (show ¬ k < 0 by omega)]
    exact if_pos (by simp only [Bool.and_eq_true, decide_eq_true_eq]; omega)
  rw [hi]
  dsimp only
  refine wpAny_bind (write_ba hS (by rw [Array.size_setIfInBounds]; exact hz) fun h' hS' hs' => ?_)
  exact wpAny_pure ⟨_, rfl, wpAny_pure (h h' hS' hs')⟩

theorem bytes_of_ba {S : Addr} {b₀ : Array UInt8} {Q : Value → Shared → Prop} (hS : s.heap.get? S = some { cls := .type "bytearray", data := .bytearray b₀ }) (hz : b₀.size ≤ sizeLine)
    (hQ : Q (.bytes b₀ s.toks) { s with toks := s.toks + 1 }) : wpAny (model prog w) A (call (.type "bytes") [.ref S]) Q E s := by
  have hT : s.TypeIs (.ref S) "bytearray" := ⟨_, hS, rfl⟩
  refine callType_codes (Q₁ := fun obj s₁ => s₁.TypeIs obj "bytes" ∧ Q obj s₁) F.bm_called (F.bm_typeCall _) F.entry_object_init ?_ fun obj s₁ h₁ =>
    ⟨h₁.1, F.args_object_init_2 obj _, object_init_meets F.bm_called.init.lookup F.bm_called.made (by decide) prog w A.in1 _ s₁ ⟨h₁.1, rfl, h₁.2⟩⟩
  refine codeAny_of_tree ?_
  show wpAny _ A.in1.in1 (do checkBuiltinCall "bytes.__new__" ⟨[.type "bytes", .ref S], []⟩; again (.builtin "bytes.__new__" ⟨[.type "bytes", .ref S], []⟩)) _ _ s
  refine wpAny_bind (wpAny_of_eq (F.bm_newCall _) (wpAny_pure ⟨plainId_quiet F.bm_plain _, codeAny_builtin F.bm_entry ?_⟩))
  rw [Around.under_plainId F.bm_plain _]
  unfold Builtin.«bytes.__new__»
  refine wpAny_bind (wpAny_of_eq (a := true) rfl ?_)
  refine bm_if_false rfl ?_
  refine wpAny_bind (wpAny_of_eq F.bm_sub ?_)
  refine bm_if_false rfl ?_
  refine wpAny_bind (wpAny_of_eq (F.bm_bind _) ?_)
  refine wpAny_bind (wpAny_of_eq (a := ()) rfl ?_)
  refine wpAny_bind (wpAny_of_eq (a := ()) rfl ?_)
  refine bm_if_false rfl ?_
  refine wpAny_bind (wpAny_specialOf hT B.ba_no_bytes ?_)
  refine wpAny_bind (wpAny_bind ?_)
  show wpAny _ _ (load S >>= _) _ _ _
  refine wpAny_bind (wpAny_load hS ?_)
  refine wpAny_pure (wpAny_pure ?_)
  refine bm_if_false rfl ?_
  refine wpAny_bind (wpAny_specialOf hT B.ba_no_index ?_)
  refine bm_if_true rfl ?_
  first
    | show wpAny _ _ (Builtin.Bytes.buffer? "bytes.__new__" (.ref S) true >>= _) _ _ _
    | (refine wpAny_bind ?_; show wpAny _ _ (Builtin.Bytes.buffer? "bytes.__new__" (.ref S) true >>= _) _ _ _)
  refine wpAny_bind ?_
  unfold Builtin.Bytes.buffer?
  refine wpAny_bind (wpAny_specialOf hT B.ba_buffer ?_)
  dsimp only
  refine wpAny_bind ?_
  unfold Builtin.Bytes.slotIsOwn
  refine wpAny_bind (wpAny_specialOf hT B.ba_buffer ?_)
  dsimp only
  rw [B.ba_ends2, B.ba_drop2]
  refine wpAny_isInstance hT B.ba_sub ?_
  refine bm_if_false rfl ?_
  refine wpAny_bind (wpAny_specialOf hT B.ba_buffer ?_)
  refine wpAny_bind (ownRelease_ba hT ?_)
  refine bm_if_false rfl ?_
  refine wpAny_bind (payload_ba hS (wpAny_pure ?_))
  refine wpAny_bind (wpAny_rule ?_)
  refine wpAny_bind (wpAny_mkBytes ?_ hz)
  show wpAny _ _ (if (Value.type "bytes" == Value.type "bytes") = true then _ else _) _ _ _
  refine bm_if_true (by decide) ?_
  first
    | exact wpAny_pure ⟨PySem.W.typeIs_bytes _ _ _, hQ⟩
    | exact wpAny_bind (wpAny_pure (wpAny_pure ⟨PySem.W.typeIs_bytes _ _ _, hQ⟩))
end
end Mine

namespace Mine
open Sem (wp)
theorem bi_len : (("len" : Str), Value.builtin "len") ∈ biList := by decide
theorem bi_range : (("range" : Str), Value.type "range") ∈ biList := by decide
theorem bi_bytes : (("bytes" : Str), Value.type "bytes") ∈ biList := by decide
theorem bi_bytearray : (("bytearray" : Str), Value.type "bytearray") ∈ biList := by decide
theorem bi_sum : (("sum" : Str), Value.builtin "sum") ∈ biList := by decide
theorem bi_sorted : (("sorted" : Str), Value.builtin "sorted") ∈ biList := by decide

/-- each block of w turned about -/
def turned (w : Nat) (d : List UInt8) (p : Nat) : UInt8 := d.getD (p / w * w + (w - 1 - p % w)) 0
def swapB (w : Nat) (d : List UInt8) : List UInt8 := (List.range d.length).map (turned w d)

theorem range_small {a b c : Int} (ha : 0 ≤ a) (ha' : a ≤ 1000000) (hb : 0 ≤ b) (hb' : b ≤ 1000000) (hc : 0 < c) (hc' : c ≤ 1000000) : Builtin.Range.small a b c = true := by
  unfold Builtin.Range.small Builtin.Range.rangeSize
  simp only [Builtin.Range.rangeFitsLong, Bool.and_eq_true, Bool.or_eq_true, decide_eq_true_eq, beq_iff_eq, if_pos (show c > 0 by omega)]
  by_cases hab : a < b
  · rw [if_pos hab]
    have h1 := Int.ediv_nonneg (show 0 ≤ b - a - 1 by omega) (show 0 ≤ c by omega)
    have h2 : (b - a - 1) / c ≤ b - a - 1 := Int.ediv_le_self _ (by omega)
    omega
  · rw [if_neg hab]; omega
theorem range_count {n W : Nat} (hW : 0 < W) (hdv : W ∣ n) : (Builtin.Range.rangeSize 0 n W).toNat = n / W := by
  obtain ⟨k, rfl⟩ := hdv
  unfold Builtin.Range.rangeSize
  rw [if_pos (show (W : Int) > 0 by omega), Nat.mul_div_cancel_left k hW]
  by_cases hk : k = 0
  · subst hk; simp
  · have hpos : (0 : Int) < ((W * k : Nat) : Int) := by
      have := Nat.mul_pos hW (Nat.pos_of_ne_zero hk); omega
    rw [if_pos hpos]
    have e : (((W * k : Nat) : Int) - 0 - 1) / (W : Int) = (k : Int) - 1 := by
      have : (((W * k : Nat) : Int) - 0 - 1) = (W : Int) * ((k : Int) - 1) + ((W : Int) - 1) := by
        rw [Int.natCast_mul, Int.mul_sub]; omega
      rw [this, Int.mul_add_ediv_left _ _ (by omega), Int.ediv_eq_zero_of_lt (by omega) (by omega)]
      omega
    rw [e]; omega

abbrev envB (L a : Addr) (cd : Value) : Env := envOfC dB.name dB.scope L a cd

structure VB (vm : Str → Option Value) (d : List UInt8) (td : Tok) (wd : Int) (tw : Tok) (S : Addr) : Prop where
  data : vm "data" = some (.bytes d.toArray td)
  width : vm "width" = some (.int wd tw)
  sw : vm "swapped_data" = some (.ref S)
theorem VB.upd {vm : Str → Option Value} {d : List UInt8} {td : Tok} {wd : Int} {tw : Tok} {S : Addr} (x : VB vm d td wd tw S) {y : Str} {v : Value} (h1 : ("data" : Str) ≠ y) (h2 : ("width" : Str) ≠ y) (h3 : ("swapped_data" : Str) ≠ y) :
    VB (upd vm y v) d td wd tw S := ⟨(upd_ne h1).trans x.data, (upd_ne h2).trans x.width, (upd_ne h3).trans x.sw⟩

section
variable {prog : Program} {w : World} {A : Around} {s : Shared} {mg mb : Str → Option Value}

/-- one turn of the inner loop -/
theorem bs_turn {L a : Addr} {cd : Value} {d : List UInt8} {td tw ti tj : Tok} {wd i j : Int} {S : Addr} {vm : Str → Option Value} {b : Array UInt8} {Q : Flow → Shared → Prop}
    (K : EnvOk (envB L a cd)) (V : Vars (envB L a cd) s.heap vm) (hv : VB vm d td wd tw S) (hi : vm "i" = some (.int i ti)) (hj : vm "j" = some (.int j tj))
    (h0 : 0 ≤ i) (h1 : 0 ≤ j) (h2 : j < wd) (h3 : i + wd ≤ d.length) (hsz : d.length ≤ 1000) (hS : s.heap.get? S = some { cls := .type "bytearray", data := .bytearray b }) (hb : b.size = d.length)
    (hQ : ∀ h' tk, h'.get? S = some { cls := .type "bytearray", data := .bytearray (b.setIfInBounds (i + wd - 1 - j).toNat (d.getD (i + j).toNat 0)) } → Heap.SameBut S s.heap h' → Q .next { s with heap := h', toks := tk }) :
    wpAny (model prog w) A (execs (forBody (stAt (forBody (stAt dB.body 1)) 0)) (envB L a cd)) Q NoE s := by
  have hline : sizeLine = 2 ^ 24 := sizeLine_eq
  show wpAny (model prog w) A (execs [_] (envB L a cd)) Q NoE s
  refine xa_next (wpAny_Assign_Subscript ?_ rfl)
  refine ev_sub FB.slot_bytes_getitem.lookup ?_ (fun _ _ => rfl) (fun _ _ => rfl)
  refine ev_name K V hv.data rfl ?_ rfl
  refine wpAny_BinOp (ev_name K V hi rfl (ev_name K V hj rfl (PyProof.Rows.add_int ?_) rfl) rfl)
  refine ⟨PySem.W.typeIs_bytes _ _ _, ?_⟩
  refine getItem_bytes (by omega) (by omega) (by omega) ?_
  obtain ⟨x, hx⟩ : ∃ x : Int, x = (((d.getD (i + j).toNat 0).toNat : Nat) : Int) := ⟨_, rfl⟩
  rw [← hx]
  refine ev_name K V hv.sw rfl ?_ rfl
  refine wpAny_BinOp (wpAny_BinOp (wpAny_BinOp (ev_name K V hi rfl (ev_name K V hv.width rfl (PyProof.Rows.add_int ?_) rfl) rfl)))
  refine wpAny_Constant_int (PyProof.Rows.sub_int ?_)
  refine ev_name K V hj rfl (PyProof.Rows.sub_int ?_) rfl
  have hxr : 0 ≤ x ∧ x < 256 := by rw [hx]; have := (d.getD (i + j).toNat 0).toNat_lt; omega
  have hxe : x.toNat.toUInt8 = d.getD (i + j).toNat 0 := by rw [hx]; simp
  refine setItem_ba hS (by omega) (by omega) (by omega) hxr.1 hxr.2 fun h' hS' hs' => ?_
  rw [hxe] at hS'
  exact ⟨rfl, wpAny_execs_nil (hQ h' _ hS' hs')⟩

/-- what is written after i blocks and j places of the next -/
def Wr (W : Nat) (d : List UInt8) (i j : Nat) (b : Array UInt8) : Prop :=
  b.size = d.length ∧ ∀ p, (p < i * W ∨ (i * W ≤ p ∧ p < i * W + W ∧ i * W + W ≤ p + j)) → p < d.length → b[p]? = some (turned W d p)
theorem Wr.start (W : Nat) (d : List UInt8) (n : Nat) (hn : n = d.length) : Wr W d 0 0 (Array.replicate n 0) :=
  ⟨by simp [hn], fun p hp hl => by omega⟩
theorem Wr.next {W : Nat} {d : List UInt8} {i : Nat} {b : Array UInt8} (h : Wr W d i W b) : Wr W d (i + 1) 0 b :=
  ⟨h.1, fun p hp hl => h.2 p (by rw [Nat.add_mul] at hp; omega) hl⟩
theorem Wr.step {W : Nat} {d : List UInt8} {i j k : Nat} {b : Array UInt8} (h : Wr W d i j b) (hj : j < W) (hn : i * W + W ≤ d.length) (hk : k = i * W + W - 1 - j) :
    Wr W d i (j + 1) (b.setIfInBounds k (d.getD (i * W + j) 0)) := by
  refine ⟨by rw [Array.size_setIfInBounds]; exact h.1, fun p hp hl => ?_⟩
  rw [Array.getElem?_setIfInBounds]
  by_cases e : k = p
  · have hlt : k < b.size := by rw [h.1]; omega
    rw [if_pos e, if_pos hlt]
    have hdiv : p / W = i := by
      rw [← e, hk]
      exact Nat.div_eq_of_lt_le (by omega) (by rw [Nat.add_mul]; omega)
    have hmod : p % W = W - 1 - j := by
      have := Nat.div_add_mod p W
      rw [hdiv, Nat.mul_comm] at this
      omega
    unfold turned
    rw [hdiv, hmod, show W - 1 - (W - 1 - j) = j by omega]
  · rw [if_neg e]
    exact h.2 p (by omega) hl
theorem Wr.done {W : Nat} {d : List UInt8} {b : Array UInt8} (hW : 0 < W) (hdv : W ∣ d.length) (h : Wr W d (d.length / W) 0 b) : b = (swapB W d).toArray := by
  apply Array.ext_getElem?
  intro p
  by_cases hp : p < d.length
  · rw [h.2 p (.inl (by rw [Nat.div_mul_cancel hdv]; exact hp)) hp]
    unfold swapB
    simp [hp]
  · rw [Array.getElem?_eq_none (by rw [h.1]; omega), Array.getElem?_eq_none (by unfold swapB; simp; omega)]

theorem bs_body {L a : Addr} {cd : Value} {d : List UInt8} {td tw : Tok} {W : Nat} {wd : Int} {vm : Str → Option Value} {Q : Flow → Shared → Prop} {g : Heap}
    (hh : A.handled = none) (hg : A.guards = some []) (K : EnvOk (envB L a cd)) (G : Gl mg mb g) (eg : Ext g s.heap) (V : Vars (envB L a cd) s.heap vm)
    (hF : ∀ b, FA (envB L a cd) b → g.objs.size ≤ b ∧ b < s.heap.objs.size) (hsg : g.objs.size ≤ s.heap.objs.size)
    (hd : vm "data" = some (.bytes d.toArray td)) (hw : vm "width" = some (.int wd tw)) (hwd : wd = W) (hW : 0 < W) (hW' : W ≤ 1000) (hdv : W ∣ d.length) (hsz : d.length ≤ 1000)
    (hQ : ∀ h' tk t, Ext g h' → Q (.ret (.bytes (swapB W d).toArray t)) { s with heap := h', toks := tk }) :
    wpD (model prog w) A (execs dB.body (envB L a cd)) Q NoE s := by
  have hline : sizeLine = 2 ^ 24 := sizeLine_eq
  show wpD (model prog w) A (execs (_ :: _ :: _ :: []) (envB L a cd)) Q NoE s
  refine xs_next (D_assign K rfl ?_ rfl)
  refine D_cl_type1 K (G.ext eg) bi_bytearray rfl rfl rfl ?_
  refine cl_builtin1 K (G.ext eg) bi_len rfl rfl rfl ?_
  refine ev_name K V hd rfl ?_ rfl
  refine len_bytes (by simp; omega) ?_
  obtain ⟨N, hN⟩ : ∃ N : Int, N = ((d.toArray.size : Nat) : Int) := ⟨_, rfl⟩
  have hN' : N.toNat = d.length := by rw [hN]; simp
  have hN'' : N = d.length := by rw [hN]; simp
  rw [← hN]
  refine call_bytearray hg (by omega) (by omega) fun h₁ hS₁ e₁ => ?_
  dsimp only at hS₁ e₁ ⊢
  obtain ⟨S, hSd⟩ : ∃ S, S = s.heap.objs.size := ⟨_, rfl⟩
  rw [← hSd] at hS₁ ⊢
  refine ⟨vm, V.ext e₁, fun h₂ tk₂ V₂ U₂ => ⟨rfl, ?_⟩⟩
  have hSF : ¬ FA (envB L a cd) S := fun q => by have := (hF S q).2; rw [hSd] at this; exact Nat.lt_irrefl _ this
  have hS₂ : h₂.get? S = some { cls := .type "bytearray", data := .bytearray (Array.replicate N.toNat 0) } := U₂ _ _ hSF hS₁
  have hVB : VB (upd vm "swapped_data" (.ref S)) d td wd tw S := ⟨(upd_ne (by decide)).trans hd, (upd_ne (by decide)).trans hw, upd_self _ _ _⟩
  have e2 : Ext g h₂ := (eg.trans e₁).after U₂ fun b hb => (hF b hb).1
  have hmu : ∀ b, (FA (envB L a cd) b ∨ b = S) → g.objs.size ≤ b := fun b hb => hb.elim (fun q => (hF b q).1) fun q => by rw [q, hSd]; exact hsg
  have hmu2 : ∀ b, (FA (envB L a cd) b ∨ b = S) → b < h₂.objs.size := by
    rintro b (q | rfl)
    · rcases q with q | ⟨x, hx, hc⟩
      · obtain ⟨m, hm, _⟩ := V₂.loc; rw [q]; exact hm.lt
      · exact (V₂.cell x b hx hc).lt
    · exact Heap.lt_size hS₂
  -- the loops
  refine xs_next (for_range K rfl hh ?_ (fun _ => rfl))
  refine cl_type3 K (G.ext e2) bi_range rfl rfl rfl ?_
  refine wpAny_Constant_int ?_
  refine cl_builtin1 K (G.ext e2) bi_len rfl rfl rfl ?_
  refine ev_name K V₂ hVB.data rfl ?_ rfl
  refine len_bytes (by simp; omega) ?_
  rw [← hN]
  refine ev_name K V₂ hVB.width rfl ?_ rfl
  refine call_range_3 (by omega) ?_ (.inl (PyProof.noPylong_small (by omega)))
  generalize hh3 : h₂.push { cls := .type "range", data := .fields #[.int 0 _, .int N _, .int wd tw] } = h₃
  have e3 : Ext h₂ h₃ := hh3 ▸ ext_push _ _
  have hcount : (Builtin.Range.rangeSize 0 N wd).toNat = d.length / W := by rw [hN'', hwd]; exact range_count hW hdv
  have hsz3 : h₂.objs.size ≤ h₃.objs.size := by rw [← hh3, Heap.size_push]; exact Nat.le_succ _
  refine ⟨_, _, _, _, _, _, _, (fun b => FA (envB L a cd) b ∨ b = S), (fun i vm h => VB vm d td wd tw S ∧ ∃ b, h.get? S = some { cls := .type "bytearray", data := .bytearray b } ∧ Wr W d i 0 b), _,
    rfl, hh3 ▸ IsRange.new _ _ _ _ _ _ _, range_small (by omega) (by omega) (by omega) (by omega) (by omega) (by omega), fun b hb => Nat.lt_of_lt_of_le (hmu2 b hb) hsz3, fun b hb => .inl hb, V₂.ext e3,
    ⟨hVB, _, e3 _ _ hS₂, Wr.start W d _ hN'⟩, ?_, ?_, ?_⟩
  · rintro i vm h h' ⟨x, b, y, z⟩ k
    exact ⟨x, b, k _ _ (.inr rfl) hSF y, z⟩
  · rintro i t vm₄ h₄ tk₄ hi ⟨x₄, b₄, hS₄, w₄⟩ V₄ U₄
    rw [hcount] at hi
    have e4 : Ext g h₄ := (e2.trans e3).after U₄ hmu
    have hiW : i * W + W ≤ d.length := by
      have h1 : (i + 1) * W ≤ d.length / W * W := Nat.mul_le_mul_right _ hi
      rw [Nat.div_mul_cancel hdv, Nat.add_mul] at h1
      omega
    have x₅ := x₄.upd (y := "i") (v := .int (0 + i * wd) t) (by decide) (by decide) (by decide)
    show wpD (model prog w) A (execs (_ :: []) (envB L a cd)) _ NoE _
    refine xs_next (for_range K rfl hh ?_ (fun _ => rfl))
    refine cl_type1 K (G.ext e4) bi_range rfl rfl rfl ?_
    refine ev_name K V₄ x₅.width rfl ?_ rfl
    refine call_range_1 ?_
    generalize hh5 : h₄.push { cls := .type "range", data := .fields #[.int 0 _, .int wd _, .int 1 _] } = h₅
    have e5 : Ext h₄ h₅ := hh5 ▸ ext_push _ _
    have hmu4 : ∀ b, (FA (envB L a cd) b ∨ b = S) → b < h₄.objs.size := by
      rintro b (q | rfl)
      · rcases q with q | ⟨x, hx, hc⟩
        · obtain ⟨m, hm, _⟩ := V₄.loc; rw [q]; exact hm.lt
        · exact (V₄.cell x b hx hc).lt
      · exact Heap.lt_size hS₄
    have hcount2 : (Builtin.Range.rangeSize 0 wd 1).toNat = W := by rw [rangeSize_one, if_pos (by omega)]; omega
    have hsz5 : h₄.objs.size ≤ h₅.objs.size := by rw [← hh5, Heap.size_push]; exact Nat.le_succ _
    refine ⟨_, _, _, _, _, _, _, (fun b => FA (envB L a cd) b ∨ b = S), (fun j vm h => (VB vm d td wd tw S ∧ vm "i" = some (.int (0 + i * wd) t)) ∧ ∃ b, h.get? S = some { cls := .type "bytearray", data := .bytearray b } ∧ Wr W d i j b), _,
      rfl, hh5 ▸ IsRange.new _ _ _ _ _ _ _, range_small (by omega) (by omega) (by omega) (by omega) (by omega) (by omega), fun b hb => Nat.lt_of_lt_of_le (hmu4 b hb) hsz5, fun b hb => .inl hb, V₄.ext e5,
      ⟨⟨x₅, upd_self _ _ _⟩, _, e5 _ _ hS₄, w₄⟩, ?_, ?_, ?_⟩
    · rintro i vm h h' ⟨x, b, y, z⟩ k
      exact ⟨x, b, k _ _ (.inr rfl) hSF y, z⟩
    · rintro j t' vm₆ h₆ tk₆ hj ⟨⟨x₆, i₆⟩, b₆, hS₆, w₆⟩ V₆ U₆
      rw [hcount2] at hj
      have x₇ := x₆.upd (y := "j") (v := .int (0 + j * 1) t') (by decide) (by decide) (by decide)
      have i₇ : upd vm₆ "j" (.int (0 + j * 1) t') "i" = some (.int (0 + i * wd) t) := (upd_ne (by decide)).trans i₆
      have ei : (0 + (i : Int) * wd) = ((i * W : Nat) : Int) := by rw [hwd, Int.natCast_mul]; omega
      refine wpD_of_any (bs_turn K V₆ x₇ i₇ (upd_self _ _ _) (by omega) (by omega) (by omega) (by omega) hsz hS₆ w₆.1 fun h₈ tk₈ hS₈ hs₈ => ⟨rfl, h₈, tk₈, _, rfl, ?_, ⟨⟨x₇, i₇⟩, _, hS₈, ?_⟩, ?_⟩)
      · exact V₆.at fun b hb o e => hs₈.extBut b o (fun q => hSF (q ▸ hb)) e
      · have e1 : (0 + (i : Int) * wd + wd - 1 - (0 + (j : Int) * 1)).toNat = i * W + W - 1 - j := by omega
        have e2 : (0 + (i : Int) * wd + (0 + (j : Int) * 1)).toNat = i * W + j := by omega
        rw [e1, e2]
        exact w₆.step hj hiW rfl
      · exact Up.of_same hs₈ (.inr rfl)
    · rintro vm₆ h₆ tk₆ ⟨⟨x₆, i₆⟩, b₆, hS₆, w₆⟩ V₆ U₆
      rw [hcount2] at w₆
      exact ⟨rfl, xs_nil ⟨rfl, h₆, tk₆, vm₆, rfl, V₆, ⟨x₆, b₆, hS₆, w₆.next⟩, e5.up.trans U₆⟩⟩
  · rintro vm₄ h₄ tk₄ ⟨x₄, b₄, hS₄, w₄⟩ V₄ U₄
    rw [hcount] at w₄
    have e4 : Ext g h₄ := (e2.trans e3).after U₄ hmu
    refine ⟨rfl, wpD_of_any ?_⟩
    refine wpAny_execs_cons (wpAny_Return_some ?_)
    refine cl_type1 K (G.ext e4) bi_bytes rfl rfl rfl ?_
    refine ev_name K V₄ x₄.sw rfl ?_ rfl
    refine bytes_of_ba hS₄ (by rw [w₄.1]; omega) ?_
    have := w₄.done hW hdv
    subst this
    exact hQ _ _ _ e4

theorem deeper_handled {A : Around} {env : Env} (h : A.handled = none) : (A.deeper env).handled = none := h
theorem deeper_guards {A : Around} {env : Env} (h : A.guards = some []) : (A.deeper env).guards = some [] := h

/-- _byteswap(data, width) -/
theorem bs_call {a : Addr} {d : List UInt8} {td tw : Tok} {W : Nat} {wd : Int} {Q : Value → Shared → Prop}
    (hh : A.handled = none) (hg : A.guards = some []) (hroom : A.depth < recursionLimit) (G : Gl mg mb s.heap) (hf : FnAt mg s.heap dB a)
    (hwd : wd = W) (hW : 0 < W) (hW' : W ≤ 1000) (hdv : W ∣ d.length) (hsz : d.length ≤ 1000)
    (hQ : ∀ h' tk t, Ext s.heap h' → Q (.bytes (swapB W d).toArray t) { s with heap := h', toks := tk }) :
    wpD (model prog w) A (call (.ref a) [.bytes d.toArray td, .int wd tw]) Q NoE s := by
  obtain ⟨_, o, pm, cd, doc, ho, hdata, hcd⟩ := hf
  refine wpD_call (codeD_fn (binds := [("data", .bytes d.toArray td), ("width", .int wd tw)]) hroom ho hdata G.lim hcd rfl (locs rfl) (fun h₁ tk K V e hF => ?_) rfl rfl rfl)
  refine bs_body (s := { s with heap := h₁, toks := tk }) (g := s.heap) (deeper_handled hh) (deeper_guards hg) K G e V hF ?_ rfl rfl hwd hW hW' hdv hsz fun h' tk' t e' => ?_
  · exact Nat.le_of_lt (Nat.lt_of_le_of_lt (hF _ (.inl rfl)).1 (hF _ (.inl rfl)).2)
  · exact hQ h' tk' t e'
end
end Mine

namespace Mine
open Sem (wp)
theorem bi_ie : (("IndexError" : Str), Value.type "IndexError") ∈ biList := by decide

/-- a plain list of ints, whole -/
def PI (h : Heap) (a : Addr) (ns : List Int) : Prop := ∃ (vs : List Value) (n : Nat), IsL h a vs.toArray n ∧ IntsAre vs ns
theorem PI.at {h h' : Heap} {a : Addr} {ns : List Int} (x : PI h a ns) (e : ∀ o, h.get? a = some o → h'.get? a = some o) : PI h' a ns := let ⟨vs, n, hl, hi⟩ := x; ⟨vs, n, e _ hl, hi⟩
theorem PI.ext {h h' : Heap} {a : Addr} {ns : List Int} (x : PI h a ns) (e : Ext h h') : PI h' a ns := x.at fun o q => e a o q
theorem PI.up {mu : Addr → Prop} {h h' : Heap} {a : Addr} {ns : List Int} (x : PI h a ns) (e : Up mu h h') (ha : ¬ mu a) : PI h' a ns := x.at fun o q => e a o ha q
theorem PI.il {h : Heap} {a : Addr} {ns : List Int} (x : PI h a ns) : IL h a ns := let ⟨vs, _, hl, hi⟩ := x; ⟨vs, hl.isList, hi⟩
theorem PI.lt {h : Heap} {a : Addr} {ns : List Int} (x : PI h a ns) : a < h.objs.size := x.il.lt
theorem PI.new (h : Heap) {vs : List Value} {ns : List Int} (hi : IntsAre vs ns) : PI (h.push { cls := .type "list", data := .seq vs.toArray }) h.objs.size ns := ⟨vs, 0, IsL.new _ _, hi⟩
theorem ints_at : ∀ {vs : List Value} {ns : List Int}, IntsAre vs ns → ∀ k (hk : k < ns.length), ∃ t, vs[k]? = some (.int ns[k] t)
  | _, _, .nil, k, hk => by simp at hk
  | _, _, .cons n t h, 0, _ => ⟨t, rfl⟩
  | _, _, .cons n t h, k + 1, hk => ints_at h k (by simpa using hk)
theorem IntsAre.len {vs : List Value} {ns : List Int} (h : IntsAre vs ns) : vs.length = ns.length := h.length

/-- what sorted_list_difference answers for rising lists -/
noncomputable def sd : List Int → List Int → List Int × List Int
  | x :: xs, y :: ys => if x < y then ((x :: (sd xs (y :: ys)).1), (sd xs (y :: ys)).2) else if y < x then ((sd (x :: xs) ys).1, y :: (sd (x :: xs) ys).2) else sd xs ys
  | xs, ys => (xs, ys)
termination_by xs ys => xs.length + ys.length

section
variable {prog : Program} {w : World} {A A' : Around} {E : Value → Shared → Prop} {s : Shared} {env : Env}

/-- an exception of the call's own, over a state -/
def EX (g : Heap) (N : Value → Prop) (I : Shared → Prop) : Value → Shared → Prop := fun e s' => ∃ ea c, e = .ref ea ∧ Xc g s'.heap ea c ∧ N c ∧ I s'
theorem EX_passes {M : Model} {g : Heap} {outer : List Env} {L : Addr} {N : Value → Prop} {I : Shared → Prop} (hfr' : A'.frames = some (env :: outer)) (hf : env.frame = some L)
    (hI : ∀ s, I s → s.heap.FunFrames {} (env :: outer) ∧ g.objs.size ≤ s.heap.objs.size) (st : ∀ s h', I s → XR g ((env :: outer).filterMap (·.frame)) s.heap h' → I { s with heap := h' }) :
    PassesOwnAt M A' A env (EX g N I) := by
  rintro _ s' ⟨ea, c, rfl, x, hn, i⟩
  refine note_X hfr' (hI s' i).1 hf (hI s' i).2 x fun h₁ x₁ r₁ => ?_
  have i₁ := st _ h₁ i r₁
  obtain ⟨oe, vs, T, oT, ts, h1, h2, h3, h4, h5, h6, h7⟩ := id x₁
  show wpAny M A _ _ _ _
  refine wpAny_bind (wpAny_field h1 h3 h6 ?_)
  rw [if_neg (by simp)]
  refine flight_X x₁ fun h₂ x₂ r₂ => ⟨ea, c, rfl, x₂.x, hn, st _ h₂ i₁ r₂⟩

/-- while xs[k] == v: .. at the list's end -/
theorem while_out {g : Heap} {vm : Str → Option Value} {lst idx val : Str} {p1 p2 p3 p4 p5 p6 : Pos} {body : List Stmt} {X : Addr} {ns : List Int} {k : Int} {t : Tok} {Q : Flow → Shared → Prop}
    (K : EnvOk env) (V : Vars env s.heap vm) (h1 : vm lst = some (.ref X)) (h2 : vm idx = some (.int k t)) (k1 : kd env lst = true) (k2 : kd env idx = true)
    (d1 : (lst == ("__debug__" : Str)) = false) (d2 : (idx == ("__debug__" : Str)) = false)
    (hX : PI s.heap X ns) (hA : HX A s.heap) (hg : g.objs.size ≤ s.heap.objs.size) (h0 : 0 ≤ k) (hk : k = ns.length) (hsz : k < 2 ^ 63)
    (hp : PassesOwn (model prog w) A env E) (hE : ∀ h' tk e c, Ext s.heap h' → Xc g h' e c → (A.handled = none → c = .none) → E (.ref e) { s with heap := h', toks := tk }) :
    wpAny (model prog w) A (exec (.While (.Compare (.Subscript (.Name lst p1) (.Name idx p2) p3) [.Eq] [.Name val p4] p5) body [] p6) env) Q E s := by
  refine wpAny_While (codeAny_whileLoop (fun n s' => n = 0 ∧ s' = s) ?_ 0 ⟨rfl, rfl⟩)
  rintro _ _ ⟨rfl, rfl⟩
  refine wpAny_isTrue_Compare1 (wpAny_mono (E := E) ?_ (fun _ _ x => x) hp)
  refine ev_sub slot_list_getitem.lookup ?_ (fun _ _ => rfl) (fun _ _ => rfl)
  obtain ⟨vs, n, hl, hi⟩ := hX
  refine ev_name K V h1 k1 (ev_name K V h2 k2 ⟨hl.isList.typeIs, ?_⟩ d2) d1
  exact getItem_out hA hg hl.isList h0 (by simp [IntsAre.len hi, hk]) hsz hE

theorem while_in {vm : Str → Option Value} {lst idx val : Str} {p1 p2 p3 p4 p5 p6 : Pos} {body : List Stmt} {X : Addr} {ns : List Int} {k v : Int} {t tv : Tok} {Q : Flow → Shared → Prop}
    (K : EnvOk env) (V : Vars env s.heap vm) (h1 : vm lst = some (.ref X)) (h2 : vm idx = some (.int k t)) (h3 : vm val = some (.int v tv)) (k1 : kd env lst = true) (k2 : kd env idx = true) (k3 : kd env val = true)
    (d1 : (lst == ("__debug__" : Str)) = false) (d2 : (idx == ("__debug__" : Str)) = false) (d3 : (val == ("__debug__" : Str)) = false)
    (hX : PI s.heap X ns) (h0 : 0 ≤ k) (hk : k.toNat < ns.length) (hsz : k < 2 ^ 63) (hne : ns[k.toNat] ≠ v) (hQ : Q .next s) :
    wpAny (model prog w) A (exec (.While (.Compare (.Subscript (.Name lst p1) (.Name idx p2) p3) [.Eq] [.Name val p4] p5) body [] p6) env) Q E s := by
  refine wpAny_While (codeAny_whileLoop (fun n s' => n = 0 ∧ s' = s) ?_ 0 ⟨rfl, rfl⟩)
  rintro _ _ ⟨rfl, rfl⟩
  refine wpAny_isTrue_Compare1 ?_
  refine ev_sub slot_list_getitem.lookup ?_ (fun _ _ => rfl) (fun _ _ => rfl)
  obtain ⟨vs, n, hl, hi⟩ := hX
  refine ev_name K V h1 k1 (ev_name K V h2 k2 ⟨hl.isList.typeIs, ?_⟩ d2) d1
  obtain ⟨u, hu⟩ := ints_at hi _ hk
  refine wpAny_getItem_list hl.isList h0 hsz (by simpa using hu) ?_
  refine ev_name K V h3 k3 (PyProof.Rows.eq_int (wpAny_truthy_bool ?_)) d3
  rw [beq_eq_false_iff_ne.mpr hne]
  simp only [Bool.false_eq_true, if_false]
  exact wpAny_execs_nil hQ
end

abbrev frs (l : List Env) : List Addr := l.filterMap (·.frame)
structure SC (g0 g : Heap) (outer : List Env) (env : Env) (L X Y M U : Addr) : Prop where
  K : EnvOk env
  fr : env.frame = some L
  loc : env.locals = L
  fa : ∀ b, FA env b → b = L
  g0L : g0.objs.size ≤ L
  gU : g.objs.size = U + 1
  eg : ∀ b, g0.get? b ≠ none → g.get? b ≠ none
  fn : g0.FunFrames {} outer
  x0 : g0.get? X ≠ none
  y0 : g0.get? Y ≠ none
  xs : X ∉ frs outer
  ys : Y ∉ frs outer
  m0 : g0.objs.size ≤ M
  u0 : g0.objs.size ≤ U
  mL : M ≠ L
  uL : U ≠ L
  mu : M ≠ U
  gm : g.get? M ≠ none
  gu : g.get? U ≠ none
  gL : g.get? L ≠ none
structure SI (g0 : Heap) (outer : List Env) (env : Env) (X Y M U : Addr) (xs ys : List Int) (h : Heap) (vm : Str → Option Value) (i j : Nat) (ms us : List Int) : Prop where
  old : ∀ b o, g0.get? b = some o → b ∉ frs outer → h.get? b = some o
  out : ∀ b o, g0.get? b = some o → b ∈ frs outer → ∃ sl, h.get? b = some { o with slots := sl }
  V : Vars env h vm
  lx : PI h X xs
  ly : PI h Y ys
  lm : PI h M ms
  lu : PI h U us
  ve : vm "expected" = some (.ref X)
  va : vm "actual" = some (.ref Y)
  vmi : vm "missing" = some (.ref M)
  vun : vm "unexpected" = some (.ref U)
  vi : ∃ t, vm "i" = some (.int i t)
  vj : ∃ t, vm "j" = some (.int j t)

theorem lt_of_ne {h : Heap} {b : Addr} (x : h.get? b ≠ none) : b < h.objs.size := by
  cases e : h.get? b with
  | none => exact absurd e x
  | some o => exact Heap.lt_size e
theorem funFrames_part {h h' : Heap} : ∀ {l : List Env}, h.FunFrames {} l → (∀ b o, h.get? b = some o → b ∈ frs l → ∃ sl, h'.get? b = some { o with slots := sl }) → h'.FunFrames {} l
  | [], _, _ => trivial
  | env :: r, ⟨hk, ⟨L, o, hf, hn, ho, hd⟩, hr⟩, k => by
    obtain ⟨sl, e⟩ := k L o ho (by simp [frs, hf])
    refine ⟨hk, ⟨L, _, hf, hn, e, hd⟩, funFrames_part hr fun b o' ho' hb => k b o' ho' ?_⟩
    simp only [frs, List.filterMap_cons, hf, List.mem_cons]
    exact .inr hb

section
variable {g0 g : Heap} {outer : List Env} {env : Env} {L X Y M U : Addr} {xs ys : List Int} {h h' : Heap} {vm : Str → Option Value} {i j : Nat} {ms us : List Int}
theorem SC.x (C : SC g0 g outer env L X Y M U) : X < g0.objs.size := lt_of_ne C.x0
theorem SC.y (C : SC g0 g outer env L X Y M U) : Y < g0.objs.size := lt_of_ne C.y0
theorem SC.nfa (C : SC g0 g outer env L X Y M U) {b : Addr} (h : b ≠ L) : ¬ FA env b := fun q => h (C.fa b q)
theorem SC.xL (C : SC g0 g outer env L X Y M U) : X ≠ L := Nat.ne_of_lt (Nat.lt_of_lt_of_le C.x C.g0L)
theorem SC.yL (C : SC g0 g outer env L X Y M U) : Y ≠ L := Nat.ne_of_lt (Nat.lt_of_lt_of_le C.y C.g0L)
theorem SC.xM (C : SC g0 g outer env L X Y M U) : X ≠ M := Nat.ne_of_lt (Nat.lt_of_lt_of_le C.x C.m0)
theorem SC.yM (C : SC g0 g outer env L X Y M U) : Y ≠ M := Nat.ne_of_lt (Nat.lt_of_lt_of_le C.y C.m0)
theorem SC.xU (C : SC g0 g outer env L X Y M U) : X ≠ U := Nat.ne_of_lt (Nat.lt_of_lt_of_le C.x C.u0)
theorem SC.yU (C : SC g0 g outer env L X Y M U) : Y ≠ U := Nat.ne_of_lt (Nat.lt_of_lt_of_le C.y C.u0)
theorem SC.old (C : SC g0 g outer env L X Y M U) {b : Addr} {o : Obj} (h : g0.get? b = some o) : b ≠ L ∧ b ≠ M ∧ b ≠ U :=
  ⟨Nat.ne_of_lt (Nat.lt_of_lt_of_le (Heap.lt_size h) C.g0L), Nat.ne_of_lt (Nat.lt_of_lt_of_le (Heap.lt_size h) C.m0), Nat.ne_of_lt (Nat.lt_of_lt_of_le (Heap.lt_size h) C.u0)⟩
theorem SC.out (C : SC g0 g outer env L X Y M U) {b : Addr} (hb : b ∈ frs outer) : b < g0.objs.size := let ⟨_, _, e, _⟩ := C.fn.mem hb; Heap.lt_size e
theorem SC.inS (C : SC g0 g outer env L X Y M U) {b : Addr} (hb : b ∈ (env :: outer).filterMap (·.frame)) : b = L ∨ b ∈ frs outer := by
  rw [List.filterMap_cons, C.fr] at hb
  exact List.mem_cons.mp hb

theorem SI.sz (C : SC g0 g outer env L X Y M U) (S : SI g0 outer env X Y M U xs ys h vm i j ms us) : g.objs.size ≤ h.objs.size := by rw [C.gU]; exact S.lu.lt
theorem SI.fun (C : SC g0 g outer env L X Y M U) (S : SI g0 outer env X Y M U xs ys h vm i j ms us) : h.FunFrames {} (env :: outer) := by
  obtain ⟨m, hm, _⟩ := S.V.loc
  rw [C.loc] at hm
  refine Heap.FunFrames.cons (by rw [C.K.kind]; decide) C.fr hm ?_ (funFrames_part C.fn fun b o hb hS => S.out b o hb hS)
  rfl
/-- all that the state names stands -/
theorem SI.keep (_C : SC g0 g outer env L X Y M U) (S : SI g0 outer env X Y M U xs ys h vm i j ms us) (e : Ext h h') : SI g0 outer env X Y M U xs ys h' vm i j ms us :=
  { S with old := fun b o hb hn => e b o (S.old b o hb hn), out := fun b o hb hn => let ⟨sl, q⟩ := S.out b o hb hn; ⟨sl, e b _ q⟩, V := S.V.ext e, lx := S.lx.ext e, ly := S.ly.ext e, lm := S.lm.ext e, lu := S.lu.ext e }
theorem SI.xr (C : SC g0 g outer env L X Y M U) (S : SI g0 outer env X Y M U xs ys h vm i j ms us) (e : XR g ((env :: outer).filterMap (·.frame)) h h') : SI g0 outer env X Y M U xs ys h' vm i j ms us := by
  have nS : ∀ b, b ≠ L → b ∉ frs outer → b ∉ (env :: outer).filterMap (·.frame) := fun b h1 h2 h3 => (C.inS h3).elim h1 h2
  have big : ∀ b, g0.objs.size ≤ b → b ∉ frs outer := fun b hb q => Nat.lt_irrefl _ (Nat.lt_of_lt_of_le (C.out q) hb)
  refine { S with old := fun b o hb hn => e.old b o (C.eg b (by rw [hb]; simp)) (nS b (C.old hb).1 hn) (S.old b o hb hn), out := fun b o hb hn => ?_, V := S.V.slots e.slots, lx := ?_, ly := ?_, lm := ?_, lu := ?_ }
  · obtain ⟨sl, q⟩ := S.out b o hb hn
    obtain ⟨_, o', ho', hd'⟩ := C.fn.mem hn
    rw [hb] at ho'; cases ho'
    obtain ⟨sl', q'⟩ := e.slots b _ q hd'
    exact ⟨sl', q'⟩
  · exact S.lx.at fun o q => e.old _ o (C.eg _ C.x0) (nS _ C.xL C.xs) q
  · exact S.ly.at fun o q => e.old _ o (C.eg _ C.y0) (nS _ C.yL C.ys) q
  · exact S.lm.at fun o q => e.old _ o C.gm (nS _ C.mL (big _ C.m0)) q
  · exact S.lu.at fun o q => e.old _ o C.gu (nS _ C.uL (big _ C.u0)) q
theorem SI.moved (C : SC g0 g outer env L X Y M U) (S : SI g0 outer env X Y M U xs ys h vm i j ms us) (e : Up (FA env) h h') {vm' : Str → Option Value} (V' : Vars env h' vm') {i' j' : Nat}
    (ve : vm' "expected" = some (.ref X)) (va : vm' "actual" = some (.ref Y)) (vmi : vm' "missing" = some (.ref M)) (vun : vm' "unexpected" = some (.ref U)) (vi : ∃ t, vm' "i" = some (.int i' t)) (vj : ∃ t, vm' "j" = some (.int j' t)) :
    SI g0 outer env X Y M U xs ys h' vm' i' j' ms us :=
  ⟨fun b o hb hn => e b o (C.nfa (C.old hb).1) (S.old b o hb hn), fun b o hb hn => let ⟨sl, q⟩ := S.out b o hb hn; ⟨sl, e b _ (C.nfa (C.old hb).1) q⟩, V',
    S.lx.up e (C.nfa C.xL), S.ly.up e (C.nfa C.yL), S.lm.up e (C.nfa C.mL), S.lu.up e (C.nfa C.uL), ve, va, vmi, vun, vi, vj⟩
theorem SI.store (C : SC g0 g outer env L X Y M U) (S : SI g0 outer env X Y M U xs ys h vm i j ms us) {x : Str} {v : Value} (e : Up (FA env) h h') (V' : Vars env h' (upd vm x v))
    (n : ("expected" : Str) ≠ x ∧ ("actual" : Str) ≠ x ∧ ("missing" : Str) ≠ x ∧ ("unexpected" : Str) ≠ x ∧ ("i" : Str) ≠ x ∧ ("j" : Str) ≠ x) : SI g0 outer env X Y M U xs ys h' (upd vm x v) i j ms us :=
  S.moved C e V' ((upd_ne n.1).trans S.ve) ((upd_ne n.2.1).trans S.va) ((upd_ne n.2.2.1).trans S.vmi) ((upd_ne n.2.2.2.1).trans S.vun) (let ⟨t, q⟩ := S.vi; ⟨t, (upd_ne n.2.2.2.2.1).trans q⟩) (let ⟨t, q⟩ := S.vj; ⟨t, (upd_ne n.2.2.2.2.2).trans q⟩)
theorem SI.storeI (C : SC g0 g outer env L X Y M U) (S : SI g0 outer env X Y M U xs ys h vm i j ms us) {k : Int} {t : Tok} (hk : k = (i + 1 : Nat)) (e : Up (FA env) h h') (V' : Vars env h' (upd vm "i" (.int k t))) : SI g0 outer env X Y M U xs ys h' (upd vm "i" (.int k t)) (i + 1) j ms us :=
  S.moved C e V' ((upd_ne (by decide)).trans S.ve) ((upd_ne (by decide)).trans S.va) ((upd_ne (by decide)).trans S.vmi) ((upd_ne (by decide)).trans S.vun) ⟨t, by rw [upd_self, hk]⟩ (let ⟨t, q⟩ := S.vj; ⟨t, (upd_ne (by decide)).trans q⟩)
theorem SI.storeJ (C : SC g0 g outer env L X Y M U) (S : SI g0 outer env X Y M U xs ys h vm i j ms us) {k : Int} {t : Tok} (hk : k = (j + 1 : Nat)) (e : Up (FA env) h h') (V' : Vars env h' (upd vm "j" (.int k t))) : SI g0 outer env X Y M U xs ys h' (upd vm "j" (.int k t)) i (j + 1) ms us :=
  S.moved C e V' ((upd_ne (by decide)).trans S.ve) ((upd_ne (by decide)).trans S.va) ((upd_ne (by decide)).trans S.vmi) ((upd_ne (by decide)).trans S.vun) (let ⟨t, q⟩ := S.vi; ⟨t, (upd_ne (by decide)).trans q⟩) ⟨t, by rw [upd_self, hk]⟩
theorem SI.wroteM (C : SC g0 g outer env L X Y M U) (S : SI g0 outer env X Y M U xs ys h vm i j ms us) (e : Heap.SameBut M h h') {ms' : List Int} (hm : PI h' M ms') : SI g0 outer env X Y M U xs ys h' vm i j ms' us :=
  { S with old := fun b o hb hn => e.extBut b o (C.old hb).2.1 (S.old b o hb hn), out := fun b o hb hn => let ⟨sl, q⟩ := S.out b o hb hn; ⟨sl, e.extBut b _ (C.old hb).2.1 q⟩, V := S.V.at fun b hb o q => e.extBut b o (fun z => C.mL (z ▸ C.fa b hb)) q, lx := S.lx.at fun o q => e.extBut _ o C.xM q, ly := S.ly.at fun o q => e.extBut _ o C.yM q, lm := hm, lu := S.lu.at fun o q => e.extBut _ o (Ne.symm C.mu) q }
theorem SI.wroteU (C : SC g0 g outer env L X Y M U) (S : SI g0 outer env X Y M U xs ys h vm i j ms us) (e : Heap.SameBut U h h') {us' : List Int} (hm : PI h' U us') : SI g0 outer env X Y M U xs ys h' vm i j ms us' :=
  { S with old := fun b o hb hn => e.extBut b o (C.old hb).2.2 (S.old b o hb hn), out := fun b o hb hn => let ⟨sl, q⟩ := S.out b o hb hn; ⟨sl, e.extBut b _ (C.old hb).2.2 q⟩, V := S.V.at fun b hb o q => e.extBut b o (fun z => C.uL (z ▸ C.fa b hb)) q, lx := S.lx.at fun o q => e.extBut _ o C.xU q, ly := S.ly.at fun o q => e.extBut _ o C.yU q, lm := S.lm.at fun o q => e.extBut _ o C.mu q, lu := hm }
end
end Mine

namespace Mine
open Sem (wp)

theorem sd_nil_left (ys : List Int) : sd [] ys = ([], ys) := by rw [sd]; intro _ _ _ _ h; cases h
theorem sd_nil_right (xs : List Int) : sd xs [] = (xs, []) := by cases xs <;> (rw [sd]; intro _ _ _ _ _ h; cases h)
theorem sd_cons (x y : Int) (xs ys : List Int) : sd (x :: xs) (y :: ys) = if x < y then ((x :: (sd xs (y :: ys)).1), (sd xs (y :: ys)).2) else if y < x then ((sd (x :: xs) ys).1, y :: (sd (x :: xs) ys).2) else sd xs ys := by rw [sd]

theorem Xt.up {mu : Addr → Prop} {g h h' : Heap} {e : Addr} {c : Value} (x : Xt g h e c) (u : Up mu h h') (hm : ∀ b, mu b → g.get? b ≠ none) : Xt g h' e c := by
  obtain ⟨oe, vs, T, oT, ts, h1, h2, h3, h4, h5, h6, h7, h8, h9, h10, h11⟩ := x
  exact ⟨oe, vs, T, oT, ts, u _ _ (fun q => hm _ q h5) h1, h2, h3, h4, h5, h6, h7, h8, u _ _ (fun q => hm _ q h7) h9, h10, h11⟩
theorem Gl.part {mg mb : Str → Option Value} {h h' : Heap} (G : Gl mg mb h) (k : ∀ b o, h.get? b = some o → ∃ sl, h'.get? b = some { o with slots := sl }) : Gl mg mb h' := by
  have n : ∀ {a : Addr} {m : Str → Option Value}, h.Ns a m → h'.Ns a m := by
    rintro a m ⟨o, es, ep, ho, hd, r⟩
    obtain ⟨sl, e⟩ := k a o ho
    exact ⟨_, es, ep, e, hd, r⟩
  exact ⟨n G.g, n G.b, let ⟨mc, x, y⟩ := G.lim; ⟨mc, n x, y⟩, G.bi⟩

section
variable {prog : Program} {w : World} {A : Around} {E : Value → Shared → Prop} {s : Shared} {env : Env} {vm : Str → Option Value}
theorem ex_append {x : Str} {px apos pos pos' : Pos} {elt : Expr} {D : Addr} {Q : Flow → Shared → Prop} (K : EnvOk env) (V : Vars env s.heap vm) (hv : vm x = some (.ref D)) (hk : kd env x = true) (hd : (x == ("__debug__" : Str)) = false)
    (hD : ∃ o n its, IsL s.heap D its n ∧ o = (none : Option Value))
    (hbase : attributeBase (.Name x px) "append" env (eval (.Name x px) env) = eval (.Name x px) env)
    (hfew : ((backTo pos (starEach [elt] env)).all (fun x => !x.1) && (backToKw pos (keywordEach [] env)).all (fun x => x.1.isSome)
      && decide (([elt] : List Expr).length + ([] : List Keyword).length + (if ([] : List Keyword).isEmpty then 0 else 1) < 30)) = true)
    (hline : (apos.endLine == pos.line) = true) (htrees : backTo pos (starEach [elt] env) = [(false, eval elt env)])
    (h : wpAny (model prog w) A (eval elt env) (fun y s₁ => ∃ its n, its.size ≤ sizeLine ∧ IsL s₁.heap D its n ∧ ∀ h' n', IsL h' D (its.push y) n' → Heap.SameBut D s₁.heap h' → Q .next { s₁ with heap := h' }) E s)
    (hint : interactive env = false) (hsw : swapsWith (.Call (.Attribute (.Name x px) "append" apos) [elt] [] pos) none pos'.line env = pure false) :
    wpAny (model prog w) A (exec (.Expr (.Call (.Attribute (.Name x px) "append" apos) [elt] [] pos) pos') env) Q E s := by
  obtain ⟨_, n, its, hl, _⟩ := hD
  refine wpAny_Expr (wpAny_Call_method (T := "list") (id := "list.append") hbase hfew hline PySem.F.plainAttrs_list PySem.F.slot_list_append PySem.F.type_list_append
    (ev_name K V hv hk ⟨hl.isList.typeIs, fun a e => by cases e; exact ⟨_, hl, rfl⟩, ?_⟩ hd)) hint hsw
  rw [htrees]
  refine P.append_list (wpAny_mono h (fun y s₁ h₁ => ?_) fun _ _ e => e)
  obtain ⟨its, n, hsz, hl, hQ⟩ := h₁
  exact ⟨its, n, hsz, hl, hQ _ _ (hl.update _) (Heap.SameBut.update ..)⟩
theorem ex_extend {x : Str} {px apos pos pos' : Pos} {elt : Expr} {D : Addr} {Q : Flow → Shared → Prop} (K : EnvOk env) (V : Vars env s.heap vm) (hv : vm x = some (.ref D)) (hk : kd env x = true) (hd : (x == ("__debug__" : Str)) = false)
    (hD : ∃ o n its, IsL s.heap D its n ∧ o = (none : Option Value))
    (hbase : attributeBase (.Name x px) "extend" env (eval (.Name x px) env) = eval (.Name x px) env)
    (hfew : ((backTo pos (starEach [elt] env)).all (fun x => !x.1) && (backToKw pos (keywordEach [] env)).all (fun x => x.1.isSome)
      && decide (([elt] : List Expr).length + ([] : List Keyword).length + (if ([] : List Keyword).isEmpty then 0 else 1) < 30)) = true)
    (hline : (apos.endLine == pos.line) = true) (htrees : backTo pos (starEach [elt] env) = [(false, eval elt env)])
    (h : wpAny (model prog w) A (eval elt env) (fun v s₁ => ∃ b its its2 n n2, its.size + its2.size ≤ sizeLine ∧ v = .ref b ∧ IsL s₁.heap D its n ∧ IsL s₁.heap b its2 n2 ∧ ∀ h' n', IsL h' D (its ++ its2) n' → Heap.SameBut D s₁.heap h' → Q .next { s₁ with heap := h' }) E s)
    (hint : interactive env = false) (hsw : swapsWith (.Call (.Attribute (.Name x px) "extend" apos) [elt] [] pos) none pos'.line env = pure false) :
    wpAny (model prog w) A (exec (.Expr (.Call (.Attribute (.Name x px) "extend" apos) [elt] [] pos) pos') env) Q E s := by
  obtain ⟨_, n, its, hl, _⟩ := hD
  refine wpAny_Expr (wpAny_Call_method (T := "list") (id := "list.extend") hbase hfew hline PySem.F.plainAttrs_list PySem.F.slot_list_extend PySem.F.type_list_extend
    (ev_name K V hv hk ⟨hl.isList.typeIs, fun a e => by cases e; exact ⟨_, hl, rfl⟩, ?_⟩ hd)) hint hsw
  rw [htrees]
  refine P.extend_list (wpAny_mono h (fun y s₁ h₁ => ?_) fun _ _ e => e)
  obtain ⟨b, its, its2, n, n2, hsz, rfl, hl, hb, hQ⟩ := h₁
  exact ⟨b, its, its2, n, n2, by omega, by omega, PyProof.Rows.extend_door hsz, rfl, hl, hb, hQ _ _ (hl.update (· ++ its2)) (Heap.SameBut.update ..)⟩
theorem ex_inc {x : Str} {px pc pos : Pos} {k : Int} {t : Tok} {c : Int} {kk} {Q : Flow → Shared → Prop} (K : EnvOk env) (V : Vars env s.heap vm) (hv : vm x = some (.int k t)) (hk : kd env x = true)
    (h : ∀ h' tk t', Vars env h' (upd vm x (.int (k + c) t')) → Up (FA env) s.heap h' → Q .next { s with heap := h', toks := tk }) :
    wpAny (model prog w) A (exec (.AugAssign (.Name x px) .Add (.Constant (.int c) kk pc) pos) env) Q E s := by
  refine wpAny_AugAssign_Name (ld_name K V hv hk (wpAny_Constant_int (PyProof.Rows.iadd_int (st_name K V hk fun h' tk V' U' => ?_))))
  exact h h' tk _ V' U'
end

theorem sd_len : ∀ (n : Nat) (xs ys : List Int), xs.length + ys.length ≤ n → (sd xs ys).1.length ≤ xs.length ∧ (sd xs ys).2.length ≤ ys.length
  | _, [], ys, _ => by rw [sd_nil_left]; simp
  | _, x :: xs, [], _ => by rw [sd_nil_right]; simp
  | 0, x :: xs, y :: ys, h => by simp at h
  | n + 1, x :: xs, y :: ys, h => by
    rw [sd_cons]
    simp only [List.length_cons] at h
    have h1 := sd_len n xs (y :: ys) (by simp only [List.length_cons]; omega)
    have h2 := sd_len n (x :: xs) ys (by simp only [List.length_cons]; omega)
    have h3 := sd_len n xs ys (by omega)
    simp only [List.length_cons] at h1 h2
    split
    · simp only [List.length_cons]; omega
    · split <;> (simp only [List.length_cons]; omega)
abbrev envS (L a : Addr) (cd : Value) : Env := envOfC dS.name dS.scope L a cd
def rise (l : List Int) : Prop := l.Pairwise (· < ·)
theorem rise_ne {l : List Int} (h : rise l) {k : Nat} (hk : k + 1 < l.length) : l[k + 1] ≠ l[k]'(by omega) := by
  have := List.pairwise_iff_getElem.mp h k (k + 1) (by omega) hk (by omega)
  omega

section
variable {prog : Program} {w : World} {A : Around} {s : Shared} {mg mb : Str → Option Value} {g0 g : Heap} {outer : List Env} {L X Y M U a : Addr} {cd : Value} {xs ys : List Int} {s0 : Shared}

def ST (s0 : Shared) (g0 : Heap) (outer : List Env) (env : Env) (X Y M U : Addr) (xs ys : List Int) (i j : Nat) (ms us : List Int) (s' : Shared) : Prop :=
  ∃ h tk vm, s' = { s0 with heap := h, toks := tk } ∧ SI g0 outer env X Y M U xs ys h vm i j ms us
def IX (s0 : Shared) (g0 : Heap) (outer : List Env) (env : Env) (X Y M U : Addr) (xs ys : List Int) (s' : Shared) : Prop :=
  ∃ i j ms us, i ≤ xs.length ∧ j ≤ ys.length ∧ ST s0 g0 outer env X Y M U xs ys i j ms us s' ∧ ms ++ xs.drop i = (sd xs ys).1 ∧ us ++ ys.drop j = (sd xs ys).2
def IV (s0 : Shared) (g0 : Heap) (outer : List Env) (env : Env) (X Y M U : Addr) (xs ys : List Int) (n : Nat) (s' : Shared) : Prop :=
  ∃ i j ms us, i ≤ xs.length ∧ j ≤ ys.length ∧ n = (xs.length - i) + (ys.length - j) ∧ ST s0 g0 outer env X Y M U xs ys i j ms us s' ∧ ms ++ (sd (xs.drop i) (ys.drop j)).1 = (sd xs ys).1 ∧ us ++ (sd (xs.drop i) (ys.drop j)).2 = (sd xs ys).2

theorem ST.fun (C : SC g0 g outer (envS L a cd) L X Y M U) {i j ms us} {s'} (x : ST s0 g0 outer (envS L a cd) X Y M U xs ys i j ms us s') : s'.heap.FunFrames {} (envS L a cd :: outer) ∧ g.objs.size ≤ s'.heap.objs.size := by
  obtain ⟨h, tk, vm, rfl, S⟩ := x
  exact ⟨S.fun C, S.sz C⟩
theorem ST.xr (C : SC g0 g outer (envS L a cd) L X Y M U) {i j ms us} {s'} (h' : Heap) (x : ST s0 g0 outer (envS L a cd) X Y M U xs ys i j ms us s') (r : XR g ((envS L a cd :: outer).filterMap (·.frame)) s'.heap h') : ST s0 g0 outer (envS L a cd) X Y M U xs ys i j ms us { s' with heap := h' } := by
  obtain ⟨h, tk, vm, rfl, S⟩ := x
  exact ⟨h', tk, vm, rfl, S.xr C r⟩
theorem ST.passes (C : SC g0 g outer (envS L a cd) L X Y M U) {A' : Around} (hfr : A'.frames = some (envS L a cd :: outer)) {N : Value → Prop} {i j ms us} : PassesOwnAt (model prog w) A' A (envS L a cd) (EX g N (ST s0 g0 outer (envS L a cd) X Y M U xs ys i j ms us)) :=
  EX_passes hfr C.fr (fun _ x => x.fun C) fun _ h' x r => x.xr C h' r
theorem IX.passes (C : SC g0 g outer (envS L a cd) L X Y M U) {A' : Around} (hfr : A'.frames = some (envS L a cd :: outer)) {N : Value → Prop} : PassesOwnAt (model prog w) A' A (envS L a cd) (EX g N (IX s0 g0 outer (envS L a cd) X Y M U xs ys)) :=
  EX_passes hfr C.fr (fun _ x => let ⟨_, _, _, _, _, _, x, _⟩ := x; x.fun C) fun _ h' x r => let ⟨i, j, ms, us, a1, a2, x, a3⟩ := x; ⟨i, j, ms, us, a1, a2, x.xr C h' r, a3⟩

abbrev tryB : List Stmt := forBody (stAt (forBody (stAt dS.body 3)) 0)

theorem sl_step {h : Heap} {tk : Nat} {vm : Str → Option Value} {i j n : Nat} {ms us : List Int} (C : SC g0 g outer (envS L a cd) L X Y M U) (hA : A.handled = none) (hfr : A.frames = some (envS L a cd :: outer))
    (hx : rise xs) (hy : rise ys) (hlx : xs.length ≤ 1000) (hly : ys.length ≤ 1000) (S : SI g0 outer (envS L a cd) X Y M U xs ys h vm i j ms us) (hi : i ≤ xs.length) (hj : j ≤ ys.length) (hn : n = (xs.length - i) + (ys.length - j))
    (r1 : ms ++ (sd (xs.drop i) (ys.drop j)).1 = (sd xs ys).1) (r2 : us ++ (sd (xs.drop i) (ys.drop j)).2 = (sd xs ys).2) :
    wpAny (model prog w) A (execs tryB (envS L a cd)) (fun f s' => f = .next ∧ ∃ m, m < n ∧ IV s0 g0 outer (envS L a cd) X Y M U xs ys m s') (EX g (fun _ => True) (IX s0 g0 outer (envS L a cd) X Y M U xs ys)) { s0 with heap := h, toks := tk } := by
  have hHX : ∀ h, HX A h := fun _ => .inl hA
  have hline : sizeLine = 2 ^ 24 := sizeLine_eq
  have hms : ms.length ≤ 1000 := by
    have h1 := congrArg List.length r1
    have h2 := (sd_len _ xs ys (Nat.le_refl _)).1
    rw [List.length_append] at h1; omega
  have hus : us.length ≤ 1000 := by
    have h1 := congrArg List.length r2
    have h2 := (sd_len _ xs ys (Nat.le_refl _)).2
    rw [List.length_append] at h1; omega
  show wpAny (model prog w) A (execs (_ :: _ :: _ :: []) (envS L a cd)) _ _ _
  refine xa_next (ex_assign C.K rfl ?_ rfl)
  refine ev_sub slot_list_getitem.lookup ?_ (fun _ _ => rfl) (fun _ _ => rfl)
  obtain ⟨ti, hvi⟩ := S.vi
  obtain ⟨vx, nx, hlX, hiX⟩ := id S.lx
  refine ev_name C.K S.V S.ve rfl (ev_name C.K S.V hvi rfl ⟨hlX.isList.typeIs, ?_⟩ rfl) rfl
  by_cases hi' : i < xs.length
  rotate_left
  · -- the first list is at its end
    have e0 : xs.drop i = [] := List.drop_eq_nil_of_le (by omega)
    refine getItem_out (g := g) (hHX _) (S.sz C) hlX.isList (by omega) (by simp [IntsAre.len hiX]; omega) (by omega) fun h' tk' e c ex x hc => ⟨e, c, rfl, x, trivial, i, j, ms, us, hi, hj, ⟨h', tk', vm, rfl, S.keep C ex⟩, ?_, ?_⟩
    · rw [e0, sd_nil_left] at r1; rw [e0]; exact r1
    · rw [e0, sd_nil_left] at r2; exact r2
  obtain ⟨u, hu⟩ := ints_at hiX _ hi'
  refine wpAny_getItem_list hlX.isList (by omega) (by omega) (by simpa using hu) ?_
  refine ⟨vm, S.V, fun h₁ tk₁ V₁ U₁ => ⟨rfl, ?_⟩⟩
  have S₁ := S.store C U₁ V₁ (by decide)
  show wpAny (model prog w) A (execs (_ :: _ :: []) (envS L a cd)) _ _ _
  refine xa_next (ex_assign C.K rfl ?_ rfl)
  refine ev_sub slot_list_getitem.lookup ?_ (fun _ _ => rfl) (fun _ _ => rfl)
  obtain ⟨tj, hvj⟩ := S₁.vj
  obtain ⟨vy, ny, hlY, hiY⟩ := id S₁.ly
  refine ev_name C.K S₁.V S₁.va rfl (ev_name C.K S₁.V hvj rfl ⟨hlY.isList.typeIs, ?_⟩ rfl) rfl
  by_cases hj' : j < ys.length
  rotate_left
  · have e0 : ys.drop j = [] := List.drop_eq_nil_of_le (by omega)
    refine getItem_out (g := g) (hHX _) (S₁.sz C) hlY.isList (by omega) (by simp [IntsAre.len hiY]; omega) (by omega) fun h' tk' e c ex x hc => ⟨e, c, rfl, x, trivial, i, j, ms, us, hi, hj, ⟨h', tk', _, rfl, S₁.keep C ex⟩, ?_, ?_⟩
    · rw [e0, sd_nil_right] at r1; exact r1
    · rw [e0, sd_nil_right] at r2; rw [e0]; exact r2
  obtain ⟨u', hu'⟩ := ints_at hiY _ hj'
  refine wpAny_getItem_list hlY.isList (by omega) (by omega) (by simpa using hu') ?_
  refine ⟨_, V₁, fun h₂ tk₂ V₂ U₂ => ⟨rfl, ?_⟩⟩
  have S₂ := S₁.store C U₂ V₂ (by decide)
  have ve : upd (upd vm "e" (.int xs[i] u)) "a" (.int ys[j] u') "e" = some (.int xs[i] u) := (upd_ne (by decide)).trans (upd_self _ _ _)
  have va : upd (upd vm "e" (.int xs[i] u)) "a" (.int ys[j] u') "a" = some (.int ys[j] u') := upd_self _ _ _
  generalize upd (upd vm "e" (.int xs[i] u)) "a" (.int ys[j] u') = vm₂ at V₂ S₂ ve va
  have dx : xs.drop i = xs[i] :: xs.drop (i + 1) := List.drop_eq_getElem_cons hi'
  have dy : ys.drop j = ys[j] :: ys.drop (j + 1) := List.drop_eq_getElem_cons hj'
  rw [dx, dy, sd_cons] at r1 r2
  show wpAny (model prog w) A (execs (_ :: []) (envS L a cd)) _ _ _
  refine xa_next (wpAny_If (wpAny_isTrue_Compare1 ?_))
  refine ev_name C.K V₂ ve rfl (ev_name C.K V₂ va rfl (PyProof.Rows.lt_int (wpAny_truthy_bool ?_)) rfl) rfl
  have addI : ∀ {h : Heap} {vm : Str → Option Value} {i j ms us} {tk : Nat} {Q : Flow → Shared → Prop} {E : Value → Shared → Prop} {px pc pos : Pos} {kk} {A : Around}, SI g0 outer (envS L a cd) X Y M U xs ys h vm i j ms us →
      (∀ h' tk' vm', SI g0 outer (envS L a cd) X Y M U xs ys h' vm' (i + 1) j ms us → vm' "e" = vm "e" → vm' "a" = vm "a" → Up (FA (envS L a cd)) h h' → Q .next { s0 with heap := h', toks := tk' }) →
      wpAny (model prog w) A (exec (.AugAssign (.Name "i" px) .Add (.Constant (.int 1) kk pc) pos) (envS L a cd)) Q E { s0 with heap := h, toks := tk } := by
    intro h vm i j ms us tk Q E px pc pos kk A S hQ
    obtain ⟨t, hv⟩ := S.vi
    exact ex_inc C.K S.V hv rfl fun h' tk' t' V' U' => hQ h' tk' _ (S.storeI C (by omega) U' V') (upd_ne (by decide)) (upd_ne (by decide)) U'
  have addJ : ∀ {h : Heap} {vm : Str → Option Value} {i j ms us} {tk : Nat} {Q : Flow → Shared → Prop} {E : Value → Shared → Prop} {px pc pos : Pos} {kk} {A : Around}, SI g0 outer (envS L a cd) X Y M U xs ys h vm i j ms us →
      (∀ h' tk' vm', SI g0 outer (envS L a cd) X Y M U xs ys h' vm' i (j + 1) ms us → vm' "e" = vm "e" → vm' "a" = vm "a" → Up (FA (envS L a cd)) h h' → Q .next { s0 with heap := h', toks := tk' }) →
      wpAny (model prog w) A (exec (.AugAssign (.Name "j" px) .Add (.Constant (.int 1) kk pc) pos) (envS L a cd)) Q E { s0 with heap := h, toks := tk } := by
    intro h vm i j ms us tk Q E px pc pos kk A S hQ
    obtain ⟨t, hv⟩ := S.vj
    exact ex_inc C.K S.V hv rfl fun h' tk' t' V' U' => hQ h' tk' _ (S.storeJ C (by omega) U' V') (upd_ne (by decide)) (upd_ne (by decide)) U'
  by_cases c1 : xs[i] < ys[j]
  · rw [decide_eq_true c1, if_pos rfl]
    rw [if_pos c1] at r1 r2
    show wpAny (model prog w) A (execs (_ :: _ :: _ :: []) (envS L a cd)) _ _ _
    refine xa_next ?_
    obtain ⟨vM, nM, hlM, hiM⟩ := id S₂.lm
    refine ex_append C.K V₂ S₂.vmi rfl rfl ⟨_, _, _, hlM, rfl⟩ rfl rfl rfl rfl ?_ rfl rfl
    refine ev_name C.K V₂ ve rfl ⟨_, _, ?_, hlM, fun h₃ n₃ hl₃ hs₃ => ⟨rfl, ?_⟩⟩ rfl
    · have := IntsAre.len hiM; simp; omega
    have S₃ := S₂.wroteM C hs₃ (ms' := ms ++ [xs[i]]) ⟨vM ++ [.int xs[i] u], n₃, by simpa using hl₃, hiM.append (.cons _ _ .nil)⟩
    show wpAny (model prog w) A (execs (_ :: _ :: []) (envS L a cd)) _ _ _
    refine xa_next (addI S₃ fun h₄ tk₄ vm₄ S₄ q1 q2 _ => ⟨rfl, ?_⟩)
    show wpAny (model prog w) A (execs (_ :: []) (envS L a cd)) _ _ _
    refine xa_next ?_
    obtain ⟨t₄, hv₄⟩ := S₄.vi
    by_cases hi2 : i + 1 < xs.length
    · refine while_in C.K S₄.V S₄.ve hv₄ (q1.trans ve) rfl rfl rfl rfl rfl rfl S₄.lx (by omega) (by omega) (by omega) (rise_ne hx hi2) ⟨rfl, wpAny_execs_nil ⟨rfl, wpAny_execs_nil ⟨rfl, _, ?_, i + 1, j, ms ++ [xs[i]], us, by omega, hj, rfl, ⟨h₄, tk₄, vm₄, rfl, S₄⟩, ?_, ?_⟩⟩⟩
      · omega
      · rw [dy]; simpa using r1
      · rw [dy]; exact r2
    · have e0 : xs.drop (i + 1) = [] := List.drop_eq_nil_of_le (by omega)
      refine while_out (g := g) C.K S₄.V S₄.ve hv₄ rfl rfl rfl rfl S₄.lx (hHX _) (S₄.sz C) (by omega) (by omega) (by omega) (IX.passes C hfr) fun h' tk' e c ex x hc => ⟨e, c, rfl, x, trivial, i + 1, j, ms ++ [xs[i]], us, by omega, hj, ⟨h', tk', vm₄, rfl, S₄.keep C ex⟩, ?_, ?_⟩
      · rw [e0, sd_nil_left] at r1; rw [e0]; simpa using r1
      · rw [e0, sd_nil_left] at r2; rw [dy]; exact r2
  rw [decide_eq_false c1, if_neg (by decide)]
  rw [if_neg c1] at r1 r2
  show wpAny (model prog w) A (execs (_ :: []) (envS L a cd)) _ _ _
  refine xa_next (wpAny_If (wpAny_isTrue_Compare1 ?_))
  refine ev_name C.K V₂ ve rfl (ev_name C.K V₂ va rfl (PyProof.Rows.gt_int (wpAny_truthy_bool ?_)) rfl) rfl
  by_cases c2 : ys[j] < xs[i]
  · rw [decide_eq_true c2, if_pos rfl]
    rw [if_pos c2] at r1 r2
    show wpAny (model prog w) A (execs (_ :: _ :: _ :: []) (envS L a cd)) _ _ _
    refine xa_next ?_
    obtain ⟨vM, nM, hlM, hiM⟩ := id S₂.lu
    refine ex_append C.K V₂ S₂.vun rfl rfl ⟨_, _, _, hlM, rfl⟩ rfl rfl rfl rfl ?_ rfl rfl
    refine ev_name C.K V₂ va rfl ⟨_, _, ?_, hlM, fun h₃ n₃ hl₃ hs₃ => ⟨rfl, ?_⟩⟩ rfl
    · have := IntsAre.len hiM; simp; omega
    have S₃ := S₂.wroteU C hs₃ (us' := us ++ [ys[j]]) ⟨vM ++ [.int ys[j] u'], n₃, by simpa using hl₃, hiM.append (.cons _ _ .nil)⟩
    show wpAny (model prog w) A (execs (_ :: _ :: []) (envS L a cd)) _ _ _
    refine xa_next (addJ S₃ fun h₄ tk₄ vm₄ S₄ q1 q2 _ => ⟨rfl, ?_⟩)
    show wpAny (model prog w) A (execs (_ :: []) (envS L a cd)) _ _ _
    refine xa_next ?_
    obtain ⟨t₄, hv₄⟩ := S₄.vj
    by_cases hi2 : j + 1 < ys.length
    · refine while_in C.K S₄.V S₄.va hv₄ (q2.trans va) rfl rfl rfl rfl rfl rfl S₄.ly (by omega) (by omega) (by omega) (rise_ne hy hi2) ⟨rfl, wpAny_execs_nil ⟨rfl, wpAny_execs_nil ⟨rfl, wpAny_execs_nil ⟨rfl, _, ?_, i, j + 1, ms, us ++ [ys[j]], hi, by omega, rfl, ⟨h₄, tk₄, vm₄, rfl, S₄⟩, ?_, ?_⟩⟩⟩⟩
      · omega
      · rw [dx]; exact r1
      · rw [dx]; simpa using r2
    · have e0 : ys.drop (j + 1) = [] := List.drop_eq_nil_of_le (by omega)
      refine while_out (g := g) C.K S₄.V S₄.va hv₄ rfl rfl rfl rfl S₄.ly (hHX _) (S₄.sz C) (by omega) (by omega) (by omega) (IX.passes C hfr) fun h' tk' e c ex x hc => ⟨e, c, rfl, x, trivial, i, j + 1, ms, us ++ [ys[j]], hi, by omega, ⟨h', tk', vm₄, rfl, S₄.keep C ex⟩, ?_, ?_⟩
      · rw [e0, sd_nil_right] at r1; rw [dx]; exact r1
      · rw [e0, sd_nil_right] at r2; rw [e0]; simpa using r2
  rw [decide_eq_false c2, if_neg (by decide)]
  rw [if_neg c2] at r1 r2
  have exy : xs[i] = ys[j] := by omega
  show wpAny (model prog w) A (execs (_ :: _ :: []) (envS L a cd)) _ _ _
  refine xa_next (addI S₂ fun h₄ tk₄ vm₄ S₄ q1 q2 _ => ⟨rfl, ?_⟩)
  show wpAny (model prog w) A (execs (_ :: []) (envS L a cd)) _ _ _
  refine xa_next (wpAny_Try_finally ?_)
  have final : ∀ {A' : Around} {h : Heap} {tk : Nat} {vm : Str → Option Value} {Q : Flow → Shared → Prop}, A'.frames = some (envS L a cd :: outer) → (∀ h', Up (FA (envS L a cd)) h h' → HX A' h') → SI g0 outer (envS L a cd) X Y M U xs ys h vm (i + 1) j ms us →
      vm "a" = some (.int ys[j] u') → (j + 1 < ys.length → ∀ h' tk' vm', SI g0 outer (envS L a cd) X Y M U xs ys h' vm' (i + 1) (j + 1) ms us → Up (FA (envS L a cd)) h h' → Q .next { s0 with heap := h', toks := tk' }) →
      wpAny (model prog w) A' (execs (match stAt (match stAt (match stAt tryB 2 with | .If _ _ o _ => o | _ => []) 0 with | .If _ _ o _ => o | _ => []) 1 with | .Try _ _ _ f _ => f | _ => []) (envS L a cd)) Q (fun e s' => ¬ j + 1 < ys.length ∧ EX g (fun _ => True) (ST s0 g0 outer (envS L a cd) X Y M U xs ys (i + 1) (j + 1) ms us) e s') { s0 with heap := h, toks := tk } := by
    intro A' h tk vm Q hfr' hX S va hQ
    show wpAny (model prog w) A' (execs (_ :: _ :: []) (envS L a cd)) _ _ _
    refine xa_next (addJ S fun h₅ tk₅ vm₅ S₅ q3 q4 U₅ => ⟨rfl, ?_⟩)
    show wpAny (model prog w) A' (execs (_ :: []) (envS L a cd)) _ _ _
    refine xa_next ?_
    obtain ⟨t₅, hv₅⟩ := S₅.vj
    by_cases hi2 : j + 1 < ys.length
    · exact while_in C.K S₅.V S₅.va hv₅ (q4.trans va) rfl rfl rfl rfl rfl rfl S₅.ly (by omega) (by omega) (by omega) (rise_ne hy hi2) ⟨rfl, wpAny_execs_nil (hQ hi2 _ _ _ S₅ U₅)⟩
    · refine wpAny_mono (while_out (g := g) (E := EX g (fun _ => True) (ST s0 g0 outer (envS L a cd) X Y M U xs ys (i + 1) (j + 1) ms us)) C.K S₅.V S₅.va hv₅ rfl rfl rfl rfl S₅.ly (hX _ U₅) (S₅.sz C) (by omega) (by omega) (by omega) (ST.passes C hfr') fun h' tk' e c ex x hc => ⟨e, c, rfl, x, trivial, ⟨h', tk', vm₅, rfl, S₅.keep C ex⟩⟩) (fun _ _ x => x) fun e s' x => ⟨hi2, x⟩
  obtain ⟨t₄, hv₄⟩ := S₄.vi
  by_cases hi2 : i + 1 < xs.length
  · show wpAny (model prog w) A (execs (_ :: []) (envS L a cd)) _ _ _
    refine xa_next ?_
    refine while_in C.K S₄.V S₄.ve hv₄ (q1.trans ve) rfl rfl rfl rfl rfl rfl S₄.lx (by omega) (by omega) (by omega) (rise_ne hx hi2) ⟨rfl, wpAny_execs_nil (wpAny_execs_nil ?_)⟩
    refine wpAny_mono (final hfr (fun h' _ => hHX h') S₄ (q2.trans va) fun hj2 h₅ tk₅ vm₅ S₅ _ => ?_) (fun _ _ x => x) fun e s' ⟨hn2, ea, c, he, x, _, st⟩ => IX.passes C hfr e s' ⟨ea, c, he, x, trivial, i + 1, j + 1, ms, us, by omega, by omega, st, ?_, ?_⟩
    · refine ⟨rfl, wpAny_execs_nil ⟨rfl, wpAny_execs_nil ⟨rfl, wpAny_execs_nil ⟨rfl, _, ?_, i + 1, j + 1, ms, us, by omega, by omega, rfl, ⟨h₅, tk₅, vm₅, rfl, S₅⟩, r1, r2⟩⟩⟩⟩
      omega
    · have e0 : ys.drop (j + 1) = [] := List.drop_eq_nil_of_le (by omega)
      rw [e0, sd_nil_right] at r1; exact r1
    · have e0 : ys.drop (j + 1) = [] := List.drop_eq_nil_of_le (by omega)
      rw [e0, sd_nil_right] at r2; rw [e0]; exact r2
  · have e0 : xs.drop (i + 1) = [] := List.drop_eq_nil_of_le (by omega)
    rw [e0, sd_nil_left] at r1 r2
    show wpAny (model prog w) A (execs (_ :: []) (envS L a cd)) _ _ _
    refine xa_next ?_
    have hpass : PassesOwn (model prog w) A (envS L a cd) (EX g (fun c => c = .none) (fun s' => ∃ h tk vm, s' = { s0 with heap := h, toks := tk } ∧ SI g0 outer (envS L a cd) X Y M U xs ys h vm (i + 1) j ms us ∧ vm "a" = some (.int ys[j] u'))) :=
      EX_passes hfr C.fr (fun s' x => by obtain ⟨h, tk, vm, rfl, S, _⟩ := x; exact ⟨S.fun C, S.sz C⟩) fun s' h' x r => by obtain ⟨h, tk, vm, rfl, S, q⟩ := x; exact ⟨h', tk, vm, rfl, S.xr C r, q⟩
    refine wpAny_mono (while_out (g := g) C.K S₄.V S₄.ve hv₄ rfl rfl rfl rfl S₄.lx (hHX _) (S₄.sz C) (by omega) (by omega) (by omega) hpass fun h' tk' e c ex x hc => ⟨e, c, rfl, x, hc hA, h', tk', vm₄, rfl, S₄.keep C ex, q2.trans va⟩) (fun _ _ x => x) ?_
    rintro _ _ ⟨e, c, rfl, x, rfl, h₅, tk₅, vm₅, rfl, S₅, va₅⟩
    refine note_X (s := { s0 with heap := h₅, toks := tk₅ }) hfr (S₅.fun C) C.fr (S₅.sz C) x fun h₆ x₆ r₆ => ?_
    have S₆ := S₅.xr C r₆
    refine ⟨ref_ne_byPass _, ?_⟩
    refine note_X (s := { s0 with heap := h₆, toks := tk₅ }) hfr (S₆.fun C) C.fr (S₆.sz C) x₆.x fun h₇ x₇ r₇ => ?_
    have S₇ := S₆.xr C r₇
    refine flight_X (s := { s0 with heap := h₇, toks := tk₅ }) (S := (envS L a cd :: outer).filterMap (·.frame)) x₇ fun h₈ x₈ r₈ => ?_
    have S₈ := S₇.xr C r₈
    have hmu : ∀ b, FA (envS L a cd) b → g.get? b ≠ none := fun b hb => by rw [C.fa b hb]; exact C.gL
    refine wpAny_mono (final (A' := A.mark (some (.ref e))) hfr (fun h' U' => ?_) S₈ va₅ fun hj2 h₉ tk₉ vm₉ S₉ U₉ => ?_) (fun _ _ x => x) fun e' s' ⟨hn2, ea, c, he, x, _, st⟩ => IX.passes (A' := A.mark (some (.ref e))) C hfr e' s' ⟨ea, c, he, x, trivial, i + 1, j + 1, ms, us, by omega, by omega, st, ?_, ?_⟩
    · obtain ⟨oe, vs, T, oT, ts, h1, h2, h3, h4, _⟩ := x₈.up U' hmu
      exact .inr ⟨e, oe, vs, rfl, h1, h3, h4⟩
    · have x₉ := x₈.up U₉ hmu
      obtain ⟨oe, vs, T, oT, ts, h1, h2, h3, h4, h5, h6, h7⟩ := id x₉
      show wpAny (model prog w) A (PySem.passOn "try.finally" (.ref e) (envS L a cd)) _ _ _
      unfold PySem.passOn
      refine wpAny_bind (wpAny_field h1 h3 h6 ?_)
      rw [if_neg (by simp)]
      refine wpAny_bind (flight_X (s := { s0 with heap := h₉, toks := tk₉ }) (S := (envS L a cd :: outer).filterMap (·.frame)) x₉ fun h' x' r' => wpAny_throw ?_)
      exact ⟨e, _, rfl, x'.x, trivial, i + 1, j + 1, ms, us, by omega, by omega, ⟨h', tk₉, vm₉, rfl, S₉.xr C r'⟩, by rw [e0]; exact r1, r2⟩
    · rw [e0]; exact r1
    · exact r2

theorem sl_body {h : Heap} {tk : Nat} {vm : Str → Option Value} {Q : Flow → Shared → Prop} (G : Gl mg mb g0) (C : SC g0 g outer (envS L a cd) L X Y M U) (hA : A.handled = none) (hfr : A.frames = some (envS L a cd :: outer))
    (hx : rise xs) (hy : rise ys) (hlx : xs.length ≤ 1000) (hly : ys.length ≤ 1000) (S : SI g0 outer (envS L a cd) X Y M U xs ys h vm 0 0 [] [])
    (hQ : ∀ h' tk' T, (∀ b o, g0.get? b = some o → b ∉ frs outer → h'.get? b = some o) → (∀ b o, g0.get? b = some o → b ∈ frs outer → ∃ sl, h'.get? b = some { o with slots := sl }) → PI h' M (sd xs ys).1 → PI h' U (sd xs ys).2 →
      h'.get? T = some { cls := .type "tuple", data := .seq #[.ref M, .ref U] } → Q (.ret (.ref T)) { s0 with heap := h', toks := tk' }) :
    wpAny (model prog w) A (execs (dS.body.drop 3) (envS L a cd)) Q NoE { s0 with heap := h, toks := tk } := by
  show wpAny (model prog w) A (execs (_ :: _ :: []) (envS L a cd)) _ _ _
  refine xa_next (wpAny_While (codeAny_whileLoop (fun n s' => IV s0 g0 outer (envS L a cd) X Y M U xs ys n s') ?_ (xs.length + ys.length) ⟨0, 0, [], [], by omega, by omega, rfl, ⟨h, tk, vm, rfl, S⟩, rfl, rfl⟩))
  rintro n _ ⟨i, j, ms, us, hi, hj, hn, ⟨h₁, tk₁, vm₁, rfl, S₁⟩, r1, r2⟩
  refine wpAny_isTrue_value (wpAny_of_eq (a := .bool true) rfl (wpAny_truthy_bool ?_)) rfl
  rw [if_pos rfl]
  show wpAny (model prog w) A (execs (_ :: []) (envS L a cd)) _ _ _
  refine wpAny_execs_cons ?_
  refine wpAny_Try_except (wpAny_mono (sl_step (s0 := s0) (tk := tk₁) C hA hfr hx hy hlx hly S₁ hi hj hn r1 r2) ?_ ?_)
  · rintro _ s₂ ⟨rfl, m, hm, iv⟩
    exact wpAny_execs_nil (wpAny_execs_nil ⟨m, hm, iv⟩)
  · rintro _ _ ⟨e, c, rfl, x, _, i₂, j₂, ms₂, us₂, hi₂, hj₂, ⟨h₂, tk₂, vm₂, rfl, S₂⟩, q1, q2⟩
    refine note_X (s := { s0 with heap := h₂, toks := tk₂ }) hfr (S₂.fun C) C.fr (S₂.sz C) x fun h₃ x₃ r₃ => ?_
    have S₃ := S₂.xr C r₃
    refine flight_X (s := { s0 with heap := h₃, toks := tk₂ }) (S := (envS L a cd :: outer).filterMap (·.frame)) x₃ fun h₄ x₄ r₄ => ?_
    have S₄ := S₃.xr C r₄
    refine wpAny_handleBy_builtin (X := "IndexError") (T := "IndexError") (b := true) PySem.F.isExc_IndexError PySem.F.notTuple_IndexError PySem.F.self_IndexError ?_
    have G₄ : Gl mg mb h₄ := G.part fun b o hb => by
      by_cases hb' : b ∈ frs outer
      · exact S₄.out b o hb hb'
      · exact ⟨o.slots, S₄.old b o hb hb'⟩
    refine ev_bi C.K G₄ bi_ie rfl ⟨rfl, ?_, ?_⟩ rfl
    · obtain ⟨oe, vs, T, oT, ts, h1, h2, h3, h4, _⟩ := id x₄
      exact ⟨oe, h1, h2⟩
    rw [if_pos rfl]
    refine flight_X (s := { s0 with heap := h₄, toks := tk₂ }) (S := (envS L a cd :: outer).filterMap (·.frame)) x₄ fun h₅ x₅ r₅ => ?_
    have S₅ := S₄.xr C r₅
    have hline : sizeLine = 2 ^ 24 := sizeLine_eq
    have hl1 := (sd_len _ xs ys (Nat.le_refl _)).1
    have hl2 := (sd_len _ xs ys (Nat.le_refl _)).2
    have hq1 := congrArg List.length q1
    have hq2 := congrArg List.length q2
    rw [List.length_append] at hq1 hq2
    show wpAny (model prog w) (A.mark (some (.ref e))) (execs (_ :: _ :: _ :: []) (envS L a cd)) _ _ _
    refine xa_next ?_
    obtain ⟨vM, nM, hlM, hiM⟩ := id S₅.lm
    refine ex_extend C.K S₅.V S₅.vmi rfl rfl ⟨_, _, _, hlM, rfl⟩ rfl rfl rfl rfl ?_ rfl rfl
    refine wpAny_Subscript_list_slice ?_ (fun _ _ => rfl)
    obtain ⟨ti, hvi⟩ := S₅.vi
    obtain ⟨vx, nx, hlX, hiX⟩ := id S₅.lx
    refine ev_name C.K S₅.V S₅.ve rfl ?_ rfl
    rw [evalPart_none]
    refine ev_name C.K S₅.V hvi rfl (wpAny_pure ⟨X, vx.toArray, some i₂, none, rfl, hlX.isList, ?_, .int _ _, .none, ?_⟩) rfl
    · have := IntsAre.len hiX; simp; omega
    dsimp only
    have hpick : IntsAre (slicePick vx.toArray (some (i₂ : Int)) none none).toList (xs.drop i₂) := by simpa using slice_ints_fromW hiX (x := (i₂ : Int)) (by omega)
    generalize slicePick vx.toArray (some (i₂ : Int)) none none = pk at hpick ⊢
    generalize hh6 : h₅.push { cls := .type "slice", data := .fields #[.int (i₂ : Int) ti, .none, .none] } = h₆
    have e6 : Ext h₅ h₆ := hh6 ▸ ext_push _ _
    have z6 : h₆.objs.size = h₅.objs.size + 1 := by rw [← hh6, Heap.size_push]
    rw [← z6]
    have S₇ := (S₅.keep C e6).keep C (ext_push h₆ { cls := .type "list", data := .seq pk })
    have hnew := IsL.new h₆ pk
    generalize h₆.push { cls := .type "list", data := .seq pk } = h₇ at S₇ hnew ⊢
    obtain ⟨vM, nM, hlM, hiM⟩ := id S₇.lm
    refine ⟨_, _, _, _, _, ?_, rfl, hlM, hnew, fun h₈ n₈ hl₈ hs₈ => ⟨rfl, ?_⟩⟩
    · have h1 := IntsAre.len hiM
      have h2 := IntsAre.len hpick
      rw [Array.length_toList] at h2
      simp; omega
    have S₈ := S₇.wroteM C hs₈ (ms' := (sd xs ys).1) ⟨vM ++ pk.toList, n₈, by rw [show (vM ++ pk.toList).toArray = vM.toArray ++ pk by simp]; exact hl₈, by rw [← q1]; exact hiM.append hpick⟩
    clear hnew hpick hs₈ hl₈ S₇ S₅ hlM hiM hlX hiX
    show wpAny (model prog w) (A.mark (some (.ref e))) (execs (_ :: _ :: []) (envS L a cd)) _ _ _
    refine xa_next ?_
    obtain ⟨vU, nU, hlU, hiU⟩ := id S₈.lu
    refine ex_extend C.K S₈.V S₈.vun rfl rfl ⟨_, _, _, hlU, rfl⟩ rfl rfl rfl rfl ?_ rfl rfl
    refine wpAny_Subscript_list_slice ?_ (fun _ _ => rfl)
    obtain ⟨tj, hvj⟩ := S₈.vj
    obtain ⟨vy, ny, hlY, hiY⟩ := id S₈.ly
    refine ev_name C.K S₈.V S₈.va rfl ?_ rfl
    rw [evalPart_none]
    refine ev_name C.K S₈.V hvj rfl (wpAny_pure ⟨Y, vy.toArray, some j₂, none, rfl, hlY.isList, ?_, .int _ _, .none, ?_⟩) rfl
    · have := IntsAre.len hiY; simp; omega
    dsimp only
    have hpick : IntsAre (slicePick vy.toArray (some (j₂ : Int)) none none).toList (ys.drop j₂) := by simpa using slice_ints_fromW hiY (x := (j₂ : Int)) (by omega)
    generalize slicePick vy.toArray (some (j₂ : Int)) none none = pk at hpick ⊢
    generalize hh9 : h₈.push { cls := .type "slice", data := .fields #[.int (j₂ : Int) tj, .none, .none] } = h₉
    have e9 : Ext h₈ h₉ := hh9 ▸ ext_push _ _
    have z9 : h₉.objs.size = h₈.objs.size + 1 := by rw [← hh9, Heap.size_push]
    rw [← z9]
    have S₁₀ := (S₈.keep C e9).keep C (ext_push h₉ { cls := .type "list", data := .seq pk })
    have hnew := IsL.new h₉ pk
    generalize h₉.push { cls := .type "list", data := .seq pk } = h₁₀ at S₁₀ hnew ⊢
    obtain ⟨vU, nU, hlU, hiU⟩ := id S₁₀.lu
    refine ⟨_, _, _, _, _, ?_, rfl, hlU, hnew, fun h₁₁ n₁₁ hl₁₁ hs₁₁ => ⟨rfl, ?_⟩⟩
    · have h1 := IntsAre.len hiU
      have h2 := IntsAre.len hpick
      rw [Array.length_toList] at h2
      simp; omega
    have S₁₁ := S₁₀.wroteU C hs₁₁ (us' := (sd xs ys).2) ⟨vU ++ pk.toList, n₁₁, by rw [show (vU ++ pk.toList).toArray = vU.toArray ++ pk by simp]; exact hl₁₁, by rw [← q2]; exact hiU.append hpick⟩
    show wpAny (model prog w) (A.mark (some (.ref e))) (execs (_ :: []) (envS L a cd)) _ _ _
    refine wpAny_execs_cons (wpAny_Break ?_)
    show _ ∧ _
    refine ⟨rfl, ?_⟩
    show wpAny (model prog w) A (execs (_ :: []) (envS L a cd)) _ _ _
    refine wpAny_execs_cons (wpAny_Return_some (wpAny_Tuple ?_))
    show wpAny (model prog w) A (spliced [(false, eval _ _), (false, eval _ _)]) _ _ _
    refine spliced_cons (ev_name C.K S₁₁.V S₁₁.vmi rfl (spliced_cons (ev_name C.K S₁₁.V S₁₁.vun rfl (spliced_nil ⟨by simp; omega, ?_⟩) rfl)) rfl)
    have S₁₂ := S₁₁.keep C (ext_push h₁₁ { cls := .type "tuple", data := .seq #[.ref M, .ref U] })
    exact hQ _ _ _ S₁₂.old S₁₂.out S₁₂.lm S₁₂.lu (Heap.get?_push_size _ rfl)

/-- sorted_list_difference(expected, actual) -/
theorem sl_call {Q : Value → Shared → Prop} (hh : A.handled = none) (hfr : A.frames = some outer) (hfun : s.heap.FunFrames {} outer) (hroom : A.depth < recursionLimit) (G : Gl mg mb s.heap) (hf : FnAt mg s.heap dS a)
    (hX : PI s.heap X xs) (hY : PI s.heap Y ys) (hXo : X ∉ frs outer) (hYo : Y ∉ frs outer) (hx : rise xs) (hy : rise ys) (hlx : xs.length ≤ 1000) (hly : ys.length ≤ 1000)
    (hQ : ∀ h' tk T M U, (∀ b o, s.heap.get? b = some o → b ∉ frs outer → h'.get? b = some o) → (∀ b o, s.heap.get? b = some o → b ∈ frs outer → ∃ sl, h'.get? b = some { o with slots := sl }) → PI h' M (sd xs ys).1 → PI h' U (sd xs ys).2 →
      h'.get? T = some { cls := .type "tuple", data := .seq #[.ref M, .ref U] } → s.heap.objs.size ≤ M → s.heap.objs.size ≤ U → Q (.ref T) { s with heap := h', toks := tk }) :
    wpD (model prog w) A (call (.ref a) [.ref X, .ref Y]) Q NoE s := by
  obtain ⟨_, o, pm, cd, doc, ho, hdata, hcd⟩ := hf
  refine wpD_call (codeD_fn (binds := [("expected", .ref X), ("actual", .ref Y)]) hroom ho hdata G.lim hcd rfl (locs rfl) (fun h₁ tk K V e hF => ?_) rfl rfl rfl)
  refine wpD_of_any ?_
  have hL := hF _ (.inl rfl)
  have hfa : ∀ b, FA (envS s.heap.objs.size a cd) b → b = s.heap.objs.size := by
    rintro b (q | ⟨x, _, hc⟩)
    · exact q
    · cases hc
  have ve : (fun x => ([("expected", .ref X), ("actual", .ref Y)] : List (Str × Value)).reverse.lookup x) "expected" = some (.ref X) := rfl
  have va : (fun x => ([("expected", .ref X), ("actual", .ref Y)] : List (Str × Value)).reverse.lookup x) "actual" = some (.ref Y) := rfl
  generalize (fun x => ([("expected", .ref X), ("actual", .ref Y)] : List (Str × Value)).reverse.lookup x) = vm₁ at V ve va
  show wpAny (model prog w) (A.deeper (envS s.heap.objs.size a cd)) (execs (_ :: _ :: _ :: _ :: _ :: []) (envS s.heap.objs.size a cd)) _ _ _
  refine xa_next (wpAny_Assign_two (wpAny_Constant_int ?_))
  refine as_name K V rfl fun h₂ tk₂ V₂ U₂ => as_name K V₂ rfl fun h₃ tk₃ V₃ U₃ => ⟨rfl, ?_⟩
  show wpAny (model prog w) (A.deeper (envS s.heap.objs.size a cd)) (execs (_ :: _ :: _ :: _ :: []) (envS s.heap.objs.size a cd)) _ _ _
  refine xa_next (ex_assign K rfl (wpAny_List (spliced_nil ⟨Nat.zero_le _, ?_⟩)) rfl)
  have m4 := PI.new h₃ (vs := []) .nil
  have e4 := ext_push h₃ { cls := .type "list", data := .seq ([] : List Value).toArray }
  have z4 : (h₃.push { cls := .type "list", data := .seq ([] : List Value).toArray }).objs.size = h₃.objs.size + 1 := Heap.size_push _ _
  dsimp only
  generalize h₃.push { cls := .type "list", data := .seq ([] : List Value).toArray } = h₄ at m4 e4 z4 ⊢
  refine ⟨_, V₃.ext e4, fun h₅ tk₅ V₅ U₅ => ⟨rfl, ?_⟩⟩
  show wpAny (model prog w) (A.deeper (envS s.heap.objs.size a cd)) (execs (_ :: _ :: _ :: []) (envS s.heap.objs.size a cd)) _ _ _
  refine xa_next (ex_assign K rfl (wpAny_List (spliced_nil ⟨Nat.zero_le _, ?_⟩)) rfl)
  have m6 := PI.new h₅ (vs := []) .nil
  have e6 := ext_push h₅ { cls := .type "list", data := .seq ([] : List Value).toArray }
  have z6 : (h₅.push { cls := .type "list", data := .seq ([] : List Value).toArray }).objs.size = h₅.objs.size + 1 := Heap.size_push _ _
  dsimp only
  generalize h₅.push { cls := .type "list", data := .seq ([] : List Value).toArray } = h₆ at m6 e6 z6 ⊢
  refine ⟨_, V₅.ext e6, fun h₇ tk₇ V₇ U₇ => ⟨rfl, ?_⟩⟩
  have lt3 : s.heap.objs.size < h₃.objs.size := by
    obtain ⟨m, hm, _⟩ := V₃.loc
    exact hm.lt
  have lt5 : h₃.objs.size < h₅.objs.size := by
    have : PI h₅ h₃.objs.size [] := m4.up U₅ fun q => Nat.ne_of_gt lt3 (hfa _ q)
    exact this.lt
  have hnf : ∀ b, b ≠ s.heap.objs.size → ¬ FA (envS s.heap.objs.size a cd) b := fun b hb q => hb (hfa b q)
  have hMU : h₃.objs.size ≠ h₅.objs.size := Nat.ne_of_lt lt5
  have hUL : h₅.objs.size ≠ s.heap.objs.size := Nat.ne_of_gt (Nat.lt_trans lt3 lt5)
  have old6 : ∀ b o, s.heap.get? b = some o → h₆.get? b = some o := fun b o hb => by
    have hb' := hnf b (Nat.ne_of_lt (Heap.lt_size hb))
    exact e6 _ _ (U₅ _ _ hb' (e4 _ _ (U₃ _ _ hb' (U₂ _ _ hb' (e _ _ hb)))))
  have old7 : ∀ b o, s.heap.get? b = some o → h₇.get? b = some o := fun b o hb => U₇ _ _ (hnf b (Nat.ne_of_lt (Heap.lt_size hb))) (old6 b o hb)
  have M6 : PI h₆ h₃.objs.size [] := (m4.up U₅ (hnf _ (Nat.ne_of_gt lt3))).ext e6
  have C : SC s.heap h₆ outer (envS s.heap.objs.size a cd) s.heap.objs.size X Y h₃.objs.size h₅.objs.size := by
    refine ⟨K, rfl, rfl, hfa, Nat.le_refl _, z6, fun b hb => ?_, hfun, ?_, ?_, hXo, hYo, Nat.le_of_lt lt3, Nat.le_of_lt (Nat.lt_trans lt3 lt5), Nat.ne_of_gt lt3, hUL, hMU, ?_, ?_, ?_⟩
    · cases q : s.heap.get? b with
      | none => exact absurd q hb
      | some o => rw [old6 b o q]; simp
    · obtain ⟨o, q⟩ := hX.il.old; rw [q]; simp
    · obtain ⟨o, q⟩ := hY.il.old; rw [q]; simp
    · obtain ⟨o, q⟩ := M6.il.old; rw [q]; simp
    · obtain ⟨o, q⟩ := m6.il.old; rw [q]; simp
    · obtain ⟨m, ⟨o, es, ep, q, _⟩, _⟩ := (V₅.ext e6).loc
      have q' : h₆.get? s.heap.objs.size = some o := q
      rw [q']; simp
  refine sl_body (s0 := s) (tk := tk₇) G C (deeper_handled hh) (Around.frames_deeper hfr) hx hy hlx hly ⟨fun b o hb _ => old7 b o hb, fun b o hb _ => ⟨o.slots, old7 b o hb⟩, V₇, hX.at fun o q => old7 _ o q, hY.at fun o q => old7 _ o q, M6.up U₇ (hnf _ (Nat.ne_of_gt lt3)), m6.up U₇ (hnf _ hUL), ?_, ?_, ?_, ?_, ?_, ?_⟩ ?_
  · exact (upd_ne (by decide)).trans ((upd_ne (by decide)).trans ((upd_ne (by decide)).trans ((upd_ne (by decide)).trans ve)))
  · exact (upd_ne (by decide)).trans ((upd_ne (by decide)).trans ((upd_ne (by decide)).trans ((upd_ne (by decide)).trans va)))
  · exact (upd_ne (by decide)).trans (upd_self _ _ _)
  · exact upd_self _ _ _
  · exact ⟨_, (upd_ne (by decide)).trans ((upd_ne (by decide)).trans ((upd_ne (by decide)).trans (upd_self _ _ _)))⟩
  · exact ⟨_, (upd_ne (by decide)).trans ((upd_ne (by decide)).trans (upd_self _ _ _))⟩
  · intro h' tk' T o1 o2 o3 o4 o5
    exact hQ h' tk' T _ _ o1 o2 o3 o4 o5 (Nat.le_of_lt lt3) (Nat.le_of_lt (Nat.lt_trans lt3 lt5))
end
end Mine

namespace Mine
open Sem (wp)

def adr (env : Env) (x : Str) : Addr := if env.kindOf x = some .local then env.locals else (env.cells.lookup x).getD 0
section
variable {M : Model} {A : Around} {E : Value → Shared → Prop} {s : Shared} {env : Env} {vm : Str → Option Value}
/-- a store, to one place -/
theorem st_at {x : Str} {v : Value} {Q : Unit → Shared → Prop} (K : EnvOk env) (V : Vars env s.heap vm) (hk : kd env x = true)
    (h : ∀ h' tk, Vars env h' (upd vm x v) → Heap.SameBut (adr env x) s.heap h' → Q () { s with heap := h', toks := tk }) : wpAny M A (storeName env x v) Q E s := by
  unfold kd at hk
  rcases Bool.or_eq_true_iff.mp hk with q | q
  · have q' := beq_iff_eq.mp q
    obtain ⟨m, hm, r⟩ := V.loc
    refine wpAny_storeName_local q' hm (fun h' hn hs => h h' _ ⟨⟨_, hn, fun y hy => ?_⟩, fun y c hy hc => ?_⟩ (by unfold adr; rw [if_pos q']; exact hs)) (by rw [K.kind]; rfl)
    · unfold upd; by_cases e : y = x
      · simp [e]
      · simp [e, r y hy]
    · have hne : y ≠ x := fun e => by rw [e, q'] at hy; cases hy
      rw [upd_ne hne]
      exact IsCell.at (V.cell y c hy hc) fun o e => hs.extBut c o (K.off y c hy hc) e
  · obtain ⟨q1, q2⟩ := Bool.and_eq_true_iff.mp q
    have q1' := beq_iff_eq.mp q1
    obtain ⟨c, hc⟩ := Option.isSome_iff_exists.mp q2
    refine wpAny_storeName_cell K.kind q1' hc (V.cell x c q1' hc) fun h' hv hs => ?_
    have ha : adr env x = c := by unfold adr; rw [if_neg (by rw [q1']; simp), hc]; rfl
    refine h h' s.toks ⟨?_, fun y c' hy hc' => ?_⟩ (ha ▸ hs)
    · obtain ⟨m, hm, r⟩ := V.loc
      refine ⟨m, Ns.at hm fun o e => hs.extBut _ o (Ne.symm (K.off x c q1' hc)) e, fun y hy => ?_⟩
      have hne : y ≠ x := fun e => by rw [e, q1'] at hy; cases hy
      rw [upd_ne hne]; exact r y hy
    · by_cases e : y = x
      · subst e
        rw [hc] at hc'; cases hc'
        rw [upd_self]; exact hv
      · rw [upd_ne e]
        exact IsCell.at (V.cell y c' hy hc') fun o q => hs.extBut c' o (fun e' => e (K.inj y x c' hy q1' hc' (e' ▸ hc))) q
end

noncomputable def clos (env : Env) : List (Str × NameKind) → List (Str × Addr) → List (Str × Addr)
  | [], cs => cs
  | (n, k) :: r, cs => clos env r (if k == .free then (n, (env.cells.lookup n).getD 0) :: cs else cs)
noncomputable abbrev compE (scope : Scope) (env : Env) (C : Addr) : Env :=
  { scope := relabel scope env, locals := C, globals := env.globals, cells := cellsFrom (C + 1) scope.names (clos env scope.names []), qual := env.qual, func := none, code := env.code, frame := env.frame, builtins := env.builtins }
def cvm (scope : Scope) (vm : Str → Option Value) : Str → Option Value := fun y => if scope.names.lookup y = some .free then vm y else none
def kdc (env : Env) (x : Str) : Bool := env.kindOf x == some .cell && (env.cells.lookup x).isSome

theorem clos_mem (env : Env) : ∀ (names : List (Str × NameKind)) (cs : List (Str × Addr)) (y : Str) (c : Addr), (y, c) ∈ clos env names cs → (y, c) ∈ cs ∨ ((y, NameKind.free) ∈ names ∧ c = (env.cells.lookup y).getD 0)
  | [], cs, y, c, h => .inl h
  | (n, k) :: r, cs, y, c, h => by
    unfold clos at h
    rcases clos_mem env r _ y c h with h | h
    · by_cases hk : (k == NameKind.free) = true
      · rw [if_pos hk] at h
        rcases List.mem_cons.mp h with e | h
        · cases e
          exact .inr ⟨by rw [beq_iff_eq.mp hk]; exact List.mem_cons_self, rfl⟩
        · exact .inl h
      · rw [if_neg hk] at h; exact .inl h
    · exact .inr ⟨List.mem_cons_of_mem _ h.1, h.2⟩
theorem cellsFrom_acc : ∀ (names : List (Str × NameKind)) (n : Nat) (acc : List (Str × Addr)), cellsFrom n names acc = cellsFrom n names [] ++ acc
  | [], _, _ => rfl
  | (x, k) :: r, n, acc => by
    unfold cellsFrom
    split
    · rw [cellsFrom_acc r (n + 1) ((x, n) :: acc), cellsFrom_acc r (n + 1) [(x, n)]]; simp
    · exact cellsFrom_acc r n acc
theorem cellsFrom_mem : ∀ (names : List (Str × NameKind)) (n : Nat) (acc : List (Str × Addr)) (y : Str) (c : Addr), (y, c) ∈ cellsFrom n names acc → (y, c) ∈ acc ∨ (y, NameKind.cell) ∈ names
  | [], _, _, _, _, h => .inl h
  | (x, k) :: r, n, acc, y, c, h => by
    unfold cellsFrom at h
    by_cases hk : (k == NameKind.cell) = true
    · rw [if_pos hk] at h
      rcases cellsFrom_mem r _ _ y c h with h | h
      · rcases List.mem_cons.mp h with e | h
        · cases e; exact .inr (by rw [beq_iff_eq.mp hk]; exact List.mem_cons_self)
        · exact .inl h
      · exact .inr (List.mem_cons_of_mem _ h)
    · rw [if_neg hk] at h
      rcases cellsFrom_mem r _ _ y c h with h | h
      · exact .inl h
      · exact .inr (List.mem_cons_of_mem _ h)
theorem lookup_nodup {α : Type} : ∀ {l : List (Str × α)} {y : Str} {k : α}, (l.map (·.1)).Nodup → (y, k) ∈ l → l.lookup y = some k
  | (n, v) :: r, y, k, hd, h => by
    rw [List.map_cons, List.nodup_cons] at hd
    rw [List.lookup_cons]
    rcases List.mem_cons.mp h with e | h
    · cases e; simp
    · have hne : y ≠ n := fun e => hd.1 (e ▸ List.mem_map.mpr ⟨_, h, rfl⟩)
      rw [beq_eq_false_iff_ne.mpr hne]
      exact lookup_nodup hd.2 h
theorem lookup_relabel {env : Env} : ∀ (names : List (Str × NameKind)) (y : Str),
    (names.map fun (n, k) => if (k == NameKind.free && env.scope.kind == .function && env.kindOf n == some .cell) then (n, NameKind.cell) else (n, k)).lookup y
      = (names.lookup y).map fun k => if (k == NameKind.free && env.scope.kind == .function && env.kindOf y == some .cell) then NameKind.cell else k
  | [], _ => rfl
  | (n, k) :: r, y => by
    have ih := lookup_relabel (env := env) r y
    show List.lookup y ((if (k == NameKind.free && env.scope.kind == .function && env.kindOf n == some .cell) = true then (n, NameKind.cell) else (n, k)) :: _) = _
    cases hx : y == n with
    | true =>
      have := beq_iff_eq.mp hx
      subst this
      by_cases hc : (k == NameKind.free && env.scope.kind == .function && env.kindOf y == some .cell) = true
      · rw [if_pos hc]; simp only [List.lookup_cons, hx, Option.map_some, hc, if_true]
      · rw [if_neg hc]; simp only [List.lookup_cons, hx, Option.map_some, hc, Bool.false_eq_true, if_false]
    | false =>
      by_cases hc : (k == NameKind.free && env.scope.kind == .function && env.kindOf n == some .cell) = true
      · rw [if_pos hc]; simp only [List.lookup_cons, hx]; exact ih
      · rw [if_neg hc]; simp only [List.lookup_cons, hx]; exact ih

section
variable {M : Model} {A : Around} {E : Value → Shared → Prop} {s : Shared} {env : Env} {vm : Str → Option Value} {scope : Scope}
theorem compE_kind_cell {C : Addr} {y : Str} (h : (compE scope env C).kindOf y = some .cell) : scope.names.lookup y = some .cell ∨ scope.names.lookup y = some .free := by
  have h' : (relabel scope env).names.lookup y = some .cell := h
  unfold relabel at h'
  rw [lookup_relabel] at h'
  cases e : scope.names.lookup y with
  | none => rw [e] at h'; cases h'
  | some k =>
    rw [e] at h'
    simp only [Option.map_some, Option.some.injEq] at h'
    split at h'
    · rename_i hc
      simp only [Bool.and_eq_true, beq_iff_eq] at hc
      exact .inr (by rw [hc.1.1])
    · exact .inl (by rw [h'])
theorem compE_kind_local {C : Addr} {y : Str} (h : (compE scope env C).kindOf y = some .local) : scope.names.lookup y = some .local := by
  have h' : (relabel scope env).names.lookup y = some .local := h
  unfold relabel at h'
  rw [lookup_relabel] at h'
  cases e : scope.names.lookup y with
  | none => rw [e] at h'; cases h'
  | some k =>
    rw [e] at h'
    simp only [Option.map_some, Option.some.injEq] at h'
    split at h'
    · cases h'
    · rw [h']

theorem comp_env {Q : Env → Shared → Prop} (K : EnvOk env) (V : Vars env s.heap vm) (hk : scope.kind = .function) (hnd : (scope.names.map (·.1)).Nodup)
    (hfree : scope.names.all (fun x => x.2 != .free || kdc env x.1) = true)
    (hQ : ∀ h' cenv, { cenv with scope := relabel scope env } = compE scope env s.heap.objs.size → cenv.locals = s.heap.objs.size → EnvOk (compE scope env s.heap.objs.size) → Vars (compE scope env s.heap.objs.size) h' (cvm scope vm) → Ext s.heap h' →
      (∀ y, kd (compE scope env s.heap.objs.size) y = true → scope.names.lookup y ≠ some .free → s.heap.objs.size ≤ adr (compE scope env s.heap.objs.size) y) →
      (∀ b, FA (compE scope env s.heap.objs.size) b → FA env b ∨ s.heap.objs.size ≤ b) → Q cenv { s with heap := h' }) :
    wpAny M A (newFunctionEnv scope env.globals (clos env scope.names []) [] env.qual none .none (some env)) Q E s := by
  have hfr : ∀ y, (y, NameKind.free) ∈ scope.names → env.kindOf y = some .cell ∧ ∃ c, env.cells.lookup y = some c := by
    intro y hy
    have := List.all_eq_true.mp hfree _ hy
    simp only [bne_self_eq_false, Bool.false_or, kdc, Bool.and_eq_true, beq_iff_eq] at this
    exact ⟨this.1, Option.isSome_iff_exists.mp this.2⟩
  simp only [newFunctionEnv, Option.isSome_some, if_true]
  refine wpAny_bind (wpAny_alloc ?_)
  refine wpAny_bind (wpAny_layCells _ (fun name kind cells => by cases hkc : kind == NameKind.cell <;> simp [hkc]) _ _ _ _ ?_)
  rw [show ({ s with heap := s.heap.push { cls := .type "dict", data := .dict #[] } } : Shared).heap.objs.size = s.heap.objs.size + 1 from Heap.size_push ..]
  have ok := cellsFrom_ok scope.names (s.heap.push { cls := .type "dict", data := .dict #[] }) (s.heap.objs.size + 1) [] ⟨fun _ _ hm => (nomatch hm), List.Pairwise.nil⟩ (by rw [Heap.size_push]; exact Nat.le_refl _)
  rw [Heap.size_push] at ok
  have ext : Ext s.heap (pushCells (s.heap.push { cls := .type "dict", data := .dict #[] }) scope.names) := fun b o e => pushCells_keeps _ _ b o (Heap.get?_push_of_some _ e)
  have hns : (pushCells (s.heap.push { cls := .type "dict", data := .dict #[] }) scope.names).Ns s.heap.objs.size fun _ => none := (Heap.Ns.new s.heap (.type "dict")).keeps (pushCells_keeps _ _)
  dsimp only
  generalize pushCells (s.heap.push { cls := .type "dict", data := .dict #[] }) scope.names = h' at ok ext hns ⊢
  refine wpAny_bind (wpAny_pure (wpAny_pure ?_))
  -- the cells
  have hcells : ∀ y c, (compE scope env s.heap.objs.size).cells.lookup y = some c →
      (scope.names.lookup y = some .cell ∧ (y, c) ∈ cellsFrom (s.heap.objs.size + 1) scope.names []) ∨ (scope.names.lookup y = some .free ∧ env.kindOf y = some .cell ∧ env.cells.lookup y = some c) := by
    intro y c hc
    have hc' : (cellsFrom (s.heap.objs.size + 1) scope.names (clos env scope.names [])).lookup y = some c := hc
    rw [cellsFrom_acc] at hc'
    have hm := mem_of_lookup hc'
    rcases List.mem_append.mp hm with hm | hm
    · rcases cellsFrom_mem _ _ _ _ _ hm with h | h
      · cases h
      · exact .inl ⟨lookup_nodup hnd h, hm⟩
    · rcases clos_mem env _ _ _ _ hm with h | ⟨h, rfl⟩
      · cases h
      · obtain ⟨h1, c', h2⟩ := hfr y h
        exact .inr ⟨lookup_nodup hnd h, h1, by rw [h2]; rfl⟩
  have lo : ∀ y c, env.kindOf y = some .cell → env.cells.lookup y = some c → c < s.heap.objs.size := fun y c h1 h2 => (V.cell y c h1 h2).lt
  refine hQ h' _ rfl rfl ⟨?_, ?_, ?_, K.gl, K.bl⟩ ⟨⟨_, hns, fun y hy => ?_⟩, fun y c hy hc => ?_⟩ ext ?_ ?_
  · exact hk
  · intro y c _ hc
    rcases hcells y c hc with ⟨_, hm⟩ | ⟨_, h1, h2⟩
    · exact Nat.ne_of_gt (ok.empty _ _ hm).2
    · exact Nat.ne_of_lt (lo y c h1 h2)
  · intro y z c _ _ hy hz
    rcases hcells y c hy with ⟨_, hm⟩ | ⟨_, h1, h2⟩ <;> rcases hcells z c hz with ⟨_, hm'⟩ | ⟨_, h1', h2'⟩
    · exact name_of_addr ok.apart hm hm'
    · exact absurd (Nat.lt_of_lt_of_le (lo z c h1' h2') (Nat.le_of_lt (ok.empty _ _ hm).2)) (Nat.lt_irrefl _)
    · exact absurd (Nat.lt_of_lt_of_le (lo y c h1 h2) (Nat.le_of_lt (ok.empty _ _ hm').2)) (Nat.lt_irrefl _)
    · exact K.inj y z c h1 h1' h2 h2'
  · unfold cvm
    rw [if_neg (by rw [compE_kind_local hy]; simp)]
  · rcases hcells y c hc with ⟨q, hm⟩ | ⟨q, h1, h2⟩
    · have : cvm scope vm y = none := by unfold cvm; rw [if_neg (by rw [q]; simp)]
      rw [this]
      exact (ok.empty _ _ hm).1
    · have : cvm scope vm y = vm y := by unfold cvm; rw [if_pos q]
      rw [this]
      exact IsCell.at (V.cell y c h1 h2) fun o e => ext _ _ e
  · intro y hy hnf
    unfold adr
    split
    · exact Nat.le_refl _
    · rename_i hnl
      unfold kd at hy
      rcases Bool.or_eq_true_iff.mp hy with q | q
      · exact absurd (beq_iff_eq.mp q) hnl
      · obtain ⟨q1, q2⟩ := Bool.and_eq_true_iff.mp q
        obtain ⟨c, hc⟩ := Option.isSome_iff_exists.mp q2
        rw [hc]
        rcases hcells y c hc with ⟨_, hm⟩ | ⟨h, _⟩
        · exact Nat.le_of_lt (ok.empty _ _ hm).2
        · exact absurd h hnf
  · rintro b (rfl | ⟨y, hy, hc⟩)
    · exact .inr (Nat.le_refl _)
    · rcases hcells y b hc with ⟨_, hm⟩ | ⟨_, h1, h2⟩
      · exact .inr (Nat.le_of_lt (ok.empty _ _ hm).2)
      · exact .inl (.inr ⟨y, h1, h2⟩)
theorem adr_lt {x : Str} {h : Heap} (V : Vars env h vm) (hk : kd env x = true) : adr env x < h.objs.size := by
  unfold adr
  split
  · obtain ⟨m, hm, _⟩ := V.loc; exact hm.lt
  · rename_i hnl
    unfold kd at hk
    rcases Bool.or_eq_true_iff.mp hk with q | q
    · exact absurd (beq_iff_eq.mp q) hnl
    · obtain ⟨q1, q2⟩ := Bool.and_eq_true_iff.mp q
      obtain ⟨c, hc⟩ := Option.isSome_iff_exists.mp q2
      rw [hc]
      exact (V.cell x c (beq_iff_eq.mp q1) hc).lt
theorem fa_lt {b : Addr} {h : Heap} (V : Vars env h vm) (hb : FA env b) : b < h.objs.size := by
  rcases hb with rfl | ⟨y, hy, hc⟩
  · obtain ⟨m, hm, _⟩ := V.loc; exact hm.lt
  · exact (V.cell y b hy hc).lt
end
end Mine

namespace Mine
open Sem (wp)

/-- what a clause draws: n items, the i-th of P i -/
def Draw (prog : Program) (w : World) (A : Around) (n : Nat) (P : Nat → Value → Prop) (s : Shared) (xv : Value) : Prop :=
  ∀ (Q : Value → Shared → Prop) (E : Value → Shared → Prop), (∀ I fp wr St h' tk, Walks prog w A I fp wr n P St → St 0 h' → (∀ b ∈ fp, b < h'.objs.size) → (∀ b ∈ wr, s.heap.objs.size ≤ b) → Ext s.heap h' → s.heap.objs.size ≤ h'.objs.size → Q (.ref I) { s with heap := h', toks := tk }) →
    wpAny (model prog w) A (pyIter xv) Q E s
theorem draw_list {prog : Program} {w : World} {A : Around} {s : Shared} {l : Addr} {items : Array Value} (hh : A.handled = none) (hl : s.heap.IsList l items) : Draw prog w A items.size (fun i v => items[i]? = some v) s (.ref l) := by
  intro Q E h
  obtain ⟨ol, hol, _⟩ := id hl
  have hne : l ≠ s.heap.objs.size := Nat.ne_of_lt (Heap.lt_size hol)
  refine wpAny_pyIter_list hl (h s.heap.objs.size [s.heap.objs.size, l] [s.heap.objs.size] _ _ s.toks (Walks.list hh _ l hne items) ⟨⟨_, Heap.get?_push_size _ rfl, rfl, rfl⟩, hl.push _⟩ ?_ ?_ (ext_push _ _) ?_)
  · intro b hb
    rw [Heap.size_push]
    rcases List.mem_cons.mp hb with rfl | hb
    · exact Nat.lt_succ_self _
    · rw [List.mem_singleton.mp hb]; exact Nat.lt_succ_of_lt (Heap.lt_size hol)
  · intro b hb
    rw [List.mem_singleton.mp hb]; exact Nat.le_refl _
  · rw [Heap.size_push]; exact Nat.le_succ _
theorem draw_range {prog : Program} {w : World} {A : Around} {s : Shared} {r : Addr} {b : Int} {n : Nat} {t u v : Tok} (hh : A.handled = none) (hr : IsRange s.heap r 0 b 1 t u v) (hn : b = n) (hsm : n ≤ 1000000) :
    Draw prog w A n (fun i v => ∃ t, v = .int i t) s (.ref r) := by
  intro Q E h
  have hsmall : Builtin.Range.small 0 b 1 = true := range_small (by omega) (by omega) (by omega) (by omega) (by omega) (by omega)
  have hsz : Builtin.Range.rangeSize 0 b 1 = n := by rw [rangeSize_one]; split <;> omega
  have W := Walks.range (prog := prog) (w := w) hh s.heap.objs.size 0 1 n
  have W' : Walks prog w A s.heap.objs.size [s.heap.objs.size] [s.heap.objs.size] n (fun i v => ∃ t, v = .int i t) (fun i h => IsRangeIter h s.heap.objs.size (0 + (i : Nat) * 1) ((n : Int) - (i : Nat)) 1) := by
    have e : (fun (i : Nat) (v : Value) => ∃ t, v = Value.int (0 + i * 1) t) = (fun i v => ∃ t, v = .int i t) := by
      funext i v
      rw [show (0 + (i : Int) * 1) = (i : Int) by omega]
    rw [← e]; exact W
  refine wpAny_pyIter_range hr hsmall (h s.heap.objs.size _ _ _ _ s.toks W' ?_ ?_ ?_ (ext_push _ _) ?_)
  · rw [hsz]; exact Heap.get?_push_size _ rfl
  · intro b hb
    rw [Heap.size_push, List.mem_singleton.mp hb]; exact Nat.lt_succ_self _
  · intro b hb
    rw [List.mem_singleton.mp hb]; exact Nat.le_refl _
  · rw [Heap.size_push]; exact Nat.le_succ _

theorem paired_imp {α β : Type} {F G : α → β → Prop} (h : ∀ a b, F a b → G a b) : ∀ {l₁ : List α} {l₂ : List β}, Paired F l₁ l₂ → Paired G l₁ l₂
  | _, _, .nil => .nil
  | _, _, .cons a t => .cons (h _ _ a) (paired_imp h t)
abbrev tests (ifs : List Expr) (env : Env) : Sem Bool := forIn ifs true fun c r => if r = true then do let ok ← isTrue c env (eval c env); pure (ForInStep.yield ok) else pure (ForInStep.yield r)

section
variable {prog : Program} {w : World} {A : Around} {E : Value → Shared → Prop} {env : Env} {scope : Scope} {x : Str} {px : Pos} {iter elt : Expr} {ifs : List Expr} {pos : Pos}

/-- the body of a comprehension, over one item -/
structure BodyOk (prog : Program) (w : World) (A : Around) (env : Env) (scope : Scope) (x : Str) (ifs : List Expr) (elt : Expr) (n : Nat) (P : Nat → Value → Prop) (p : Nat → Bool) (F : Nat → Value → Heap → Prop) (s₁ : Shared) (vm : Str → Option Value) : Prop where
  tests : ∀ C i v h tk, EnvOk (compE scope env C) → i < n → P i v → Vars (compE scope env C) h (upd (cvm scope vm) x v) → Ext s₁.heap h →
    wpAny (model prog w) A (tests ifs (compE scope env C)) (fun ok s' => ok = p i ∧ ∃ h' tk', s' = { s₁ with heap := h', toks := tk' } ∧ Ext h h') NoE { s₁ with heap := h, toks := tk }
  elt : ∀ C i v h tk, EnvOk (compE scope env C) → i < n → P i v → p i = true → Vars (compE scope env C) h (upd (cvm scope vm) x v) → Ext s₁.heap h →
    wpAny (model prog w) A (eval elt (compE scope env C)) (fun y s' => (∃ h' tk', s' = { s₁ with heap := h', toks := tk' } ∧ Ext h h' ∧ F i y h') ∧ ∀ a, y = .ref a → h.objs.size ≤ a) NoE { s₁ with heap := h, toks := tk }
  keep : ∀ i y h h', F i y h → (∀ a o, y = .ref a → h.get? a = some o → h'.get? a = some o) → F i y h'

theorem comp_code {s₁ : Shared} {vm : Str → Option Value} {n : Nat} {P : Nat → Value → Prop} {p : Nat → Bool} {F : Nat → Value → Heap → Prop} {xv : Value} {RR : Value → Addr → Result → Shared → Prop} (K : EnvOk env) (V : Vars env s₁.heap vm)
    (hk : scope.kind = .function) (hnd : (scope.names.map (·.1)).Nodup) (hfree : scope.names.all (fun x => x.2 != .free || kdc env x.1) = true)
    (hx : ∀ C, kd (compE scope env C) x = true) (hx' : scope.names.lookup x ≠ some .free) (hsz : n ≤ sizeLine) (D₀ : Draw prog w A n P s₁ xv) (B : BodyOk prog w A env scope x ifs elt n P p F s₁ vm)
    (hRR : ∀ D C h' tk m ys nn, D ≠ C → s₁.heap.objs.size ≤ D → s₁.heap.objs.size ≤ C → h'.Ns C m → IsL h' D ys.toArray nn → Paired (fun i y => F i y h' ∧ ∀ a, y = .ref a → a ≠ C ∧ s₁.heap.objs.size ≤ a) ((List.range n).filter p) ys → Ext s₁.heap h' →
      RR (.ref D) C (.ok .next) { s₁ with heap := h', toks := tk }) :
    wpAny (model prog w) A (pyIter xv) (fun it s₂ => wpAny (model prog w) A (newList []) (fun acc s₃ =>
      wpAny (model prog w) A (newFunctionEnv scope env.globals (clos env scope.names []) [] env.qual none .none (some env)) (fun cenv s₄ =>
        codeAny (model prog w) A (.compStart (.ListComp elt [⟨.Name x px, iter, ifs, 0⟩] scope pos) 0 it acc { cenv with scope := relabel scope env }) (RR acc cenv.locals) s₄) E s₃) E s₂) E s₁ := by
  refine D₀ _ _ fun I fp wr St h₂ tk₂ W st₂ hfp hwr e₂ z₂ => ?_
  refine wpAny_newObj_type ?_ (by show (0 : Nat) ≤ sizeLine; omega)
  dsimp only
  have hD := IsL.new h₂ ([] : List Value).toArray
  have e₃ := ext_push h₂ { cls := .type "list", data := .seq ([] : List Value).toArray }
  have z₃ : (h₂.push { cls := .type "list", data := .seq ([] : List Value).toArray }).objs.size = h₂.objs.size + 1 := Heap.size_push _ _
  generalize h₂.push { cls := .type "list", data := .seq ([] : List Value).toArray } = h₃ at hD e₃ z₃ ⊢
  have V₃ : Vars env h₃ vm := (V.ext e₂).ext e₃
  refine comp_env (s := { s₁ with heap := h₃, toks := tk₂ }) K V₃ hk hnd hfree fun h₄ cenv hcenv hcl Kc Vc e₄ hfresh hFA => ?_
  rw [hcenv, hcl]
  dsimp only at Kc Vc e₄ hfresh hFA ⊢
  generalize hC : h₃.objs.size = C at *
  generalize hDd : h₂.objs.size = D at *
  have hDC : D ≠ C := by omega
  obtain ⟨X, hXd⟩ : ∃ X : Nat, X = adr (compE scope env C) x := ⟨_, rfl⟩
  have hX : C ≤ X := by rw [hXd]; exact hfresh x (hx C) hx'
  have hD1 : s₁.heap.objs.size ≤ D := z₂
  have hC1 : s₁.heap.objs.size ≤ C := by omega
  have hX1 : s₁.heap.objs.size ≤ X := by omega
  have hXD : X ≠ D := by omega
  have hXfp : X ∉ fp := fun q => by have : X < D := hfp _ q; omega
  have hDfp : D ∉ fp := fun q => Nat.lt_irrefl _ (hfp _ q)
  have hCfp : C ∉ fp := fun q => by have : C < D := hfp _ q; omega
  have hXwr : X ∉ wr := fun q => hXfp (W.sub _ q)
  have hDwr : D ∉ wr := fun q => hDfp (W.sub _ q)
  have hCwr : C ∉ wr := fun q => hCfp (W.sub _ q)
  have hfaX : ∀ h vm', Vars (compE scope env C) h vm' → ∃ m, h.Ns C m := fun h vm' V => let ⟨m, hm, _⟩ := V.loc; ⟨m, hm⟩
  -- the loop's invariant
  have st₄ : St 0 h₄ := W.frame _ _ _ st₂ fun b _ o q => e₄ _ _ (e₃ _ _ q)
  have loop : codeAny (model prog w) A (.compLoop (.ListComp elt [⟨.Name x px, iter, ifs, 0⟩] scope pos) 0 (.ref I) (.ref D) (compE scope env C)) (RR (.ref D) C) { s₁ with heap := h₄, toks := tk₂ } := by
    have hFA1 : ∀ b, FA (compE scope env C) b → b ∉ wr ∧ b ≠ D := fun b hb => by
      rcases hFA b hb with q | q
      · have h1 : b < s₁.heap.objs.size := fa_lt V q
        exact ⟨fun z => Nat.lt_irrefl _ (Nat.lt_of_lt_of_le h1 (hwr b z)), fun z => Nat.lt_irrefl _ (Nat.lt_of_lt_of_le h1 (z ▸ hD1))⟩
      · have q' : D < b := Nat.lt_of_lt_of_le (by omega) q
        exact ⟨fun z => Nat.lt_irrefl _ (Nat.lt_trans (hfp b (W.sub b z)) q'), Nat.ne_of_gt q'⟩
    refine codeAny_compLoop_tests (fun k s' => ∃ (h : Heap) (tk i nn : Nat) (ys : List Value) (cm : Str → Option Value), s' = { s₁ with heap := h, toks := tk } ∧ St i h ∧ IsL h D ys.toArray nn ∧ Vars (compE scope env C) h cm ∧ (∀ y, y ≠ x → cm y = cvm scope vm y) ∧
      Paired (fun i y => F i y h ∧ ∀ a, y = .ref a → a ≠ C ∧ a ≠ X ∧ a ≠ D ∧ a ∉ wr ∧ s₁.heap.objs.size ≤ a) ((List.range i).filter p) ys ∧ Ext s₁.heap h ∧ i ≤ n ∧ k = n + 1 - i) ?_ (n + 1)
      ⟨h₄, tk₂, 0, 0, [], cvm scope vm, rfl, st₄, e₄ _ _ hD, Vc, fun _ _ => rfl, .nil, (e₂.trans e₃).trans e₄, Nat.zero_le _, rfl⟩
    rintro k _ ⟨h, tk, i, nn, ys, cm, rfl, st, hl, Vi, hcm, hpr, ex, hi, rfl⟩
    have pkeep : ∀ (h h' : Heap), (∀ b o, b ≠ X → b ≠ D → b ∉ wr → h.get? b = some o → h'.get? b = some o) → ∀ {l ys}, Paired (fun i y => F i y h ∧ ∀ a, y = .ref a → a ≠ C ∧ a ≠ X ∧ a ≠ D ∧ a ∉ wr ∧ s₁.heap.objs.size ≤ a) l ys →
        Paired (fun i y => F i y h' ∧ ∀ a, y = .ref a → a ≠ C ∧ a ≠ X ∧ a ≠ D ∧ a ∉ wr ∧ s₁.heap.objs.size ≤ a) l ys := by
      intro h h' hk l ys hp
      induction hp with
      | nil => exact .nil
      | cons a _ ih => exact .cons ⟨B.keep _ _ h h' a.1 fun b o e q => hk b o (a.2 b e).2.1 (a.2 b e).2.2.1 (a.2 b e).2.2.2.1 q, a.2⟩ ih
    by_cases hlt : i < n
    · refine W.item i _ _ _ hlt st fun v h₅ tk₅ hPv st₅ hk₅ => ?_
      have V₅ : Vars (compE scope env C) h₅ cm := Vi.at fun b hb o q => hk₅ b o (hFA1 b hb).1 q
      refine wpAny_assign_Name (st_at Kc V₅ (hx C) fun h₆ tk₆ V₆ hs₆ => ?_)
      rw [← hXd] at hs₆
      have eu : upd cm x v = upd (cvm scope vm) x v := by
        funext y
        by_cases q : y = x
        · subst q; rw [upd_self, upd_self]
        · rw [upd_ne q, upd_ne q, hcm y q]
      rw [eu] at V₆
      have up₆ : ∀ b o, b ≠ X → b ≠ D → b ∉ wr → h.get? b = some o → h₆.get? b = some o := fun b o h1 _ h3 q => hs₆.extBut b o h1 (hk₅ b o h3 q)
      have st₆ : St (i + 1) h₆ := W.frame _ _ _ st₅ fun b hb o q => hs₆.extBut b o (fun e => hXfp (e ▸ hb)) q
      have l₆ : IsL h₆ D ys.toArray nn := hs₆.extBut _ _ (Ne.symm hXD) (hk₅ _ _ hDwr hl)
      have ex₆ : Ext s₁.heap h₆ := fun b o q => by
        have hb := Heap.lt_size q
        exact hs₆.extBut b o (fun e => Nat.lt_irrefl _ (Nat.lt_of_lt_of_le hb (e ▸ hX1))) (hk₅ b o (fun e => Nat.lt_irrefl _ (Nat.lt_of_lt_of_le hb (hwr b e))) (ex b o q))
      have pr₆ := pkeep h h₆ up₆ hpr
      refine wpAny_mono (wpAny_noE (B.tests C i v h₆ tk₆ Kc hlt hPv V₆ ex₆)) (fun ok s' hs' => ?_) fun _ _ q => q
      obtain ⟨rfl, h₇, tk₇, rfl, e₇⟩ := hs'
      have st₇ : St (i + 1) h₇ := W.frame _ _ _ st₆ fun b _ o q => e₇ b o q
      have V₇ := V₆.ext e₇
      have pr₇ := pkeep h₆ h₇ (fun b o _ _ _ q => e₇ b o q) pr₆
      have hcm' : ∀ y, y ≠ x → upd (cvm scope vm) x v y = cvm scope vm y := fun y hy => upd_ne hy
      cases hpi : p i with
      | false =>
        rw [if_neg (by simp)]
        refine ⟨n + 1 - (i + 1), by omega, h₇, tk₇, i + 1, nn, ys, _, rfl, st₇, e₇ _ _ l₆, V₇, hcm', ?_, ex₆.trans e₇, hlt, rfl⟩
        rw [List.range_succ, List.filter_append]
        simpa [hpi] using pr₇
      | true =>
        rw [if_pos rfl]
        refine wpAny_mono (wpAny_noE (B.elt C i v h₇ tk₇ Kc hlt hPv hpi V₇ (ex₆.trans e₇))) (fun y s' hs' => ?_) fun _ _ q => q
        obtain ⟨⟨h₈, tk₈, rfl, e₈, hF⟩, hfr⟩ := hs'
        have lts : ys.length ≤ i := by
          have e1 := Paired.length hpr
          have e2 := List.length_filter_le p (List.range i)
          rw [List.length_range] at e2; omega
        refine wpAny_list_append_plain (hsz := by simp; omega) (⟨nn, e₈ _ _ (e₇ _ _ l₆)⟩ : h₈.PlainList D ys.toArray) fun h₉ hl₉ hs₉ => ?_
        obtain ⟨n₉, hl₉⟩ := hl₉
        refine ⟨n + 1 - (i + 1), by omega, h₉, tk₈, i + 1, n₉, ys ++ [y], _, rfl, ?_, ?_, ?_, hcm', ?_, ?_, hlt, rfl⟩
        · exact W.frame _ _ _ st₇ fun b hb o q => hs₉.extBut b o (fun e => hDfp (e ▸ hb)) (e₈ b o q)
        · rw [show (ys ++ [y]).toArray = ys.toArray.push y by simp]; exact hl₉
        · exact V₇.at fun b hb o q => hs₉.extBut b o (hFA1 b hb).2 (e₈ b o q)
        · rw [List.range_succ, List.filter_append]
          have new : ∀ a, y = .ref a → a ≠ C ∧ a ≠ X ∧ a ≠ D ∧ a ∉ wr ∧ s₁.heap.objs.size ≤ a := fun a ha => by
            have h1 : h₇.objs.size ≤ a := hfr a ha
            have h2 : C < h₇.objs.size := by obtain ⟨m, hm⟩ := hfaX _ _ V₇; exact hm.lt
            have h3 : X < h₇.objs.size := by rw [hXd]; exact adr_lt V₇ (hx C)
            refine ⟨Nat.ne_of_gt (Nat.lt_of_lt_of_le h2 h1), Nat.ne_of_gt (Nat.lt_of_lt_of_le h3 h1), Nat.ne_of_gt (Nat.lt_of_lt_of_le (Nat.lt_trans (by omega) h2) h1), fun q => ?_, Nat.le_trans hC1 (Nat.le_of_lt (Nat.lt_of_lt_of_le h2 h1))⟩
            exact Nat.lt_irrefl _ (Nat.lt_of_lt_of_le (Nat.lt_trans (hfp a (W.sub a q)) (Nat.lt_trans (by omega) h2)) h1)
          have pr₉ := pkeep h₇ h₉ (fun b o _ hb _ q => hs₉.extBut b o hb (e₈ b o q)) pr₇
          have := Paired.snoc pr₉ (a := i) (b := y) ⟨B.keep _ _ h₈ h₉ hF fun a o ha q => hs₉.extBut a o (new a ha).2.2.1 q, new⟩
          simpa [hpi] using this
        · exact fun b o q => hs₉.extBut b o (fun e => Nat.lt_irrefl _ (Nat.lt_of_lt_of_le (Heap.lt_size q) (e ▸ hD1))) (e₈ b o (e₇ b o (ex₆ b o q)))
    · have hin : i = n := by omega
      subst hin
      refine W.done _ _ _ st fun h₅ tk₅ hk₅ => ?_
      obtain ⟨m, hm⟩ := hfaX _ _ Vi
      have pr₅ := pkeep h h₅ (fun b o _ _ hb q => hk₅ b o hb q) hpr
      refine hRR D C h₅ tk₅ m ys nn hDC hD1 hC1 (Ns.at hm fun o q => hk₅ _ o hCwr q) (hk₅ _ _ hDwr hl) ?_ fun b o q => hk₅ b o (fun e => Nat.lt_irrefl _ (Nat.lt_of_lt_of_le (Heap.lt_size q) (hwr b e))) (ex b o q)
      exact paired_imp (fun i y z => ⟨z.1, fun b e => ⟨(z.2 b e).1, (z.2 b e).2.2.2.2⟩⟩) pr₅
  exact codeAny_compStart_list loop (W.self 0 _ _ _ st₄ loop)

/-- [elt for x in iter if ..], as a value -/
theorem comp_eval {s : Shared} {Q : Value → Shared → Prop} (K : EnvOk env) (hclos : closureFor scope env = pure (clos env scope.names [])) (hk : scope.kind = .function) (hnd : (scope.names.map (·.1)).Nodup) (hfree : scope.names.all (fun x => x.2 != .free || kdc env x.1) = true)
    (hx : ∀ C, kd (compE scope env C) x = true) (hx' : scope.names.lookup x ≠ some .free) (hs : ∀ x, foldedSetIterable iter env x = pure x)
    (h : wpAny (model prog w) A (eval iter env) (fun xv s₁ => ∃ vm n P p F, Vars env s₁.heap vm ∧ n ≤ sizeLine ∧ Draw prog w A n P s₁ xv ∧ BodyOk prog w A env scope x ifs elt n P p F s₁ vm ∧
      ∀ D h' tk ys nn, s₁.heap.objs.size ≤ D → IsL h' D ys.toArray nn → Paired (fun i y => F i y h' ∧ ∀ a, y = .ref a → s₁.heap.objs.size ≤ a) ((List.range n).filter p) ys → Ext s₁.heap h' → Q (.ref D) { s₁ with heap := h', toks := tk }) E s) :
    wpAny (model prog w) A (eval (.ListComp elt [⟨.Name x px, iter, ifs, 0⟩] scope pos) env) Q E s := by
  rw [eval_ListComp]
  refine wpAny_comprehension_free (use := none) rfl hs hclos hk (fun y hy hl => ?_) (wpAny_mono h (fun xv s₁ h₁ => ?_) fun _ _ e => e)
  · obtain ⟨a, b⟩ := y
    cases hl
    exact lookup_nodup hnd hy
  obtain ⟨vm, n, P, p, F, V, hsz, D₀, B, hQ⟩ := h₁
  refine comp_code (RR := fun acc C => compPost (model prog w) A E none Q acc C) K V hk hnd hfree hx hx' hsz D₀ B ?_
  intro D C h' tk m ys nn hDC hD hC hm hl hp ex
  refine ⟨m, hm, fun h'' hs'' => hQ D h'' tk ys nn hD (hs''.extBut _ _ hDC hl) (paired_imp (fun i y z => ⟨B.keep _ _ h' h'' z.1 fun a o ha q => hs''.extBut a o (z.2 a ha).1 q, fun a ha => (z.2 a ha).2⟩) hp) fun b o q => hs''.extBut b o (fun e => Nat.lt_irrefl _ (Nat.lt_of_lt_of_le (Heap.lt_size q) (e ▸ hC))) (ex b o q)⟩

/-- y = [elt for x in iter if ..], the stores exchanged -/
theorem comp_assign {s : Shared} {y : Str} {py spos : Pos} {Q : Flow → Shared → Prop} (K : EnvOk env) (hsw : swapsWith (.ListComp elt [⟨.Name x px, iter, ifs, 0⟩] scope pos) (some (.Name y py)) spos.line env = pure true) (hky : kd env y = true)
    (hclos : closureFor scope env = pure (clos env scope.names [])) (hk : scope.kind = .function) (hnd : (scope.names.map (·.1)).Nodup) (hfree : scope.names.all (fun x => x.2 != .free || kdc env x.1) = true)
    (hx : ∀ C, kd (compE scope env C) x = true) (hx' : scope.names.lookup x ≠ some .free) (hs : ∀ x, foldedSetIterable iter env x = pure x)
    (h : wpAny (model prog w) A (eval iter env) (fun xv s₁ => ∃ vm n P p F, Vars env s₁.heap vm ∧ n ≤ sizeLine ∧ Draw prog w A n P s₁ xv ∧ BodyOk prog w A env scope x ifs elt n P p F s₁ vm ∧
      ∀ D h' tk ys nn, s₁.heap.objs.size ≤ D → IsL h' D ys.toArray nn → Paired (fun i y => F i y h' ∧ ∀ a, y = .ref a → s₁.heap.objs.size ≤ a) ((List.range n).filter p) ys → Vars env h' (upd vm y (.ref D)) → Up (FA env) s₁.heap h' →
        Q .next { s₁ with heap := h', toks := tk }) E s) :
    wpAny (model prog w) A (exec (.Assign [.Name y py] (.ListComp elt [⟨.Name x px, iter, ifs, 0⟩] scope pos) spos) env) Q E s := by
  rw [exec_Assign_Name_used _ _ _ _ hsw]
  refine wpAny_bind (wpAny_standAt (wpAny_bind ?_))
  show wpAny _ A (do let _ ← comprehension (.ListComp elt [⟨.Name x px, iter, ifs, 0⟩] scope pos) scope env _ (newList []) false (eval iter env) (some (assign (.Name y py) env))) _ _ s
  refine wpAny_bind (wpAny_mono (wpAny_comprehension_free (use := some (assign (.Name y py) env)) (Q := fun _ s' => Q .next s') rfl hs hclos hk (fun y hy hl => ?_)
    (wpAny_mono h (fun xv s₁ h₁ => ?_) fun _ _ e => e)) (fun _ s' hq => wpAny_pure (wpAny_pure hq)) fun _ _ e => e)
  · obtain ⟨a, b⟩ := y
    cases hl
    exact lookup_nodup hnd hy
  obtain ⟨vm, n, P, p, F, V, hsz, D₀, B, hQ⟩ := h₁
  refine comp_code (RR := fun acc C => compPost (model prog w) A E (some (assign (.Name y py) env)) (fun _ s' => Q .next s') acc C) K V hk hnd hfree hx hx' hsz D₀ B ?_
  intro D C h' tk m ys nn hDC hD hC hm hl hp ex
  show wpAny _ A (assign (.Name y py) env (.ref D)) _ _ _
  refine as_name K (V.ext ex) hky fun h₂ tk₂ V₂ U₂ => ?_
  have nf : ∀ b, s₁.heap.objs.size ≤ b → ¬ FA env b := fun b hb q => Nat.lt_irrefl _ (Nat.lt_of_lt_of_le (fa_lt V q) hb)
  refine ⟨m, Ns.at hm fun o q => U₂ _ o (nf C hC) q, fun h₃ hs₃ => hQ D h₃ tk₂ ys nn hD (hs₃.extBut _ _ hDC (U₂ _ _ (nf D hD) hl)) (paired_imp (fun i y z => ⟨B.keep _ _ h' h₃ z.1 fun a o ha q => hs₃.extBut a o (z.2 a ha).1 (U₂ _ _ (nf a (z.2 a ha).2) q), fun a ha => (z.2 a ha).2⟩) hp) (V₂.at fun b hb o q => hs₃.extBut b o (fun e => nf C hC (e ▸ hb)) q) fun b o hb q => ?_⟩
  exact hs₃.extBut b o (fun e => Nat.lt_irrefl _ (Nat.lt_of_lt_of_le (Heap.lt_size q) (e ▸ hC))) (U₂ b o hb (ex b o q))
end
end Mine

namespace Mine
open Sem (wp)

/-- one figure of a place, turned or not -/
def mstep (sizes turns : List Int) (place : Int) (st : Int × Int) (k : Nat) : Int × Int :=
  (st.1 + (if turns.getD k 0 = 1 then sizes.getD k 0 - 1 - (place.fdiv st.2).fmod (sizes.getD k 0) else (place.fdiv st.2).fmod (sizes.getD k 0)) * st.2, st.2 * sizes.getD k 0)
def mfold (sizes turns : List Int) (place : Int) (k : Nat) : Int × Int := (List.range k).foldl (mstep sizes turns place) (0, 1)
theorem mfold_succ (sizes turns : List Int) (place : Int) (k : Nat) : mfold sizes turns place (k + 1) = mstep sizes turns place (mfold sizes turns place k) k := by
  unfold mfold; rw [List.range_succ, List.foldl_append]; rfl
def turnsOf (n : Nat) (run : List Int) : List Int := (List.range n).map fun (k : Nat) => (((run.filter fun j => decide (j ≥ (k : Int))).length : Nat) : Int).fmod 2
def imageOf (sizes run : List Int) (place : Int) : Int := (mfold sizes (turnsOf sizes.length run) place sizes.length).1
def metOf (marks sizes : List Int) (runs : List (List Int)) : List Int := runs.flatMap fun run => marks.map (imageOf sizes run)
def lawMet (marks sizes : List Int) (runs : List (List Int)) (n : Nat) : List Int := ((List.range n).filter fun (p : Nat) => decide ((((metOf marks sizes runs).count (p : Int) : Nat) : Int).fmod 2 = 1)).map fun (p : Nat) => (p : Int)

abbrev envM (L a : Addr) (cd : Value) : Env := envOfC dM.name dM.scope L a cd

section
variable {prog : Program} {w : World} {A : Around} {E : Value → Shared → Prop} {s : Shared} {env : Env} {vm : Str → Option Value}
theorem ev_item {lst : Str} {idx : Expr} {p1 p3 : Pos} {X : Addr} {Q : Value → Shared → Prop}
    (K : EnvOk env) (V : Vars env s.heap vm) (h1 : vm lst = some (.ref X)) (k1 : kd env lst = true) (d1 : (lst == ("__debug__" : Str)) = false)
    (hsub : ∀ o i, subscripted idx false o i = operate [o, i] (getItem o i))
    (h : wpAny (model prog w) A (eval idx env) (fun v s₁ => ∃ (k : Int) (t : Tok) (ns : List Int), v = .int k t ∧ PI s₁.heap X ns ∧ 0 ≤ k ∧ k.toNat < ns.length ∧ k < 2 ^ 63 ∧ ∀ t, Q (.int (ns.getD k.toNat 0) t) s₁) E s) :
    wpAny (model prog w) A (eval (.Subscript (.Name lst p1) idx p3) env) Q E s := by
  refine ev_sub slot_list_getitem.lookup ?_ hsub (fun _ _ => rfl)
  refine ev_name K V h1 k1 (wpAny_mono h (fun v s₁ h₁ => ?_) fun _ _ e => e) d1
  obtain ⟨k, t, ns, rfl, ⟨vs, n, hl, hi⟩, h0, hk, hf, hQ⟩ := h₁
  obtain ⟨u, hu⟩ := ints_at hi _ hk
  refine ⟨hl.isList.typeIs, wpAny_getItem_list hl.isList h0 hf (by simpa using hu) ?_⟩
  have := hQ u
  rwa [List.getD_eq_getElem?_getD, List.getElem?_eq_getElem hk] at this
end
theorem fmod_lo {a b : Int} (hb : 0 < b) : 0 ≤ a.fmod b := Int.fmod_nonneg_of_pos a hb
theorem fmod_hi {a b : Int} (hb : 0 < b) : a.fmod b < b := Int.fmod_lt_of_pos a hb

section
variable {prog : Program} {w : World} {A : Around} {s : Shared} {mg mb : Str → Option Value}

/-- one turn of the innermost loop -/
theorem met_turn {L a : Addr} {cd : Value} {vm : Str → Option Value} {Sz T : Addr} {sizes turns : List Int} {pl th un k : Int} {tp tt tu tk : Tok} {Q : Flow → Shared → Prop}
    (K : EnvOk (envM L a cd)) (V : Vars (envM L a cd) s.heap vm) (hS : PI s.heap Sz sizes) (hT : PI s.heap T turns) (vS : vm "sizes" = some (.ref Sz)) (vT : vm "turns" = some (.ref T))
    (vp : vm "place" = some (.int pl tp)) (vt : vm "there" = some (.int th tt)) (vu : vm "unit" = some (.int un tu)) (vk : vm "k" = some (.int k tk)) (hSF : ¬ FA (envM L a cd) Sz) (hTF : ¬ FA (envM L a cd) T)
    (h0 : 0 ≤ k) (hk : k.toNat < sizes.length) (hk' : k.toNat < turns.length) (hk2 : k < 1000) (hu1 : 1 ≤ un) (hu2 : un ≤ 100000) (hs1 : 1 ≤ sizes.getD k.toNat 0) (hs2 : sizes.getD k.toNat 0 ≤ 100)
    (hQ : ∀ h' tk vm', Vars (envM L a cd) h' vm' → Up (FA (envM L a cd)) s.heap h' → (∀ y : Str, y ≠ "figure" → y ≠ "there" → y ≠ "unit" → vm' y = vm y) →
      (∃ t, vm' "there" = some (.int (mstep sizes turns pl (th, un) k.toNat).1 t)) → (∃ t, vm' "unit" = some (.int (mstep sizes turns pl (th, un) k.toNat).2 t)) → Q .next { s with heap := h', toks := tk }) :
    wpAny (model prog w) A (execs (forBody (stAt (forBody (stAt (forBody (stAt dM.body 1)) 1)) 2)) (envM L a cd)) Q NoE s := by
  show wpAny (model prog w) A (execs (_ :: _ :: _ :: _ :: []) (envM L a cd)) Q NoE s
  have mlo := fmod_lo (a := pl.fdiv un) (b := sizes.getD k.toNat 0) (by omega)
  have mhi := fmod_hi (a := pl.fdiv un) (b := sizes.getD k.toNat 0) (by omega)
  refine xa_next (ex_assign K rfl ?_ rfl)
  refine wpAny_BinOp (wpAny_BinOp (ev_name K V vp rfl (ev_name K V vu rfl (PyProof.Rows.floordiv_int (by omega) ?_ (.inl (PyProof.noPylong_small (by omega)))) rfl) rfl))
  refine ev_item K V vS rfl rfl (fun _ _ => rfl) (ev_name K V vk rfl ⟨k, tk, sizes, rfl, hS, h0, hk, by omega, fun t => PyProof.Rows.mod_int' (by omega) ?_⟩ rfl)
  refine ⟨_, V, fun h₁ tk₁ V₁ U₁ => ⟨rfl, ?_⟩⟩
  have hS₁ := hS.up U₁ hSF
  have hT₁ := hT.up U₁ hTF
  show wpAny (model prog w) A (execs (_ :: _ :: _ :: []) (envM L a cd)) Q NoE _
  -- the turn
  have mid : wpAny (model prog w) A (exec (stAt (forBody (stAt (forBody (stAt (forBody (stAt dM.body 1)) 1)) 2)) 1) (envM L a cd)) (fun f s' => f = .next ∧ ∃ h' tk' vm' t, s' = { s with heap := h', toks := tk' } ∧ Vars (envM L a cd) h' vm' ∧ Up (FA (envM L a cd)) s.heap h' ∧
      (∀ y : Str, y ≠ "figure" → vm' y = vm y) ∧ vm' "figure" = some (.int (if turns.getD k.toNat 0 = 1 then sizes.getD k.toNat 0 - 1 - (pl.fdiv un).fmod (sizes.getD k.toNat 0) else (pl.fdiv un).fmod (sizes.getD k.toNat 0)) t)) NoE { s with heap := h₁, toks := tk₁ } := by
    have vT₁ := (upd_ne (vm := vm) (x := "figure") (y := "turns") (v := .int ((pl.fdiv un).fmod (sizes.getD k.toNat 0)) (s.toks + 1)) (by decide)).trans vT
    have vS₁ := (upd_ne (vm := vm) (x := "figure") (y := "sizes") (v := .int ((pl.fdiv un).fmod (sizes.getD k.toNat 0)) (s.toks + 1)) (by decide)).trans vS
    have vk₁ := (upd_ne (vm := vm) (x := "figure") (y := "k") (v := .int ((pl.fdiv un).fmod (sizes.getD k.toNat 0)) (s.toks + 1)) (by decide)).trans vk
    refine wpAny_If (wpAny_isTrue_Compare1 ?_)
    refine ev_item K V₁ vT₁ rfl rfl (fun _ _ => rfl) (ev_name K V₁ vk₁ rfl ⟨k, tk, turns, rfl, hT₁, h0, hk', by omega, fun t => wpAny_Constant_int (PyProof.Rows.eq_int (wpAny_truthy_bool ?_))⟩ rfl)
    by_cases hc : turns.getD k.toNat 0 = 1
    · rw [beq_iff_eq.mpr hc, if_pos rfl, if_pos hc]
      show wpAny (model prog w) A (execs (_ :: []) (envM L a cd)) _ NoE _
      refine xa_next (ex_assign K rfl ?_ rfl)
      refine wpAny_BinOp (wpAny_BinOp (ev_item K V₁ vS₁ rfl rfl (fun _ _ => rfl) (ev_name K V₁ vk₁ rfl ⟨k, tk, sizes, rfl, hS₁, h0, hk, by omega, fun t => wpAny_Constant_int (PyProof.Rows.sub_int ?_)⟩ rfl)))
      refine ev_name K V₁ (upd_self _ _ _) rfl (PyProof.Rows.sub_int ⟨_, V₁, fun h₂ tk₂ V₂ U₂ => ⟨rfl, wpAny_execs_nil ⟨rfl, h₂, tk₂, _, _, rfl, V₂, U₁.trans U₂, fun y hy => (upd_ne hy).trans (upd_ne hy), upd_self _ _ _⟩⟩⟩) rfl
    · rw [beq_eq_false_iff_ne.mpr hc, if_neg (by decide), if_neg hc]
      exact wpAny_execs_nil ⟨rfl, h₁, _, _, _, rfl, V₁, U₁, fun y hy => upd_ne hy, upd_self _ _ _⟩
  refine xa_next (wpAny_mono mid (fun f s' h' => ?_) fun _ _ e => e)
  obtain ⟨rfl, h₂, tk₂, vm₂, tf, rfl, V₂, U₂, hold, hfig⟩ := h'
  refine ⟨rfl, ?_⟩
  show wpAny (model prog w) A (execs (_ :: _ :: []) (envM L a cd)) Q NoE _
  generalize hF : (if turns.getD k.toNat 0 = 1 then sizes.getD k.toNat 0 - 1 - (pl.fdiv un).fmod (sizes.getD k.toNat 0) else (pl.fdiv un).fmod (sizes.getD k.toNat 0)) = fig at hfig
  refine xa_next (ex_assign K rfl ?_ rfl)
  refine wpAny_BinOp (ev_name K V₂ ((hold _ (by decide)).trans vt) rfl (wpAny_BinOp (ev_name K V₂ hfig rfl (ev_name K V₂ ((hold _ (by decide)).trans vu) rfl (PyProof.Rows.mul_int (PyProof.Rows.add_int ?_) (.of_right (intBits_le_64 (by omega) (by omega)))) rfl) rfl)) rfl)
  refine ⟨_, V₂, fun h₃ tk₃ V₃ U₃ => ⟨rfl, ?_⟩⟩
  show wpAny (model prog w) A (execs (_ :: []) (envM L a cd)) Q NoE _
  refine xa_next (ex_assign K rfl ?_ rfl)
  have hS₃ := (hS.up U₂ hSF).up U₃ hSF
  refine wpAny_BinOp (ev_name K V₃ ((upd_ne (by decide)).trans ((hold _ (by decide)).trans vu)) rfl (ev_item K V₃ ((upd_ne (by decide)).trans ((hold _ (by decide)).trans vS)) rfl rfl (fun _ _ => rfl)
    (ev_name K V₃ ((upd_ne (by decide)).trans ((hold _ (by decide)).trans vk)) rfl ⟨k, tk, sizes, rfl, hS₃, h0, hk, by omega, fun t => PyProof.Rows.mul_int ?_ (.of_left (intBits_le_64 (by omega) (by omega)))⟩ rfl)) rfl)
  refine ⟨_, V₃, fun h₄ tk₄ V₄ U₄ => ⟨rfl, wpAny_execs_nil (hQ h₄ tk₄ _ V₄ ((U₂.trans U₃).trans U₄) (fun y y1 y2 y3 => ?_) ?_ ⟨_, upd_self _ _ _⟩)⟩⟩
  · exact (upd_ne y3).trans ((upd_ne y2).trans (hold y y1))
  · unfold mstep
    rw [hF]
    exact ⟨_, (upd_ne (by decide)).trans (upd_self _ _ _)⟩
end

theorem filter_range (l : List Int) (q : Int → Bool) : ((List.range l.length).filter fun i => q (l.getD i 0)).map (fun i => l.getD i 0) = l.filter q := by
  have e : (List.range l.length).map (fun i => l.getD i 0) = l := by
    apply List.ext_getElem
    · simp
    · intro i h1 h2; simp [h2]
  conv => rhs; rw [← e]
  rw [List.filter_map]; rfl
theorem paired_ints {f : Nat → Int} {G : Nat → Value → Prop} (hG : ∀ i y, G i y → ∃ t, y = .int (f i) t) : ∀ {l : List Nat} {ys : List Value}, Paired G l ys → IntsAre ys (l.map f)
  | _, _, .nil => .nil
  | _, _, .cons a t => by
    obtain ⟨u, rfl⟩ := hG _ _ a
    exact .cons _ _ (paired_ints hG t)

theorem cvm_free {scope : Scope} {vm : Str → Option Value} {y : Str} (h : scope.names.lookup y = some .free) : cvm scope vm y = vm y := if_pos h
/-- a list of lists of ints -/
def LL (h : Heap) (R : Addr) (runs : List (List Int)) : Prop := ∃ (as : List Addr) (nn : Nat), IsL h R (as.map Value.ref).toArray nn ∧ Paired (fun a r => PI h a r) as runs
theorem paired_at {α β : Type} {F : α → β → Prop} : ∀ {l : List α} {m : List β}, Paired F l m → ∀ (i : Nat) (a : α), l[i]? = some a → ∃ b, m[i]? = some b ∧ F a b
  | _, _, .nil, i, a, h => by simp at h
  | _, _, .cons x t, 0, a, h => by simp at h; subst h; exact ⟨_, rfl, x⟩
  | _, _, .cons x t, i + 1, a, h => by simpa using paired_at t i a (by simpa using h)
theorem LL.at {h h' : Heap} {R : Addr} {runs : List (List Int)} (x : LL h R runs) (e : Ext h h') : LL h' R runs := let ⟨as, nn, hl, hp⟩ := x; ⟨as, nn, e _ _ hl, paired_imp (fun _ _ z => z.ext e) hp⟩

section
variable {prog : Program} {w : World} {A : Around} {s : Shared} {mg mb : Str → Option Value}

/-- turns = [len([j for j in run if j >= k]) % 2 for k in range(len(sizes))] -/
theorem met_turns {L a : Addr} {cd : Value} {vm : Str → Option Value} {Sz R : Addr} {sizes run : List Int} {Q : Flow → Shared → Prop}
    (hh : A.handled = none) (K : EnvOk (envM L a cd)) (G : Gl mg mb s.heap) (V : Vars (envM L a cd) s.heap vm) (hS : PI s.heap Sz sizes) (hR : PI s.heap R run) (vS : vm "sizes" = some (.ref Sz)) (vR : vm "run" = some (.ref R))
    (hl1 : sizes.length ≤ 1000) (hl2 : run.length ≤ 1000)
    (hQ : ∀ h' tk T, Vars (envM L a cd) h' (upd vm "turns" (.ref T)) → Up (FA (envM L a cd)) s.heap h' → s.heap.objs.size ≤ T → PI h' T (turnsOf sizes.length run) → Q .next { s with heap := h', toks := tk }) :
    wpAny (model prog w) A (exec (stAt (forBody (stAt dM.body 1)) 0) (envM L a cd)) Q NoE s := by
  have hline : sizeLine = 2 ^ 24 := sizeLine_eq
  refine comp_assign K rfl rfl rfl rfl (by decide) rfl (fun _ => rfl) (by decide) (fun _ => rfl) ?_
  refine cl_type1 K G bi_range rfl rfl rfl ?_
  refine cl_builtin1 K G bi_len rfl rfl rfl ?_
  obtain ⟨vs, n, hl, hi⟩ := id hS
  have hvs := IntsAre.len hi
  refine ev_name K V vS rfl ?_ rfl
  refine PyProof.Rows.len_list hl.isList (by simp; omega) ?_
  obtain ⟨N, hN⟩ : ∃ N : Int, N = ((vs.toArray.size : Nat) : Int) := ⟨_, rfl⟩
  have hN' : N = sizes.length := by rw [hN]; simp [hvs]
  rw [← hN]
  refine call_range_1 ?_
  generalize hh1 : s.heap.push { cls := .type "range", data := .fields #[.int 0 _, .int N _, .int 1 _] } = h₁
  have e1 : Ext s.heap h₁ := hh1 ▸ ext_push _ _
  have z1 : h₁.objs.size = s.heap.objs.size + 1 := by rw [← hh1, Heap.size_push]
  refine ⟨vm, sizes.length, _, fun _ => true, fun i y _ => ∃ t, y = .int ((turnsOf sizes.length run).getD i 0) t, V.ext e1, by omega, draw_range hh (hh1 ▸ IsRange.new _ _ _ _ _ _ _) hN' (by omega), ⟨?_, ?_, ?_⟩, ?_⟩
  · intro C i v h tk Kc hi hP Vc ec
    exact wpAny_tests_nil ⟨rfl, h, tk, rfl, Ext.refl _⟩
  · rintro C i v h tk Kc hi ⟨t, rfl⟩ - Vc ec
    have Gc : Gl mg mb h := G.ext (e1.trans ec)
    have hRc : PI h R run := hR.ext (e1.trans ec)
    refine wpAny_BinOp (cl_builtin1 Kc Gc bi_len rfl rfl rfl ?_)
    refine comp_eval Kc rfl rfl (by decide) rfl (fun _ => rfl) (by decide) (fun _ => rfl) ?_
    refine ev_name Kc Vc ((upd_ne (by decide)).trans ((cvm_free rfl).trans vR)) rfl ?_ rfl
    obtain ⟨us, m, hlR, hiR⟩ := id hRc
    have hus := IntsAre.len hiR
    refine ⟨_, _, _, fun j => decide (run.getD j 0 ≥ (i : Int)), fun j y _ => ∃ t, y = .int (run.getD j 0) t, Vc, by simp; omega, draw_list hh hlR.isList, ⟨?_, ?_, ?_⟩, ?_⟩
    · intro C' j v' h' tk' Kc' hj hP' Vc' ec'
      have hj' : j < run.length := by simpa [hus] using hj
      obtain ⟨u', hu'⟩ := ints_at hiR j hj'
      have ev : v' = .int run[j] u' := by
        have h1 : us.toArray[j]? = some v' := hP'
        have h2 : us.toArray[j]? = some (.int run[j] u') := by simpa using hu'
        rw [h1] at h2; exact Option.some.inj h2
      subst ev
      refine wpAny_tests_one (wpAny_isTrue_Compare1 (ev_name Kc' Vc' (upd_self _ _ _) rfl (ev_name Kc' Vc' ((upd_ne (by decide)).trans ((cvm_free rfl).trans (upd_self _ _ _))) rfl (PySem.P.ge_int (wpAny_truthy_bool ?_)) rfl) rfl))
      exact ⟨by simp [hj'], h', tk', rfl, Ext.refl _⟩
    · intro C' j v' h' tk' Kc' hj hP' _ Vc' ec'
      have hj' : j < run.length := by simpa [hus] using hj
      obtain ⟨u', hu'⟩ := ints_at hiR j hj'
      have ev : v' = .int run[j] u' := by
        have h1 : us.toArray[j]? = some v' := hP'
        have h2 : us.toArray[j]? = some (.int run[j] u') := by simpa using hu'
        rw [h1] at h2; exact Option.some.inj h2
      subst ev
      exact ev_name Kc' Vc' (upd_self _ _ _) rfl ⟨⟨h', tk', rfl, Ext.refl _, u', by simp [hj']⟩, fun a ha => by cases ha⟩ rfl
    · rintro j y h h' ⟨t, rfl⟩ _; exact ⟨t, rfl⟩
    · intro D h' tk' ys nn hD hlD hp ex'
      have hlen : ys.length = (run.filter fun j => decide (j ≥ (i : Int))).length := by
        have h1 := Paired.length hp
        have h2 := congrArg List.length (filter_range run fun j => decide (j ≥ (i : Int)))
        rw [List.length_map] at h2
        rw [← h1, ← h2]
        simp [hus]
      have hlt : ys.length ≤ 1000 := by rw [hlen]; exact Nat.le_trans (List.length_filter_le _ _) hl2
      refine PyProof.Rows.len_list hlD.isList (by simp; omega) ?_
      refine wpAny_Constant_int (PyProof.Rows.mod_int' (by omega) ?_)
      refine ⟨⟨h', _, rfl, ex', ?_⟩, fun a ha => by cases ha⟩
      have : (turnsOf sizes.length run).getD i 0 = ((ys.length : Nat) : Int).fmod 2 := by
        unfold turnsOf
        rw [hlen]
        simp [hi]
      rw [this]
      exact ⟨_, rfl⟩
  · rintro j y h h' ⟨t, rfl⟩ _; exact ⟨t, rfl⟩
  · intro T h' tk ys nn hT hlT hp V' U'
    refine hQ h' tk T V' (e1.up.trans U') (Nat.le_trans (by rw [z1]; exact Nat.le_succ _) hT) ⟨ys, nn, hlT, ?_⟩
    have := paired_ints (f := fun i => (turnsOf sizes.length run).getD i 0) (fun i y z => z.1) hp
    have e : ((List.range sizes.length).filter fun _ => true).map (fun i => (turnsOf sizes.length run).getD i 0) = turnsOf sizes.length run := by
      rw [List.filter_eq_self.mpr (by simp)]
      apply List.ext_getElem
      · simp [turnsOf]
      · intro k h1 h2
        simp at h1 ⊢
        rw [List.getElem?_eq_getElem h2]; rfl
    rw [e] at this
    exact this
end
end Mine

namespace Mine
open Sem (wp)

structure MV (vm : Str → Option Value) (Mk Sz R D : Addr) (ln : Int) (tl : Tok) : Prop where
  m : vm "marks" = some (.ref Mk)
  s : vm "sizes" = some (.ref Sz)
  r : vm "runs" = some (.ref R)
  l : vm "length" = some (.int ln tl)
  d : vm "met" = some (.ref D)
theorem MV.of {vm vm' : Str → Option Value} {Mk Sz R D : Addr} {ln : Int} {tl : Tok} (x : MV vm Mk Sz R D ln tl) (h : ∀ y : Str, y ∈ ([("marks" : Str), "sizes", "runs", "length", "met"] : List Str) → vm' y = vm y) : MV vm' Mk Sz R D ln tl :=
  ⟨(h _ (by decide)).trans x.m, (h _ (by decide)).trans x.s, (h _ (by decide)).trans x.r, (h _ (by decide)).trans x.l, (h _ (by decide)).trans x.d⟩
theorem MV.upd {vm : Str → Option Value} {Mk Sz R D : Addr} {ln : Int} {tl : Tok} (x : MV vm Mk Sz R D ln tl) {y : Str} {v : Value} (hy : y ∉ ([("marks" : Str), "sizes", "runs", "length", "met"] : List Str)) : MV (upd vm y v) Mk Sz R D ln tl :=
  x.of fun z hz => upd_ne fun e => hy (e ▸ hz)

/-- the sizes of the law -/
def SzOk (sizes : List Int) : Prop := sizes.length ≤ 3 ∧ ∀ k, k < sizes.length → 1 ≤ sizes.getD k 0 ∧ sizes.getD k 0 ≤ 3
theorem mfold_unit {sizes : List Int} (hs : SzOk sizes) (turns : List Int) (pl : Int) : ∀ k, k ≤ sizes.length → 1 ≤ (mfold sizes turns pl k).2 ∧ (mfold sizes turns pl k).2 ≤ 3 ^ k
  | 0, _ => by simp [mfold]
  | k + 1, h => by
    obtain ⟨h1, h2⟩ := mfold_unit hs turns pl k (by omega)
    obtain ⟨h3, h4⟩ := hs.2 k (by omega)
    rw [mfold_succ]
    show 1 ≤ (mfold sizes turns pl k).2 * sizes.getD k 0 ∧ (mfold sizes turns pl k).2 * sizes.getD k 0 ≤ 3 ^ (k + 1)
    generalize (mfold sizes turns pl k).2 = u at *
    generalize sizes.getD k 0 = z at *
    have h5 : u * 1 ≤ u * z := Int.mul_le_mul_of_nonneg_left h3 (by omega)
    have h6 : u * z ≤ 3 ^ k * 3 := Int.mul_le_mul h2 h4 (by omega) (Int.pow_nonneg (by omega))
    rw [Int.pow_succ]
    omega

section
variable {prog : Program} {w : World} {A : Around} {s : Shared} {mg mb : Str → Option Value}

/-- for place in marks: .. -/
theorem met_places {L a : Addr} {cd : Value} {vm : Str → Option Value} {g : Heap} {Mk Sz R D T : Addr} {ln : Int} {tl : Tok} {marks sizes run base : List Int} {Q : Flow → Shared → Prop}
    (hh : A.handled = none) (K : EnvOk (envM L a cd)) (G : Gl mg mb g) (eg : Ext g s.heap) (V : Vars (envM L a cd) s.heap vm) (X : MV vm Mk Sz R D ln tl) (vT : vm "turns" = some (.ref T))
    (hF : ∀ b, FA (envM L a cd) b → g.objs.size ≤ b) (hDg : g.objs.size ≤ D) (hDF : ¬ FA (envM L a cd) D)
    (hM : PI g Mk marks) (hS : PI g Sz sizes) (hT : PI s.heap T (turnsOf sizes.length run)) (hTD : T ≠ D) (hTF : ¬ FA (envM L a cd) T) (hD : PI s.heap D base) (hsz : SzOk sizes) (hbase : base.length + marks.length ≤ 4000000)
    (hQ : ∀ h' tk vm', Vars (envM L a cd) h' vm' → MV vm' Mk Sz R D ln tl → Up (fun b => FA (envM L a cd) b ∨ b = D) s.heap h' → PI h' D (base ++ marks.map (imageOf sizes run)) → Q .next { s with heap := h', toks := tk }) :
    wpD (model prog w) A (exec (stAt (forBody (stAt dM.body 1)) 1) (envM L a cd)) Q NoE s := by
  have hline : sizeLine = 2 ^ 24 := sizeLine_eq
  have hMl : Mk < g.objs.size := hM.lt
  have hSl : Sz < g.objs.size := hS.lt
  have nMF : ¬ (FA (envM L a cd) Mk ∨ Mk = D) := by
    rintro (q | q)
    · exact absurd (hF _ q) (Nat.not_le_of_lt hMl)
    · rw [← q] at hDg; exact absurd hDg (Nat.not_le_of_lt hMl)
  have nSF : ¬ (FA (envM L a cd) Sz ∨ Sz = D) := by
    rintro (q | q)
    · exact absurd (hF _ q) (Nat.not_le_of_lt hSl)
    · rw [← q] at hDg; exact absurd hDg (Nat.not_le_of_lt hSl)
  obtain ⟨vs, n, hl, hi⟩ := hM.ext eg
  have hlen := IntsAre.len hi
  have hmu : ∀ b, (FA (envM L a cd) b ∨ b = D) → g.objs.size ≤ b := fun b hb => hb.elim (hF b) fun q => q ▸ hDg
  refine for_list K rfl hh ?_ (fun _ => rfl)
  refine ev_name K V X.m rfl ?_ rfl
  refine ⟨Mk, vs.toArray, (fun b => FA (envM L a cd) b ∨ b = D), (fun i vm h => (MV vm Mk Sz R D ln tl ∧ vm "turns" = some (.ref T)) ∧ PI h D (base ++ (marks.take i).map (imageOf sizes run))), vm, rfl, hl.isList, nMF, ?_, fun b hb => .inl hb, V, ⟨⟨X, vT⟩, by simpa using hD⟩, ?_, ?_, ?_⟩
  · rintro b (q | rfl)
    · exact fa_lt V q
    · exact hD.lt
  · rintro i vm h h' ⟨x, y⟩ k
    exact ⟨x, y.at fun o q => k _ o (.inr rfl) hDF q⟩
  · rintro i v vm₁ h₁ tk₁ hv ⟨⟨X₁, vT₁⟩, hD₁⟩ V₁ U₁
    have hi' : i < marks.length := by
      have := (Array.getElem?_eq_some_iff.mp hv).1
      simpa [hlen] using this
    obtain ⟨u, hu⟩ := ints_at hi i hi'
    have ev : v = .int marks[i] u := by
      have h2 : vs.toArray[i]? = some (.int marks[i] u) := by simpa using hu
      rw [hv] at h2; exact Option.some.inj h2
    subst ev
    have eg₁ : Ext g h₁ := eg.after U₁ hmu
    show wpD (model prog w) A (execs (_ :: _ :: _ :: _ :: []) (envM L a cd)) _ NoE _
    refine xs_any (ex_assign K rfl (wpAny_Constant_int ⟨_, V₁, fun h₂ tk₂ V₂ U₂ => ⟨rfl, ?_⟩⟩) rfl)
    show wpD (model prog w) A (execs (_ :: _ :: _ :: []) (envM L a cd)) _ NoE _
    refine xs_any (ex_assign K rfl (wpAny_Constant_int ⟨_, V₂, fun h₃ tk₃ V₃ U₃ => ⟨rfl, ?_⟩⟩) rfl)
    show wpD (model prog w) A (execs (_ :: _ :: []) (envM L a cd)) _ NoE _
    have U13 : Up (fun b => FA (envM L a cd) b ∨ b = D) h₁ h₃ := (U₂.trans U₃).mono fun b hb => .inl hb
    have eg₃ : Ext g h₃ := eg₁.after U13 hmu
    have G₃ := G.ext eg₃
    have X₃ : MV (upd (upd (upd vm₁ "place" (.int marks[i] u)) "there" (.int 0 tk₁)) "unit" (.int 1 tk₂)) Mk Sz R D ln tl := ((X₁.upd (by decide)).upd (by decide)).upd (by decide)
    have vT₃ : (upd (upd (upd vm₁ "place" (.int marks[i] u)) "there" (.int 0 tk₁)) "unit" (.int 1 tk₂)) "turns" = some (.ref T) := (upd_ne (by decide)).trans ((upd_ne (by decide)).trans ((upd_ne (by decide)).trans vT₁))
    have vp₃ : (upd (upd (upd vm₁ "place" (.int marks[i] u)) "there" (.int 0 tk₁)) "unit" (.int 1 tk₂)) "place" = some (.int marks[i] u) := (upd_ne (by decide)).trans ((upd_ne (by decide)).trans (upd_self _ _ _))
    have vt₃ : (upd (upd (upd vm₁ "place" (.int marks[i] u)) "there" (.int 0 tk₁)) "unit" (.int 1 tk₂)) "there" = some (.int 0 tk₁) := (upd_ne (by decide)).trans (upd_self _ _ _)
    have vu₃ : (upd (upd (upd vm₁ "place" (.int marks[i] u)) "there" (.int 0 tk₁)) "unit" (.int 1 tk₂)) "unit" = some (.int 1 tk₂) := upd_self _ _ _
    dsimp only at V₃ ⊢
    generalize (upd (upd (upd vm₁ "place" (.int marks[i] u)) "there" (.int 0 tk₁)) "unit" (.int 1 tk₂)) = vm₃ at V₃ X₃ vT₃ vp₃ vt₃ vu₃
    have hT₃ : PI h₃ T (turnsOf sizes.length run) := (hT.up U₁ (fun q => q.elim hTF hTD)).up U13 (fun q => q.elim hTF hTD)
    have hD₃ := hD₁.up (U₂.trans U₃) hDF
    have hS₃ : PI h₃ Sz sizes := hS.ext eg₃
    obtain ⟨ws, m, hlS, hiS⟩ := id hS₃
    have hws := IntsAre.len hiS
    refine xs_next (for_range K rfl hh ?_ (fun _ => rfl))
    refine cl_type1 K G₃ bi_range rfl rfl rfl (cl_builtin1 K G₃ bi_len rfl rfl rfl (ev_name K V₃ X₃.s rfl (PyProof.Rows.len_list hlS.isList (by have := hsz.1; simp [hws]; omega) ?_) rfl))
    obtain ⟨N, hN⟩ : ∃ N : Int, N = ((ws.toArray.size : Nat) : Int) := ⟨_, rfl⟩
    have hN' : N = sizes.length := by rw [hN]; simp [hws]
    have h3 := hsz.1
    rw [← hN]
    refine call_range_1 ?_
    dsimp only
    generalize hh4 : h₃.push { cls := .type "range", data := .fields #[.int 0 _, .int N _, .int 1 _] } = h₄
    have e4 : Ext h₃ h₄ := hh4 ▸ ext_push _ _
    have hcount : (Builtin.Range.rangeSize 0 N 1).toNat = sizes.length := by rw [hN', rangeSize_one]; split <;> omega
    have hsz4 : h₃.objs.size ≤ h₄.objs.size := by rw [← hh4, Heap.size_push]; exact Nat.le_succ _
    refine ⟨_, _, _, _, _, _, _, (fun b => FA (envM L a cd) b), (fun k vm h => (MV vm Mk Sz R D ln tl ∧ vm "turns" = some (.ref T)) ∧ vm "place" = some (.int marks[i] u) ∧ (∃ t, vm "there" = some (.int (mfold sizes (turnsOf sizes.length run) marks[i] k).1 t)) ∧ (∃ t, vm "unit" = some (.int (mfold sizes (turnsOf sizes.length run) marks[i] k).2 t))), _,
      rfl, hh4 ▸ IsRange.new _ _ _ _ _ _ _, range_small (by omega) (by omega) (by omega) (by omega) (by omega) (by omega), fun b hb => Nat.lt_of_lt_of_le (fa_lt V₃ hb) hsz4, fun b hb => hb, V₃.ext e4, ⟨⟨X₃, vT₃⟩, vp₃, ⟨_, vt₃⟩, ⟨_, vu₃⟩⟩, ?_, ?_, ?_⟩
    · rintro i vm h h' x _; exact x
    · rintro k t vm₅ h₅ tk₅ hk ⟨⟨X₅, vT₅⟩, vp₅, ⟨t1, vt₅⟩, ⟨t2, vu₅⟩⟩ V₅ U₅
      rw [hcount] at hk
      obtain ⟨hu1, hu2⟩ := mfold_unit hsz (turnsOf sizes.length run) marks[i] k (by omega)
      obtain ⟨hs1, hs2⟩ := hsz.2 k hk
      have hpow : (3 : Int) ^ k ≤ 27 := by
        have : k = 0 ∨ k = 1 ∨ k = 2 := by omega
        rcases this with rfl | rfl | rfl <;> decide
      have U45 : Up (FA (envM L a cd)) h₃ h₅ := e4.up.trans U₅
      have ek : (0 + (k : Int) * 1).toNat = k := by omega
      refine wpD_of_any (met_turn (k := 0 + (k : Int) * 1) K V₅ (hS₃.up U45 (fun q => nSF (.inl q))) (hT₃.up U45 hTF) ((upd_ne (by decide)).trans X₅.s) ((upd_ne (by decide)).trans vT₅) ((upd_ne (by decide)).trans vp₅) ((upd_ne (by decide)).trans vt₅) ((upd_ne (by decide)).trans vu₅) (upd_self _ _ _) (fun q => nSF (.inl q)) hTF
        (by omega) (by rw [ek]; exact hk) (by rw [ek]; simp [turnsOf]; exact hk) (by omega) hu1 (by omega) (by rw [ek]; exact hs1) (by rw [ek]; omega) ?_)
      intro h₆ tk₆ vm₆ V₆ U₆ hold ht hu'
      rw [ek] at ht hu'
      have hold' : ∀ y : Str, y ≠ "figure" → y ≠ "there" → y ≠ "unit" → y ≠ "k" → vm₆ y = vm₅ y := fun y y1 y2 y3 y4 => (hold y y1 y2 y3).trans (upd_ne y4)
      refine ⟨rfl, h₆, tk₆, vm₆, rfl, V₆, ⟨⟨X₅.of fun y hy => ?_, ?_⟩, ?_, ?_, ?_⟩, U₆⟩
      · refine hold' y ?_ ?_ ?_ ?_ <;> (rintro rfl; exact absurd hy (by decide))
      · exact (hold' _ (by decide) (by decide) (by decide) (by decide)).trans vT₅
      · exact (hold' _ (by decide) (by decide) (by decide) (by decide)).trans vp₅
      · rw [mfold_succ]; exact ht
      · rw [mfold_succ]; exact hu'
    · rintro vm₅ h₅ tk₅ ⟨⟨X₅, vT₅⟩, vp₅, ⟨t1, vt₅⟩, ⟨t2, vu₅⟩⟩ V₅ U₅
      rw [hcount] at vt₅
      refine ⟨rfl, ?_⟩
      show wpD (model prog w) A (execs (_ :: []) (envM L a cd)) _ NoE _
      have U35 : Up (FA (envM L a cd)) h₃ h₅ := e4.up.trans U₅
      obtain ⟨zs, nz, hlD, hiD⟩ := hD₃.up U35 hDF
      have hzs := IntsAre.len hiD
      refine xs_any (ex_append K V₅ X₅.d rfl rfl ⟨_, _, _, hlD, rfl⟩ rfl rfl rfl rfl ?_ rfl rfl)
      refine ev_name K V₅ vt₅ rfl ⟨_, _, ?_, hlD, fun h₆ n₆ hl₆ hs₆ => ⟨rfl, xs_nil ⟨rfl, h₆, tk₅, vm₅, rfl, ?_, ⟨⟨X₅, vT₅⟩, ?_⟩, ?_⟩⟩⟩ rfl
      · simp only [List.length_append, List.length_map, List.length_take] at hzs
        simp; omega
      · exact V₅.at fun b hb o q => hs₆.extBut b o (fun e => hDF (e ▸ hb)) q
      · refine ⟨zs ++ [.int (mfold sizes (turnsOf sizes.length run) marks[i] sizes.length).1 t1], n₆, by simpa using hl₆, ?_⟩
        rw [List.take_add_one, List.getElem?_eq_getElem hi', List.map_append, ← List.append_assoc]
        refine hiD.append ?_
        simp only [Option.toList, List.map_cons, List.map_nil]
        exact .cons _ _ .nil
      · exact (U13.trans (U35.mono fun b hb => .inl hb)).trans (Up.of_same hs₆ (.inr rfl))
  · rintro vm₁ h₁ tk₁ ⟨⟨X₁, vT₁⟩, hD₁⟩ V₁ U₁
    refine hQ h₁ tk₁ vm₁ V₁ X₁ U₁ ?_
    have : marks.take vs.toArray.size = marks := by rw [List.take_of_length_le]; simp [hlen]
    rwa [this] at hD₁
end
end Mine

namespace Mine
open Sem (wp)

theorem metOf_take_succ {marks sizes : List Int} {runs : List (List Int)} {i : Nat} {r : List Int} (h : runs[i]? = some r) : metOf marks sizes (runs.take (i + 1)) = metOf marks sizes (runs.take i) ++ marks.map (imageOf sizes r) := by
  unfold metOf
  rw [List.take_add_one, h, List.flatMap_append]
  simp
theorem metOf_len (marks sizes : List Int) (runs : List (List Int)) : (metOf marks sizes runs).length = runs.length * marks.length := by
  unfold metOf
  induction runs with
  | nil => simp
  | cons r t ih => rw [List.flatMap_cons, List.length_append, ih, List.length_map, List.length_cons, Nat.add_mul]; omega

section
variable {prog : Program} {w : World} {A : Around} {s : Shared} {mg mb : Str → Option Value}

theorem met_body {L a : Addr} {cd : Value} {vm : Str → Option Value} {g : Heap} {Mk Sz R : Addr} {ln : Int} {n : Nat} {tl : Tok} {marks sizes : List Int} {runs : List (List Int)} {Q : Flow → Shared → Prop}
    (hh : A.handled = none) (K : EnvOk (envM L a cd)) (G : Gl mg mb g) (eg : Ext g s.heap) (V : Vars (envM L a cd) s.heap vm) (hgs : g.objs.size ≤ s.heap.objs.size)
    (v1 : vm "marks" = some (.ref Mk)) (v2 : vm "sizes" = some (.ref Sz)) (v3 : vm "runs" = some (.ref R)) (v4 : vm "length" = some (.int ln tl))
    (hF : ∀ b, FA (envM L a cd) b → g.objs.size ≤ b) (hM : PI g Mk marks) (hS : PI g Sz sizes) (hR : LL g R runs) (hsz : SzOk sizes) (hm : marks.length ≤ 1000) (hr : runs.length ≤ 1000) (hr2 : ∀ r ∈ runs, r.length ≤ 1000) (hln : ln = n) (hn : n ≤ 1000)
    (hQ : ∀ h' tk D, Ext g h' → PI h' D (lawMet marks sizes runs n) → g.objs.size ≤ D → Q (.ret (.ref D)) { s with heap := h', toks := tk }) :
    wpD (model prog w) A (execs dM.body (envM L a cd)) Q NoE s := by
  have hline : sizeLine = 2 ^ 24 := sizeLine_eq
  show wpD (model prog w) A (execs (_ :: _ :: _ :: []) (envM L a cd)) _ NoE _
  refine xs_any (ex_assign K rfl (wpAny_List (spliced_nil ⟨Nat.zero_le _, ?_⟩)) rfl)
  have m1 := PI.new s.heap (vs := []) .nil
  have e1 := ext_push s.heap { cls := .type "list", data := .seq ([] : List Value).toArray }
  dsimp only
  generalize s.heap.push { cls := .type "list", data := .seq ([] : List Value).toArray } = h₁ at m1 e1 ⊢
  obtain ⟨D, hDd⟩ : ∃ D, D = s.heap.objs.size := ⟨_, rfl⟩
  rw [← hDd] at m1 ⊢
  refine ⟨_, V.ext e1, fun h₂ tk₂ V₂ U₂ => ⟨rfl, ?_⟩⟩
  have hDF : ¬ FA (envM L a cd) D := fun q => by have := fa_lt V q; rw [hDd] at this; exact Nat.lt_irrefl _ this
  have hDg : g.objs.size ≤ D := by rw [hDd]; exact hgs
  have hD₂ := m1.up U₂ hDF
  have eg₂ : Ext g h₂ := (eg.trans e1).after U₂ hF
  have X₂ : MV (upd vm "met" (.ref D)) Mk Sz R D ln tl := ⟨(upd_ne (by decide)).trans v1, (upd_ne (by decide)).trans v2, (upd_ne (by decide)).trans v3, (upd_ne (by decide)).trans v4, upd_self _ _ _⟩
  show wpD (model prog w) A (execs (_ :: _ :: []) (envM L a cd)) _ NoE _
  obtain ⟨as, nn, hlR, hp⟩ := id hR
  have hRl : R < g.objs.size := Heap.lt_size hlR
  have hmu : ∀ b, (FA (envM L a cd) b ∨ b = D) → g.objs.size ≤ b := fun b hb => hb.elim (hF b) fun q => q ▸ hDg
  have hlenas : as.length = runs.length := Paired.length hp
  refine xs_next (for_list K rfl hh ?_ (fun _ => rfl))
  refine ev_name K V₂ X₂.r rfl ?_ rfl
  refine ⟨R, (as.map Value.ref).toArray, (fun b => FA (envM L a cd) b ∨ b = D), (fun i vm h => MV vm Mk Sz R D ln tl ∧ PI h D (metOf marks sizes (runs.take i))), _, rfl, (IsList.ext hlR.isList eg₂), fun q => absurd (hmu _ q) (Nat.not_le_of_lt hRl), ?_, fun b hb => .inl hb, V₂, ⟨X₂, hD₂⟩, ?_, ?_, ?_⟩
  · rintro b (q | rfl)
    · exact fa_lt V₂ q
    · exact hD₂.lt
  · rintro i vm h h' ⟨x, y⟩ k
    exact ⟨x, y.at fun o q => k _ o (.inr rfl) hDF q⟩
  · rintro i v vm₃ h₃ tk₃ hv ⟨X₃, hD₃⟩ V₃ U₃
    have hv' : (as.map Value.ref)[i]? = some v := by simpa using hv
    rw [List.getElem?_map] at hv'
    obtain ⟨r, hr', rfl⟩ := Option.map_eq_some_iff.mp hv'
    obtain ⟨run, hrun, hPI⟩ := paired_at hp i r hr'
    have eg₃ : Ext g h₃ := eg₂.after U₃ hmu
    have G₃ := G.ext eg₃
    have hmem : run ∈ runs := List.mem_of_getElem? hrun
    show wpD (model prog w) A (execs (_ :: _ :: []) (envM L a cd)) _ NoE _
    refine xs_any (met_turns (run := run) hh K G₃ V₃ (hS.ext eg₃) (hPI.ext eg₃) ((upd_ne (by decide)).trans X₃.s) (upd_self _ _ _) (by have := hsz.1; omega) (hr2 _ hmem) fun h₄ tk₄ T V₄ U₄ hTs hT => ⟨rfl, ?_⟩)
    dsimp only at hTs V₄ U₄ ⊢
    have eg₄ : Ext g h₄ := eg₃.after U₄ hF
    have hDlt : D < h₃.objs.size := hD₃.lt
    show wpD (model prog w) A (execs (_ :: []) (envM L a cd)) _ NoE _
    have hil := (List.getElem?_eq_some_iff.mp hrun).1
    have hbl : (metOf marks sizes (runs.take i)).length + marks.length ≤ 4000000 := by
      rw [metOf_len]
      have : (runs.take i).length ≤ 1000 := by rw [List.length_take]; omega
      have := Nat.mul_le_mul this hm
      omega
    refine xs_next (met_places (s := { s with heap := h₄, toks := tk₄ }) (g := g) (base := metOf marks sizes (runs.take i)) hh K G eg₄ V₄ ((X₃.upd (by decide)).upd (by decide)) (upd_self _ _ _) hF hDg hDF hM hS hT (Nat.ne_of_gt (Nat.lt_of_lt_of_le hDlt hTs)) (fun q => absurd (fa_lt V₃ q) (Nat.not_lt_of_le hTs)) (hD₃.up U₄ hDF) hsz hbl ?_)
    intro h₅ tk₅ vm₅ V₅ X₅ U₅ hD₅
    refine ⟨rfl, xs_nil ⟨rfl, h₅, tk₅, vm₅, rfl, V₅, ⟨X₅, ?_⟩, (U₄.mono fun b hb => .inl hb).trans U₅⟩⟩
    rw [metOf_take_succ hrun]
    exact hD₅
  · rintro vm₃ h₃ tk₃ ⟨X₃, hD₃⟩ V₃ U₃
    have htk : runs.take (as.map Value.ref).toArray.size = runs := by rw [List.take_of_length_le]; simp [hlenas]
    rw [htk] at hD₃
    have eg₃ : Ext g h₃ := eg₂.after U₃ hmu
    have G₃ := G.ext eg₃
    refine ⟨rfl, wpD_of_any ?_⟩
    show wpAny (model prog w) A (execs (_ :: []) (envM L a cd)) _ NoE _
    refine wpAny_execs_cons (wpAny_Return_some ?_)
    refine comp_eval K rfl rfl (by decide) rfl (fun _ => rfl) (by decide) (fun _ => rfl) ?_
    refine cl_type1 K G₃ bi_range rfl rfl rfl (ev_name K V₃ X₃.l rfl (call_range_1 ?_) rfl)
    dsimp only
    generalize hh4 : h₃.push { cls := .type "range", data := .fields #[.int 0 _, .int ln _, .int 1 _] } = h₄
    have e4 : Ext h₃ h₄ := hh4 ▸ ext_push _ _
    refine ⟨vm₃, n, _, (fun p => decide ((((metOf marks sizes runs).count (p : Int) : Nat) : Int).fmod 2 = 1)), fun i y _ => ∃ t, y = .int (i : Int) t, V₃.ext e4, by omega, draw_range hh (hh4 ▸ IsRange.new _ _ _ _ _ _ _) hln (by omega), ⟨?_, ?_, ?_⟩, ?_⟩
    · rintro C i v h tk Kc hi ⟨t, rfl⟩ Vc ec
      have hDc : PI h D (metOf marks sizes runs) := hD₃.ext (e4.trans ec)
      obtain ⟨zs, nz, hlD, hiD⟩ := id hDc
      refine wpAny_tests_one (wpAny_isTrue_Compare1 (wpAny_BinOp ?_))
      refine wpAny_Call_method (T := "list") (id := "list.count") rfl rfl rfl PySem.F.plainAttrs_list PySem.F.slot_list_count PySem.F.type_list_count
        (ev_name Kc Vc ((upd_ne (by decide)).trans ((cvm_free rfl).trans X₃.d)) rfl ⟨hlD.isList.typeIs, fun a e => by cases e; exact ⟨_, hlD, rfl⟩, ?_⟩ rfl)
      refine callWith_builtin rfl (evalArgs_plain (spliced_cons (ev_name Kc Vc (upd_self _ _ _) rfl (spliced_nil ?_) rfl)))
      refine count_list_ints hlD.isList hiD (wpAny_Constant_int (PyProof.Rows.mod_int' (by omega) (wpAny_Constant_int (PyProof.Rows.eq_int (wpAny_truthy_bool ?_)))))
      refine ⟨?_, h, _, rfl, Ext.refl _⟩
      rfl
    · rintro C i v h tk Kc hi ⟨t, rfl⟩ - Vc ec
      exact ev_name Kc Vc (upd_self _ _ _) rfl ⟨⟨h, tk, rfl, Ext.refl _, t, rfl⟩, fun a ha => by cases ha⟩ rfl
    · rintro j y h h' ⟨t, rfl⟩ _; exact ⟨t, rfl⟩
    · intro D' h' tk ys nn hD' hl' hp' ex'
      refine hQ h' tk D' (eg₃.trans (e4.trans ex')) ⟨ys, nn, hl', paired_ints (fun i y z => z.1) hp'⟩ ?_
      refine Nat.le_trans ?_ hD'
      have : D < h₄.objs.size := (hD₃.ext e4).lt
      exact Nat.le_of_lt (Nat.lt_of_le_of_lt hDg this)

/-- _law_met(marks, sizes, runs, length) -/
theorem met_call {a : Addr} {Mk Sz R : Addr} {ln : Int} {n : Nat} {tl : Tok} {marks sizes : List Int} {runs : List (List Int)} {Q : Value → Shared → Prop}
    (hh : A.handled = none) (hroom : A.depth < recursionLimit) (G : Gl mg mb s.heap) (hf : FnAt mg s.heap dM a)
    (hM : PI s.heap Mk marks) (hS : PI s.heap Sz sizes) (hR : LL s.heap R runs) (hsz : SzOk sizes) (hm : marks.length ≤ 1000) (hr : runs.length ≤ 1000) (hr2 : ∀ r ∈ runs, r.length ≤ 1000) (hln : ln = n) (hn : n ≤ 1000)
    (hQ : ∀ h' tk D, Ext s.heap h' → PI h' D (lawMet marks sizes runs n) → s.heap.objs.size ≤ D → Q (.ref D) { s with heap := h', toks := tk }) :
    wpD (model prog w) A (call (.ref a) [.ref Mk, .ref Sz, .ref R, .int ln tl]) Q NoE s := by
  obtain ⟨_, o, pm, cd, doc, ho, hdata, hcd⟩ := hf
  refine wpD_call (codeD_fn (binds := [("marks", .ref Mk), ("sizes", .ref Sz), ("runs", .ref R), ("length", .int ln tl)]) hroom ho hdata G.lim hcd rfl (locs rfl) (fun h₁ tk K V e hF => ?_) rfl rfl rfl)
  refine met_body (s := { s with heap := h₁, toks := tk }) (g := s.heap) (deeper_handled hh) K G e V ?_ rfl rfl rfl rfl (fun b hb => (hF b hb).1) hM hS hR hsz hm hr hr2 hln hn fun h' tk' D e' p' z' => ?_
  · exact Nat.le_of_lt (Nat.lt_of_le_of_lt (hF _ (.inl rfl)).1 (hF _ (.inl rfl)).2)
  · exact hQ h' tk' D e' p' z'
end
end Mine

namespace Mine
open Sem (wp)

/-- what the law computes, in plain lists -/
def nums (sc : List Int) : List Int := sc.take 6 ++ [0, 4]
def sizesL (hd : List Int) : List Int := (List.range hd.length).map fun (k : Nat) => ([2, 2, 1] : List Int).getD k 0 + (hd.getD k 0).fmod 2
def prodTo (sizes : List Int) (k : Nat) : Int := (sizes.take k).foldl (· * ·) 1
def widthsL (sizes : List Int) : List Int := (List.range sizes.length).map fun (k : Nat) => prodTo sizes (k + 1)
def runL (m : Nat) (x : Int) : List Int := (List.range (1 + x.fmod 4).toNat).map fun (j : Nat) => ((x.fdiv 4).fdiv (3 ^ j) + (j : Int)).fmod (m : Int)
def cutL (ns : List Int) : Int := 1 + (ns.sum.fdiv 5).fmod ((ns.length : Int) - 1)
def setL (n : Nat) (f : Nat → Bool) : List Int := ((List.range n).filter f).map fun (p : Nat) => (p : Int)
def markB (ns : List Int) (p : Nat) : Bool := ([0, 2, 3] : List Int).any (· == ((ns.getD (((p : Int).fmod (ns.length : Int)).toNat) 0).fdiv 3 + (p : Int)).fmod 7)

abbrev envL (L a : Addr) (cd : Value) : Env := envOfC dL.name dL.scope L a cd

/-- a list of the call's own -/
def PF (env : Env) (h : Heap) (D : Addr) (ns : List Int) : Prop := PI h D ns ∧ ¬ FA env D
theorem PF.up {env : Env} {h h' : Heap} {D : Addr} {ns : List Int} (x : PF env h D ns) (u : Up (FA env) h h') : PF env h' D ns := ⟨x.1.up u x.2, x.2⟩
theorem PF.ext {env : Env} {h h' : Heap} {D : Addr} {ns : List Int} (x : PF env h D ns) (u : Ext h h') : PF env h' D ns := ⟨x.1.ext u, x.2⟩
theorem nfa {env : Env} {h : Heap} {vm : Str → Option Value} (V : Vars env h vm) {D : Addr} (hD : h.objs.size ≤ D) : ¬ FA env D := fun q => absurd (fa_lt V q) (Nat.not_lt_of_le hD)

section
variable {prog : Program} {w : World} {A : Around} {E : Value → Shared → Prop} {s : Shared} {env : Env} {vm : Str → Option Value}
theorem ev_sub' {value slice : Expr} {pos : Pos} {T id : String} {Q : Value → Shared → Prop}
    (hl : typeLookup (.type T) "__getitem__" = pure (some (.builtin id)))
    (h : wpAny (model prog w) A (eval value env) (fun o s₁ => wpAny (model prog w) A (eval slice env) (fun i s₂ => s₂.TypeIs o T ∧ wpAny (model prog w) A (getItem o i) Q E s₂) E s₁) E s)
    (hsub : ∀ o i, subscripted slice false o i = operate [o, i] (getItem o i)) :
    wpAny (model prog w) A (eval (.Subscript value slice pos) env) Q E s := by
  rw [eval_Subscript]
  refine wpAny_bind (wpAny_mono h (fun o s₁ h₁ => wpAny_bind (wpAny_holding (wpAny_mono h₁ (fun i s₂ h₂ => wpAny_bind (wpAny_standAt ?_)) fun _ _ x => x))) fun _ _ x => x)
  refine wpAny_bind ?_
  rw [getitemInPython_of_ne h₂.1.not_modules]
  refine wpAny_bind (wpAny_specialOf h₂.1 hl ?_)
  refine wpAny_pure ?_
  refine wpAny_bind ?_
  show wpAny (model prog w) A (subscripted slice false o i) _ E s₂
  rw [hsub]
  exact wpAny_operating (wpAny_mono h₂.2 (fun r s₃ h₃ => wpAny_bind (wpAny_letTemporaryGo (wpAny_pure h₃))) fun _ _ x => x)

theorem ev_upto {lst : Str} {e : Expr} {p1 p2 p3 : Pos} {X : Addr} {Q : Value → Shared → Prop} (K : EnvOk env) (V : Vars env s.heap vm) (h1 : vm lst = some (.ref X)) (k1 : kd env lst = true) (d1 : (lst == ("__debug__" : Str)) = false)
    (h : wpAny (model prog w) A (eval e env) (fun v s₁ => ∃ (k : Int) (t : Tok) (its : List Value), v = .int k t ∧ 0 ≤ k ∧ s₁.heap.IsList X its.toArray ∧ its.length ≤ sizeLine ∧
      ∀ h' D, s₁.heap.objs.size ≤ D → IsL h' D (its.take k.toNat).toArray 0 → Ext s₁.heap h' → Q (.ref D) { s₁ with heap := h' }) E s) :
    wpAny (model prog w) A (eval (.Subscript (.Name lst p1) (.Slice none (some e) none p2) p3) env) Q E s := by
  refine wpAny_Subscript_list_slice (ev_name K V h1 k1 ?_ d1) (fun _ _ => rfl)
  rw [evalPart_none]
  refine wpAny_pure (wpAny_mono h (fun v s₁ h₁ => ?_) fun _ _ e => e)
  obtain ⟨k, t, its, rfl, hk, hl, hsz, hQ⟩ := h₁
  refine ⟨X, its.toArray, none, some k, rfl, hl, by simpa using hsz, .none, .int _ _, ?_⟩
  have ek : k = (k.toNat : Int) := by omega
  rw [ek, slicePick_upto' its.toArray k.toNat]
  have z : (s₁.heap.push { cls := .type "slice", data := .fields #[.none, .int (k.toNat : Int) t, .none] }).objs.size = s₁.heap.objs.size + 1 := Heap.size_push _ _
  have e1 := ext_push s₁.heap { cls := .type "slice", data := .fields #[.none, .int (k.toNat : Int) t, .none] }
  generalize s₁.heap.push { cls := .type "slice", data := .fields #[.none, .int (k.toNat : Int) t, .none] } = h₂ at z e1 ⊢
  rw [← z]
  exact hQ _ _ (by rw [z]; exact Nat.le_succ _) (IsL.new h₂ _) (e1.trans (ext_push _ _))
theorem ev_from {lst : Str} {e : Expr} {p1 p2 p3 : Pos} {X : Addr} {Q : Value → Shared → Prop} (K : EnvOk env) (V : Vars env s.heap vm) (h1 : vm lst = some (.ref X)) (k1 : kd env lst = true) (d1 : (lst == ("__debug__" : Str)) = false)
    (h : wpAny (model prog w) A (eval e env) (fun v s₁ => ∃ (k : Int) (t : Tok) (its : List Value), v = .int k t ∧ 0 ≤ k ∧ s₁.heap.IsList X its.toArray ∧ its.length ≤ sizeLine ∧
      ∀ h' D, s₁.heap.objs.size ≤ D → IsL h' D (its.drop k.toNat).toArray 0 → Ext s₁.heap h' → Q (.ref D) { s₁ with heap := h' }) E s) :
    wpAny (model prog w) A (eval (.Subscript (.Name lst p1) (.Slice (some e) none none p2) p3) env) Q E s := by
  refine wpAny_Subscript_list_slice (ev_name K V h1 k1 ?_ d1) (fun _ _ => rfl)
  rw [evalPart_none]
  refine wpAny_mono h (fun v s₁ h₁ => wpAny_pure ?_) fun _ _ e => e
  obtain ⟨k, t, its, rfl, hk, hl, hsz, hQ⟩ := h₁
  refine ⟨X, its.toArray, some k, none, rfl, hl, by simpa using hsz, .int _ _, .none, ?_⟩
  have ek : k = (k.toNat : Int) := by omega
  rw [ek, slicePick_from' its.toArray k.toNat]
  have z : (s₁.heap.push { cls := .type "slice", data := .fields #[.int (k.toNat : Int) t, .none, .none] }).objs.size = s₁.heap.objs.size + 1 := Heap.size_push _ _
  have e1 := ext_push s₁.heap { cls := .type "slice", data := .fields #[.int (k.toNat : Int) t, .none, .none] }
  generalize s₁.heap.push { cls := .type "slice", data := .fields #[.int (k.toNat : Int) t, .none, .none] } = h₂ at z e1 ⊢
  rw [← z]
  exact hQ _ _ (by rw [z]; exact Nat.le_succ _) (IsL.new h₂ _) (e1.trans (ext_push _ _))

theorem sum_PI {X : Addr} {ns : List Int} {Q : Value → Shared → Prop} (hh : A.handled = none) (hX : PI s.heap X ns) (h : ∀ h' tk t, Ext s.heap h' → Q (.int ns.sum t) { s with heap := h', toks := tk }) :
    wpAny (model prog w) A (call (.builtin "sum") [.ref X]) Q E s := by
  obtain ⟨vs, n, hl, hi⟩ := hX
  refine call_sum_walkG (draw_list (A := A.in1) hh hl.isList _ _ fun I fp wr St h' tk W st hfp hwr e z => ?_)
  refine ⟨I, fp, wr, _, _, St, fun i => ns.getD i 0, rfl, W, st, hfp, ?_, fun h'' tk' t' hk => ?_⟩
  · intro i v hv
    have hi' : i < ns.length := by
      have := (Array.getElem?_eq_some_iff.mp hv).1
      simpa [IntsAre.len hi] using this
    obtain ⟨u, hu⟩ := ints_at hi i hi'
    have h2 : vs.toArray[i]? = some (.int ns[i] u) := by simpa using hu
    rw [hv] at h2
    exact ⟨u, by rw [Option.some.inj h2]; simp [hi']⟩
  · have : preSum (fun i => ns.getD i 0) vs.toArray.size = ns.sum := by
      rw [PyProof.Rows.preSum_getD, List.take_of_length_le]
      simp [IntsAre.len hi]
    rw [this]
    exact h h'' tk' t' fun b o q => hk b o (fun q' => absurd (hwr b q') (Nat.not_le_of_lt (Heap.lt_size q))) (e b o q)
theorem sorted_PI {X : Addr} {ns : List Int} {Q : Value → Shared → Prop} (hX : PI s.heap X ns) (h64 : ns.length < 64)
    (h : ∀ h' D ns', s.heap.objs.size ≤ D → PI h' D ns' → ns'.Perm ns → ns'.Pairwise (· ≤ ·) → Ext s.heap h' → Q (.ref D) { s with heap := h' }) : wpAny (model prog w) A (call (.builtin "sorted") [.ref X]) Q E s := by
  obtain ⟨vs, n, hl, hi⟩ := hX
  refine sorted_ints hl.isList hi (by rw [IntsAre.len hi]; exact h64) fun out ns' a1 a2 a3 => ?_
  obtain ⟨e, he⟩ := sortedAll_at s.heap vs out
  exact h _ _ ns' (Nat.le_succ _) ⟨out.toList, e, he, a1⟩ a2 a3 fun b o q => sortedAll_old q
end
end Mine

namespace Mine
open Sem (wp)

theorem ints_take {vs : List Value} {ns : List Int} (h : IntsAre vs ns) (k : Nat) : IntsAre (vs.take k) (ns.take k) := IntsAre.take h k
theorem ints_drop {vs : List Value} {ns : List Int} (h : IntsAre vs ns) (k : Nat) : IntsAre (vs.drop k) (ns.drop k) := IntsAre.drop h k

section
variable {prog : Program} {w : World} {A : Around} {s : Shared} {mg mb : Str → Option Value} {L a : Addr} {cd : Value} {vm : Str → Option Value}

/-- numbers = script[:6] + [0, 4] -/
theorem law_0 {X : Addr} {sc : List Int} {Q : Flow → Shared → Prop} (K : EnvOk (envL L a cd)) (V : Vars (envL L a cd) s.heap vm) (hX : IL s.heap X sc) (vX : vm "script" = some (.ref X)) (hl : sc.length ≤ 100)
    (hQ : ∀ h' tk D, Vars (envL L a cd) h' (upd vm "numbers" (.ref D)) → Up (FA (envL L a cd)) s.heap h' → PF (envL L a cd) h' D (nums sc) → Q .next { s with heap := h', toks := tk }) :
    wpAny (model prog w) A (exec (stAt dL.body 0) (envL L a cd)) Q NoE s := by
  have hline : sizeLine = 2 ^ 24 := sizeLine_eq
  refine ex_assign K rfl ?_ rfl
  obtain ⟨vs, hl1, hi⟩ := hX
  have hlen := IntsAre.len hi
  refine wpAny_BinOp (ev_upto K V vX rfl rfl (wpAny_Constant_int ⟨6, _, vs, rfl, by omega, hl1, by omega, fun h₁ D₁ z₁ l₁ e₁ => ?_⟩))
  refine wpAny_List ?_
  show wpAny (model prog w) A (spliced [(false, eval _ _), (false, eval _ _)]) _ _ _
  refine spliced_cons (wpAny_Constant_int (spliced_cons (wpAny_Constant_int (spliced_nil ⟨by simp; omega, ?_⟩))))
  dsimp only
  generalize hvs : ([Value.int 0 (s.toks + 1), Value.int 4 (s.toks + 1 + 1)] : List Value) = v2
  have hi2 : IntsAre v2 [0, 4] := by rw [← hvs]; exact .cons _ _ (.cons _ _ .nil)
  have l2 := IsL.new h₁ v2.toArray
  have e2 := ext_push h₁ { cls := .type "list", data := .seq v2.toArray }
  generalize h₁.push { cls := .type "list", data := .seq v2.toArray } = h₂ at l2 e2 ⊢
  refine P.add_list (e2 _ _ l₁) l2 ?_ ?_
  · dsimp only
    have hnew := PI.new h₂ (vs := vs.take 6 ++ v2) (ns := nums sc) ((ints_take hi 6).append hi2)
    rw [show (vs.take 6 ++ v2).toArray = (vs.take (Int.toNat 6)).toArray ++ v2.toArray by simp] at hnew
    have e3 := ext_push h₂ { cls := .type "list", data := .seq ((vs.take (Int.toNat 6)).toArray ++ v2.toArray) }
    have V2 := (V.ext e₁).ext e2
    have hnf : ¬ FA (envL L a cd) h₂.objs.size := nfa V2 (Nat.le_refl _)
    obtain ⟨D, hD⟩ : ∃ D, D = h₂.objs.size := ⟨_, rfl⟩
    rw [← hD] at hnew hnf ⊢
    generalize h₂.push { cls := .type "list", data := .seq ((vs.take (Int.toNat 6)).toArray ++ v2.toArray) } = h₃ at hnew e3 ⊢
    refine ⟨vm, V2.ext e3, fun h₄ tk₄ V₄ U₄ => hQ h₄ tk₄ D V₄ ((e₁.trans (e2.trans e3)).up.trans U₄) ⟨hnew.up U₄ hnf, hnf⟩⟩
  · rw [← hvs]; simp; omega

/-- heads = numbers[:3] -/
theorem law_1 {X : Addr} {ns : List Int} {Q : Flow → Shared → Prop} (K : EnvOk (envL L a cd)) (V : Vars (envL L a cd) s.heap vm) (hX : PI s.heap X ns) (vX : vm "numbers" = some (.ref X)) (hl : ns.length ≤ 100)
    (hQ : ∀ h' tk D, Vars (envL L a cd) h' (upd vm "heads" (.ref D)) → Up (FA (envL L a cd)) s.heap h' → PF (envL L a cd) h' D (ns.take 3) → Q .next { s with heap := h', toks := tk }) :
    wpAny (model prog w) A (exec (stAt dL.body 1) (envL L a cd)) Q NoE s := by
  have hline : sizeLine = 2 ^ 24 := sizeLine_eq
  refine ex_assign K rfl ?_ rfl
  obtain ⟨vs, n, hl1, hi⟩ := hX
  have hlen := IntsAre.len hi
  refine ev_upto K V vX rfl rfl (wpAny_Constant_int ⟨3, _, vs, rfl, by omega, hl1.isList, by omega, fun h₁ D₁ z₁ l₁ e₁ => ?_⟩)
  have hnf := nfa V z₁
  exact ⟨vm, V.ext e₁, fun h₄ tk₄ V₄ U₄ => hQ h₄ tk₄ D₁ V₄ (e₁.up.trans U₄) ⟨PI.up ⟨_, _, l₁, ints_take hi 3⟩ U₄ hnf, hnf⟩⟩

/-- sizes = [[2, 2, 1][k] + heads[k] % 2 for k in range(len(heads))] -/
theorem law_2 {X : Addr} {hd : List Int} {Q : Flow → Shared → Prop} (hh : A.handled = none) (K : EnvOk (envL L a cd)) (G : Gl mg mb s.heap) (V : Vars (envL L a cd) s.heap vm) (hX : PI s.heap X hd) (vX : vm "heads" = some (.ref X)) (hl : hd.length ≤ 3)
    (hQ : ∀ h' tk D, Vars (envL L a cd) h' (upd vm "sizes" (.ref D)) → Up (FA (envL L a cd)) s.heap h' → PF (envL L a cd) h' D (sizesL hd) → Q .next { s with heap := h', toks := tk }) :
    wpAny (model prog w) A (exec (stAt dL.body 2) (envL L a cd)) Q NoE s := by
  have hline : sizeLine = 2 ^ 24 := sizeLine_eq
  refine comp_assign K rfl rfl rfl rfl (by decide) rfl (fun _ => rfl) (by decide) (fun _ => rfl) ?_
  obtain ⟨vs, n, hl1, hi⟩ := id hX
  have hlen := IntsAre.len hi
  refine cl_type1 K G bi_range rfl rfl rfl (cl_builtin1 K G bi_len rfl rfl rfl (ev_name K V vX rfl (PyProof.Rows.len_list hl1.isList (by simp; omega) ?_) rfl))
  obtain ⟨N, hN⟩ : ∃ N : Int, N = ((vs.toArray.size : Nat) : Int) := ⟨_, rfl⟩
  have hN' : N = hd.length := by rw [hN]; simp [hlen]
  rw [← hN]
  refine call_range_1 ?_
  dsimp only
  generalize hh1 : s.heap.push { cls := .type "range", data := .fields #[.int 0 _, .int N _, .int 1 _] } = h₁
  have e1 : Ext s.heap h₁ := hh1 ▸ ext_push _ _
  refine ⟨vm, hd.length, _, fun _ => true, fun i y _ => ∃ t, y = .int (([2, 2, 1] : List Int).getD i 0 + (hd.getD i 0).fmod 2) t, V.ext e1, by omega, draw_range hh (hh1 ▸ IsRange.new _ _ _ _ _ _ _) hN' (by omega), ⟨?_, ?_, ?_⟩, ?_⟩
  · intro C i v h tk Kc hi hP Vc ec
    exact wpAny_tests_nil ⟨rfl, h, tk, rfl, Ext.refl _⟩
  · rintro C i v h tk Kc hi' ⟨t, rfl⟩ - Vc ec
    refine wpAny_BinOp (ev_sub' slot_list_getitem.lookup ?_ (fun _ _ => rfl))
    refine wpAny_List ?_
    show wpAny (model prog w) A (spliced [(false, eval _ _), (false, eval _ _), (false, eval _ _)]) _ _ _
    refine spliced_cons (wpAny_Constant_int (spliced_cons (wpAny_Constant_int (spliced_cons (wpAny_Constant_int (spliced_nil ⟨by simp; omega, ?_⟩))))))
    dsimp only
    generalize hv3 : ([Value.int 2 tk, Value.int 2 (tk + 1), Value.int 1 (tk + 1 + 1)] : List Value) = v3
    have hi3 : IntsAre v3 [2, 2, 1] := by rw [← hv3]; exact .cons _ _ (.cons _ _ (.cons _ _ .nil))
    have l3 := IsL.new h v3.toArray
    have e3 := ext_push h { cls := .type "list", data := .seq v3.toArray }
    generalize h.push { cls := .type "list", data := .seq v3.toArray } = h₃ at l3 e3 ⊢
    have Vc3 := Vc.ext e3
    obtain ⟨u3, hu3⟩ := ints_at hi3 i (by simp; omega)
    refine ev_name Kc Vc3 (upd_self _ _ _) rfl ⟨l3.isList.typeIs, wpAny_getItem_list l3.isList (by omega) (by omega) (by simpa using hu3) ?_⟩ rfl
    refine wpAny_BinOp (ev_item Kc Vc3 ((upd_ne (by decide)).trans ((cvm_free rfl).trans vX)) rfl rfl (fun _ _ => rfl) (ev_name Kc Vc3 (upd_self _ _ _) rfl ⟨_, _, hd, rfl, hX.ext ((e1.trans ec).trans e3), by omega, by simpa using hi', by omega, fun t' => ?_⟩ rfl))
    refine wpAny_Constant_int (PyProof.Rows.mod_int' (by omega) (PyProof.Rows.add_int ?_))
    refine ⟨⟨h₃, _, rfl, e3, ?_⟩, fun a ha => by cases ha⟩
    have h1 : ([2, 2, 1] : List Int)[i]'(by simp; omega) = ([2, 2, 1] : List Int).getD i 0 := by
      rw [List.getD_eq_getElem?_getD, List.getElem?_eq_getElem (by simp; omega)]; rfl
    rw [← h1]
    exact ⟨_, rfl⟩
  · rintro j y h h' ⟨t, rfl⟩ _; exact ⟨t, rfl⟩
  · intro T h' tk ys nn hT hlT hp V' U'
    have hnf := nfa (V.ext e1) hT
    refine hQ h' tk T V' (e1.up.trans U') ⟨⟨ys, nn, hlT, ?_⟩, hnf⟩
    have := paired_ints (f := fun i => ([2, 2, 1] : List Int).getD i 0 + (hd.getD i 0).fmod 2) (fun i y z => z.1) hp
    rw [List.filter_eq_self.mpr (by simp)] at this
    exact this
end
end Mine

namespace Mine
open Sem (wp)

theorem prodTo_succ {sizes : List Int} {i : Nat} (h : i < sizes.length) : prodTo sizes (i + 1) = prodTo sizes i * sizes[i] := by
  unfold prodTo
  rw [List.take_add_one, List.getElem?_eq_getElem h, List.foldl_append]
  rfl
def LLF (env : Env) (h : Heap) (R : Addr) (runs : List (List Int)) : Prop := ∃ (as : List Addr) (nn : Nat), IsL h R (as.map Value.ref).toArray nn ∧ Paired (fun a r => PF env h a r) as runs ∧ ¬ FA env R
theorem LLF.up {env : Env} {h h' : Heap} {R : Addr} {runs : List (List Int)} (x : LLF env h R runs) (u : Up (FA env) h h') : LLF env h' R runs :=
  let ⟨as, nn, hl, hp, hn⟩ := x; ⟨as, nn, u _ _ hn hl, paired_imp (fun _ _ z => z.up u) hp, hn⟩
theorem LLF.ext {env : Env} {h h' : Heap} {R : Addr} {runs : List (List Int)} (x : LLF env h R runs) (u : Ext h h') : LLF env h' R runs :=
  let ⟨as, nn, hl, hp, hn⟩ := x; ⟨as, nn, u _ _ hl, paired_imp (fun _ _ z => z.ext u) hp, hn⟩
theorem LLF.ll {env : Env} {h : Heap} {R : Addr} {runs : List (List Int)} (x : LLF env h R runs) : LL h R runs := let ⟨as, nn, hl, hp, _⟩ := x; ⟨as, nn, hl, paired_imp (fun _ _ z => z.1) hp⟩
theorem paired_take {α β : Type} {F : α → β → Prop} : ∀ {l : List α} {m : List β}, Paired F l m → ∀ k, Paired F (l.take k) (m.take k)
  | _, _, .nil, k => by simpa using Paired.nil
  | _, _, .cons _ _, 0 => .nil
  | _, _, .cons x t, k + 1 => .cons x (paired_take t k)
theorem paired_drop {α β : Type} {F : α → β → Prop} : ∀ {l : List α} {m : List β}, Paired F l m → ∀ k, Paired F (l.drop k) (m.drop k)
  | _, _, .nil, k => by simpa using Paired.nil
  | _, _, .cons x t, 0 => .cons x t
  | _, _, .cons x t, k + 1 => paired_drop t k
theorem paired_runs {F : Nat → Value → Prop} {G : Addr → List Int → Prop} {f : Nat → List Int} (h : ∀ i y, F i y → ∃ a, y = .ref a ∧ G a (f i)) : ∀ {l : List Nat} {ys : List Value}, Paired F l ys → ∃ as : List Addr, ys = as.map Value.ref ∧ Paired G as (l.map f)
  | _, _, .nil => ⟨[], rfl, .nil⟩
  | _, _, .cons x t => by
    obtain ⟨a, rfl, g⟩ := h _ _ x
    obtain ⟨as, rfl, p⟩ := paired_runs h t
    exact ⟨a :: as, rfl, .cons g p⟩
theorem range_getD {α : Type} (l : List Int) (f : Int → α) : (List.range l.length).map (fun i => f (l.getD i 0)) = l.map f := by
  apply List.ext_getElem
  · simp
  · intro i h1 h2
    simp at h1
    simp [h1]

section
variable {prog : Program} {w : World} {A : Around} {s : Shared} {mg mb : Str → Option Value} {L a : Addr} {cd : Value} {vm : Str → Option Value}

/-- widths = []; length = 1; for size in sizes: .. -/
theorem law_345 {Sz : Addr} {sizes : List Int} {rest : List Stmt} {Q : Flow → Shared → Prop} (hh : A.handled = none) (K : EnvOk (envL L a cd)) (V : Vars (envL L a cd) s.heap vm) (hS : PF (envL L a cd) s.heap Sz sizes) (vS : vm "sizes" = some (.ref Sz)) (hsz : SzOk sizes)
    (hQ : ∀ h' tk vm' D t, Vars (envL L a cd) h' vm' → Up (FA (envL L a cd)) s.heap h' → PF (envL L a cd) h' D (widthsL sizes) → (∀ y : Str, y ≠ "widths" → y ≠ "length" → y ≠ "size" → vm' y = vm y) → vm' "widths" = some (.ref D) → vm' "length" = some (.int (prodTo sizes sizes.length) t) →
      wpD (model prog w) A (execs rest (envL L a cd)) Q NoE { s with heap := h', toks := tk }) :
    wpD (model prog w) A (execs (stAt dL.body 3 :: stAt dL.body 4 :: stAt dL.body 5 :: rest) (envL L a cd)) Q NoE s := by
  have hline : sizeLine = 2 ^ 24 := sizeLine_eq
  refine xs_any (ex_assign K rfl (wpAny_List (spliced_nil ⟨Nat.zero_le _, ?_⟩)) rfl)
  have m1 := PI.new s.heap (vs := []) .nil
  have e1 := ext_push s.heap { cls := .type "list", data := .seq ([] : List Value).toArray }
  dsimp only
  generalize s.heap.push { cls := .type "list", data := .seq ([] : List Value).toArray } = h₁ at m1 e1 ⊢
  obtain ⟨D, hDd⟩ : ∃ D, D = s.heap.objs.size := ⟨_, rfl⟩
  rw [← hDd] at m1 ⊢
  have hDF : ¬ FA (envL L a cd) D := nfa V (by rw [hDd]; exact Nat.le_refl _)
  refine ⟨_, V.ext e1, fun h₂ tk₂ V₂ U₂ => ⟨rfl, ?_⟩⟩
  refine xs_any (ex_assign K rfl (wpAny_Constant_int ⟨_, V₂, fun h₃ tk₃ V₃ U₃ => ⟨rfl, ?_⟩⟩) rfl)
  dsimp only at V₃ U₃ ⊢
  have U13 : Up (FA (envL L a cd)) s.heap h₃ := (e1.up.trans U₂).trans U₃
  have hD₃ : PI h₃ D [] := (m1.up U₂ hDF).up U₃ hDF
  have hS₃ := hS.up U13
  obtain ⟨vs, n, hl, hi⟩ := id hS₃.1
  have hlen := IntsAre.len hi
  have hSD : Sz ≠ D := by rw [hDd]; exact Nat.ne_of_lt hS.1.lt
  refine xs_next (for_list K rfl hh ?_ (fun _ => rfl))
  have vS₃ : upd (upd vm "widths" (.ref D)) "length" (.int 1 tk₂) "sizes" = some (.ref Sz) := (upd_ne (by decide)).trans ((upd_ne (by decide)).trans vS)
  refine ev_name K V₃ vS₃ rfl ?_ rfl
  refine ⟨Sz, vs.toArray, (fun b => FA (envL L a cd) b ∨ b = D), (fun i vm' h => ((∀ y : Str, y ≠ "widths" → y ≠ "length" → y ≠ "size" → vm' y = vm y) ∧ vm' "widths" = some (.ref D) ∧ ∃ t, vm' "length" = some (.int (prodTo sizes i) t)) ∧ PI h D ((widthsL sizes).take i)), _, rfl, hl.isList, ?_, ?_, fun b hb => .inl hb, V₃, ⟨⟨?_, ?_, ?_⟩, by simpa using hD₃⟩, ?_, ?_, ?_⟩
  · rintro (q | q)
    · exact hS.2 q
    · exact hSD q
  · rintro b (q | rfl)
    · exact fa_lt V₃ q
    · exact hD₃.lt
  · intro y y1 y2 y3; exact (upd_ne y2).trans (upd_ne y1)
  · exact (upd_ne (by decide)).trans (upd_self _ _ _)
  · exact ⟨_, upd_self _ _ _⟩
  · rintro i vm h h' ⟨x, y⟩ k
    exact ⟨x, y.at fun o q => k _ o (.inr rfl) hDF q⟩
  · rintro i v vm₄ h₄ tk₄ hv ⟨⟨x1, x2, t, x3⟩, hD₄⟩ V₄ U₄
    have hi' : i < sizes.length := by
      have := (Array.getElem?_eq_some_iff.mp hv).1
      simpa [hlen] using this
    obtain ⟨u, hu⟩ := ints_at hi i hi'
    have ev : v = .int sizes[i] u := by
      have h2 : vs.toArray[i]? = some (.int sizes[i] u) := by simpa using hu
      rw [hv] at h2; exact Option.some.inj h2
    subst ev
    obtain ⟨s1, s2⟩ := hsz.2 i hi'
    have es : sizes.getD i 0 = sizes[i] := by simp [hi']
    rw [es] at s1 s2
    show wpD (model prog w) A (execs (_ :: _ :: []) (envL L a cd)) _ NoE _
    refine xs_any (ex_assign K rfl (wpAny_BinOp (ev_name K V₄ ((upd_ne (by decide)).trans x3) rfl (ev_name K V₄ (upd_self _ _ _) rfl (PyProof.Rows.mul_int ⟨_, V₄, fun h₅ tk₅ V₅ U₅ => ⟨rfl, ?_⟩⟩ (.of_right (intBits_le_64 (by omega) (by omega)))) rfl) rfl)) rfl)
    show wpD (model prog w) A (execs (_ :: []) (envL L a cd)) _ NoE _
    dsimp only at V₅ U₅ ⊢
    obtain ⟨zs, nz, hlD, hiD⟩ := hD₄.up U₅ hDF
    have hzs := IntsAre.len hiD
    refine xs_any (ex_append K V₅ ((upd_ne (by decide)).trans ((upd_ne (by decide)).trans x2)) rfl rfl ⟨_, _, _, hlD, rfl⟩ rfl rfl rfl rfl ?_ rfl rfl)
    refine ev_name K V₅ (upd_self _ _ _) rfl ⟨_, _, ?_, hlD, fun h₆ n₆ hl₆ hs₆ => ⟨rfl, xs_nil ⟨rfl, h₆, tk₅, _, rfl, V₅.at fun b hb o q => hs₆.extBut b o (fun e => hDF (e ▸ hb)) q, ⟨⟨?_, ?_, ?_⟩, ?_⟩, ?_⟩⟩⟩ rfl
    · simp only [List.length_take] at hzs
      simp [widthsL] at hzs
      have := hsz.1
      simp; omega
    · intro y y1 y2 y3; exact (upd_ne y2).trans ((upd_ne y3).trans (x1 y y1 y2 y3))
    · exact (upd_ne (by decide)).trans ((upd_ne (by decide)).trans x2)
    · rw [prodTo_succ hi']; exact ⟨_, upd_self _ _ _⟩
    · refine ⟨zs ++ [.int (prodTo sizes i * sizes[i]) tk₄], n₆, by simpa using hl₆, ?_⟩
      have hw : (widthsL sizes)[i]? = some (prodTo sizes i * sizes[i]) := by
        rw [← prodTo_succ hi']; simp [widthsL, hi']
      rw [List.take_add_one, hw]
      exact hiD.append (.cons _ _ .nil)
    · exact (U₅.mono fun b hb => .inl hb).trans (Up.of_same hs₆ (.inr rfl))
  · rintro vm₄ h₄ tk₄ ⟨⟨x1, x2, t, x3⟩, hD₄⟩ V₄ U₄
    have hz : vs.toArray.size = sizes.length := by simp [hlen]
    rw [hz] at hD₄ x3
    rw [List.take_of_length_le (by simp [widthsL])] at hD₄
    refine ⟨rfl, hQ h₄ tk₄ vm₄ D t V₄ ?_ ⟨hD₄, hDF⟩ x1 x2 x3⟩
    intro b o hb q
    refine U₄ b o ?_ (U13 b o hb q)
    rintro (z | rfl)
    · exact hb z
    · have := Heap.lt_size q; rw [hDd] at this; exact absurd this (Nat.lt_irrefl _)

/-- runs = [[(x // 4 // 3 ** j + j) % len(widths) for j in range(1 + x % 4)] for x in numbers] -/
theorem law_6 {X Wd : Addr} {ns ws : List Int} {Q : Flow → Shared → Prop} (hh : A.handled = none) (K : EnvOk (envL L a cd)) (G : Gl mg mb s.heap) (V : Vars (envL L a cd) s.heap vm) (hX : PI s.heap X ns) (vX : vm "numbers" = some (.ref X)) (hl : ns.length ≤ 100)
    (hW : PI s.heap Wd ws) (vW : vm "widths" = some (.ref Wd)) (hw1 : 1 ≤ ws.length) (hw2 : ws.length ≤ 100)
    (hQ : ∀ h' tk D, Vars (envL L a cd) h' (upd vm "runs" (.ref D)) → Up (FA (envL L a cd)) s.heap h' → LLF (envL L a cd) h' D (ns.map (runL ws.length)) → Q .next { s with heap := h', toks := tk }) :
    wpAny (model prog w) A (exec (stAt dL.body 6) (envL L a cd)) Q NoE s := by
  have hline : sizeLine = 2 ^ 24 := sizeLine_eq
  refine comp_assign K rfl rfl rfl rfl (by decide) rfl (fun _ => rfl) (by decide) (fun _ => rfl) ?_
  obtain ⟨vs, n, hl1, hi⟩ := id hX
  have hlen := IntsAre.len hi
  refine ev_name K V vX rfl ?_ rfl
  refine ⟨vm, _, _, fun _ => true, fun i y h => ∃ b, y = .ref b ∧ PI h b (runL ws.length (ns.getD i 0)), V, ?_, draw_list hh hl1.isList, ⟨?_, ?_, ?_⟩, ?_⟩
  · simp; omega
  · intro C i v h tk Kc hi hP Vc ec
    exact wpAny_tests_nil ⟨rfl, h, tk, rfl, Ext.refl _⟩
  · intro C i v h tk Kc hi' hP _ Vc ec
    have hi2 : i < ns.length := by simpa [hlen] using hi'
    obtain ⟨u, hu⟩ := ints_at hi i hi2
    have ev : v = .int ns[i] u := by
      have h2 : vs.toArray[i]? = some (.int ns[i] u) := by simpa using hu
      have h1 : vs.toArray[i]? = some v := hP
      rw [h1] at h2; exact Option.some.inj h2
    subst ev
    have eg : ns.getD i 0 = ns[i] := by simp [hi2]
    rw [eg]
    generalize ns[i] = x at Vc ⊢
    have Gc : Gl mg mb h := G.ext ec
    have m0 := fmod_lo (a := x) (b := 4) (by omega)
    have m1 := fmod_hi (a := x) (b := 4) (by omega)
    refine comp_eval Kc rfl rfl (by decide) rfl (fun _ => rfl) (by decide) (fun _ => rfl) ?_
    refine cl_type1 Kc Gc bi_range rfl rfl rfl (wpAny_BinOp (wpAny_Constant_int (wpAny_BinOp (ev_name Kc Vc (upd_self _ _ _) rfl (wpAny_Constant_int (PyProof.Rows.mod_int' (by omega) (PyProof.Rows.add_int ?_))) rfl))))
    refine call_range_1 ?_
    dsimp only
    generalize hh1 : h.push { cls := .type "range", data := .fields #[.int 0 _, .int (1 + x.fmod 4) _, .int 1 _] } = h₁
    have e1 : Ext h h₁ := hh1 ▸ ext_push _ _
    have z1 : h₁.objs.size = h.objs.size + 1 := by rw [← hh1, Heap.size_push]
    refine ⟨_, (1 + x.fmod 4).toNat, _, fun _ => true, fun j y _ => ∃ t, y = .int (((x.fdiv 4).fdiv (3 ^ j) + (j : Int)).fmod (ws.length : Int)) t, Vc.ext e1, by omega, draw_range hh (hh1 ▸ IsRange.new _ _ _ _ _ _ _) (by omega) (by omega), ⟨?_, ?_, ?_⟩, ?_⟩
    · intro C' j v' h' tk' Kc' hj hP' Vc' ec'
      exact wpAny_tests_nil ⟨rfl, h', tk', rfl, Ext.refl _⟩
    · rintro C' j v' h' tk' Kc' hj ⟨t', rfl⟩ - Vc' ec'
      have Gc' : Gl mg mb h' := Gc.ext (e1.trans ec')
      obtain ⟨us, nu, hlW, hiW⟩ := hW.ext (ec.trans (e1.trans ec'))
      have hus := IntsAre.len hiW
      have hj3 : j ≤ 3 := by omega
      have hpow : (3 : Int) ^ j ≤ 27 ∧ 1 ≤ (3 : Int) ^ j := by
        have : j = 0 ∨ j = 1 ∨ j = 2 ∨ j = 3 := by omega
        rcases this with rfl | rfl | rfl | rfl <;> decide
      refine wpAny_BinOp (wpAny_BinOp (wpAny_BinOp (wpAny_BinOp (ev_name Kc' Vc' ((upd_ne (by decide)).trans ((cvm_free rfl).trans (upd_self _ _ _))) rfl (wpAny_Constant_int (PyProof.Rows.floordiv_int (by omega) ?_ (.inl (PyProof.noPylong_small (by omega))))) rfl))))
      refine wpAny_BinOp (wpAny_Constant_int (ev_name Kc' Vc' (upd_self _ _ _) rfl (pow_int_small (by omega) (by omega) (by decide) ?_) rfl))
      rw [show ((j : Int)).toNat = j by omega]
      refine PyProof.Rows.floordiv_int (by omega) ?_ (.inl (PyProof.noPylong_small (by omega)))
      refine ev_name Kc' Vc' (upd_self _ _ _) rfl (PyProof.Rows.add_int ?_) rfl
      refine cl_builtin1 Kc' Gc' bi_len rfl rfl rfl (ev_name Kc' Vc' ((upd_ne (by decide)).trans ((cvm_free rfl).trans ((upd_ne (by decide)).trans ((cvm_free rfl).trans vW)))) rfl (PyProof.Rows.len_list hlW.isList (by simp; omega) ?_) rfl)
      refine PyProof.Rows.mod_int' (by rw [List.size_toArray]; omega) ?_
      refine ⟨⟨h', _, rfl, Ext.refl _, ?_⟩, fun a ha => by cases ha⟩
      rw [← hus]
      exact ⟨_, rfl⟩
    · rintro j y h h' ⟨t, rfl⟩ _; exact ⟨t, rfl⟩
    · intro T h' tk ys nn hT hlT hp ex'
      refine ⟨⟨h', tk, rfl, e1.trans ex', T, rfl, ys, nn, hlT, ?_⟩, ?_⟩
      · have := paired_ints (f := fun (j : Nat) => ((x.fdiv 4).fdiv (3 ^ j) + (j : Int)).fmod (ws.length : Int)) (fun i y z => z.1) hp
        rw [List.filter_eq_self.mpr (by simp)] at this
        exact this
      · intro b hb
        cases hb
        exact Nat.le_trans (by rw [z1]; exact Nat.le_succ _) hT
  · rintro j y h h' ⟨b, rfl, p⟩ k
    exact ⟨b, rfl, p.at fun o q => k b o rfl q⟩
  · intro T h' tk ys nn hT hlT hp V' U'
    obtain ⟨as, rfl, p⟩ := paired_runs (G := fun b r => PF (envL L a cd) h' b r) (f := fun i => runL ws.length (ns.getD i 0)) (fun i y z => by
      obtain ⟨⟨b, rfl, q⟩, r⟩ := z
      exact ⟨b, rfl, q, nfa V (r b rfl)⟩) hp
    refine hQ h' tk T V' U' ⟨as, nn, hlT, ?_, nfa V hT⟩
    rw [List.filter_eq_self.mpr (by simp), show vs.toArray.size = ns.length by simp [hlen], range_getD ns (runL ws.length)] at p
    exact p
end
end Mine

namespace Mine
open Sem (wp)

theorem setL_any {n : Nat} {f : Nat → Bool} {p : Nat} (hp : p < n) : (setL n f).any (· == (p : Int)) = f p := by
  unfold setL
  cases hf : f p with
  | true =>
    rw [List.any_eq_true]
    exact ⟨(p : Int), List.mem_map.mpr ⟨p, List.mem_filter.mpr ⟨List.mem_range.mpr hp, hf⟩, rfl⟩, by simp⟩
  | false =>
    rw [List.any_eq_false]
    intro z hz
    obtain ⟨q, hq, rfl⟩ := List.mem_map.mp hz
    have := (List.mem_filter.mp hq).2
    intro e
    have : q = p := by have := beq_iff_eq.mp e; omega
    subst this
    simp_all
theorem setL_len (n : Nat) (f : Nat → Bool) : (setL n f).length ≤ n := by
  unfold setL
  rw [List.length_map]
  exact Nat.le_trans (List.length_filter_le _ _) (by simp)
def textB (n : Nat) (f : Nat → Bool) : List UInt8 := (List.range n).map fun p => if f p then 1 else 0
def swaps (ws run : List Int) (t : List UInt8) : List UInt8 := run.foldl (fun t k => swapB (ws.getD k.toNat 0).toNat t) t
theorem swapB_len (w : Nat) (t : List UInt8) : (swapB w t).length = t.length := by simp [swapB]
theorem swaps_len (ws : List Int) : ∀ (run : List Int) (t : List UInt8), (swaps ws run t).length = t.length
  | [], _ => rfl
  | k :: r, t => by
    show (swaps ws r (swapB _ t)).length = _
    rw [swaps_len ws r, swapB_len]
theorem swaps_succ {ws run : List Int} {t : List UInt8} {i : Nat} (h : i < run.length) : swaps ws (run.take (i + 1)) t = swapB (ws.getD run[i].toNat 0).toNat (swaps ws (run.take i) t) := by
  unfold swaps
  rw [List.take_add_one, List.getElem?_eq_getElem h, List.foldl_append]; rfl

section
variable {prog : Program} {w : World} {A : Around} {s : Shared} {mg mb : Str → Option Value} {L a : Addr} {cd : Value} {vm : Str → Option Value}

/-- cut = 1 + sum(numbers) // 5 % (len(numbers) - 1) -/
theorem law_7 {X : Addr} {ns : List Int} {Q : Flow → Shared → Prop} (hh : A.handled = none) (K : EnvOk (envL L a cd)) (G : Gl mg mb s.heap) (V : Vars (envL L a cd) s.heap vm) (hX : PI s.heap X ns) (vX : vm "numbers" = some (.ref X)) (hl0 : 2 ≤ ns.length) (hl : ns.length ≤ 100)
    (hQ : ∀ h' tk t, Vars (envL L a cd) h' (upd vm "cut" (.int (cutL ns) t)) → Up (FA (envL L a cd)) s.heap h' → Q .next { s with heap := h', toks := tk }) :
    wpAny (model prog w) A (exec (stAt dL.body 7) (envL L a cd)) Q NoE s := by
  refine ex_assign K rfl ?_ rfl
  refine wpAny_BinOp (wpAny_Constant_int (wpAny_BinOp (wpAny_BinOp (cl_builtin1 K G bi_sum rfl rfl rfl (ev_name K V vX rfl (sum_PI hh hX fun h₁ tk₁ t₁ e₁ => ?_) rfl)))))
  refine wpAny_Constant_int (PyProof.Rows.floordiv_int (by omega) ?_ (.inl (PyProof.noPylong_small (by omega))))
  obtain ⟨vs, n, hl1, hi⟩ := hX.ext e₁
  have hlen := IntsAre.len hi
  refine wpAny_BinOp (cl_builtin1 K (G.ext e₁) bi_len rfl rfl rfl (ev_name K (V.ext e₁) vX rfl (PyProof.Rows.len_list hl1.isList (by simp; omega) ?_) rfl))
  refine wpAny_Constant_int (PyProof.Rows.sub_int (PyProof.Rows.mod_int' (by rw [List.size_toArray]; omega) (PyProof.Rows.add_int ?_)))
  have : cutL ns = 1 + (ns.sum.fdiv 5).fmod ((vs.toArray.size : Int) - 1) := by unfold cutL; rw [← hlen]; rfl
  rw [this] at hQ
  exact ⟨vm, V.ext e₁, fun h₂ tk₂ V₂ U₂ => hQ h₂ tk₂ _ V₂ (e₁.up.trans U₂)⟩

/-- marks = [p for p in range(length) if (numbers[p % len(numbers)] // 3 + p) % 7 in [0, 2, 3]] -/
theorem law_8 {X : Addr} {ns : List Int} {n : Nat} {ln : Int} {tl : Tok} {Q : Flow → Shared → Prop} (hh : A.handled = none) (K : EnvOk (envL L a cd)) (G : Gl mg mb s.heap) (V : Vars (envL L a cd) s.heap vm) (hX : PI s.heap X ns) (vX : vm "numbers" = some (.ref X)) (hl0 : 2 ≤ ns.length) (hl : ns.length ≤ 100)
    (vl : vm "length" = some (.int ln tl)) (hln : ln = n) (hn : n ≤ 60)
    (hQ : ∀ h' tk D, Vars (envL L a cd) h' (upd vm "marks" (.ref D)) → Up (FA (envL L a cd)) s.heap h' → PF (envL L a cd) h' D (setL n (markB ns)) → Q .next { s with heap := h', toks := tk }) :
    wpAny (model prog w) A (exec (stAt dL.body 8) (envL L a cd)) Q NoE s := by
  have hline : sizeLine = 2 ^ 24 := sizeLine_eq
  refine comp_assign K rfl rfl rfl rfl (by decide) rfl (fun _ => rfl) (by decide) (fun _ => rfl) ?_
  refine cl_type1 K G bi_range rfl rfl rfl (ev_name K V vl rfl (call_range_1 ?_) rfl)
  dsimp only
  generalize hh1 : s.heap.push { cls := .type "range", data := .fields #[.int 0 _, .int ln _, .int 1 _] } = h₁
  have e1 : Ext s.heap h₁ := hh1 ▸ ext_push _ _
  refine ⟨vm, n, _, markB ns, fun i y _ => ∃ t, y = .int (i : Int) t, V.ext e1, by omega, draw_range hh (hh1 ▸ IsRange.new _ _ _ _ _ _ _) hln (by omega), ⟨?_, ?_, ?_⟩, ?_⟩
  · rintro C i v h tk Kc hi ⟨t, rfl⟩ Vc ec
    obtain ⟨vs, nn, hl1, hiX⟩ := hX.ext (e1.trans ec)
    have hlen := IntsAre.len hiX
    have Gc := G.ext (e1.trans ec)
    refine wpAny_tests_one (wpAny_isTrue_Compare1 (wpAny_BinOp (wpAny_BinOp (wpAny_BinOp (ev_item Kc Vc ((upd_ne (by decide)).trans ((cvm_free rfl).trans vX)) rfl rfl (fun _ _ => rfl) ?_)))))
    refine wpAny_BinOp (ev_name Kc Vc (upd_self _ _ _) rfl (cl_builtin1 Kc Gc bi_len rfl rfl rfl (ev_name Kc Vc ((upd_ne (by decide)).trans ((cvm_free rfl).trans vX)) rfl (PyProof.Rows.len_list hl1.isList (by simp; omega) ?_) rfl)) rfl)
    have m0 := fmod_lo (a := (i : Int)) (b := (ns.length : Int)) (by omega)
    have m1 := fmod_hi (a := (i : Int)) (b := (ns.length : Int)) (by omega)
    have hsz : ((vs.toArray.size : Nat) : Int) = (ns.length : Int) := by simp [hlen]
    rw [hsz]
    refine PyProof.Rows.mod_int' (by omega) ⟨_, _, ns, rfl, hX.ext (e1.trans ec), m0, by omega, by omega, fun t' => ?_⟩
    refine wpAny_Constant_int (PyProof.Rows.floordiv_int (by omega) ?_ (.inl (PyProof.noPylong_small (by omega))))
    refine ev_name Kc Vc (upd_self _ _ _) rfl (PyProof.Rows.add_int ?_) rfl
    refine wpAny_Constant_int (PyProof.Rows.mod_int' (by omega) ?_)
    refine wpAny_List ?_
    show wpAny (model prog w) A (spliced [(false, eval _ _), (false, eval _ _), (false, eval _ _)]) _ _ _
    refine spliced_cons (wpAny_Constant_int (spliced_cons (wpAny_Constant_int (spliced_cons (wpAny_Constant_int (spliced_nil ⟨by simp; omega, ?_⟩))))))
    dsimp only
    refine in_list_ints (IsL.new h _).isList (.cons _ _ (.cons _ _ (.cons _ _ .nil))) (wpAny_truthy_bool ?_)
    exact ⟨rfl, _, _, rfl, ext_push _ _⟩
  · rintro C i v h tk Kc hi ⟨t, rfl⟩ - Vc ec
    exact ev_name Kc Vc (upd_self _ _ _) rfl ⟨⟨h, tk, rfl, Ext.refl _, t, rfl⟩, fun a ha => by cases ha⟩ rfl
  · rintro j y h h' ⟨t, rfl⟩ _; exact ⟨t, rfl⟩
  · intro D h' tk ys nn hD hlD hp V' U'
    exact hQ h' tk D V' (e1.up.trans U') ⟨⟨ys, nn, hlD, paired_ints (fun i y z => z.1) hp⟩, nfa (V.ext e1) hD⟩

abbrev partB : List Stmt := forBody (stAt dL.body 11)
abbrev runB : List Stmt := forBody (stAt partB 1)

/-- text = bytes([1 if p in now else 0 for p in range(length)]) -/
theorem run_0 {Nw : Addr} {n : Nat} {f : Nat → Bool} {ln : Int} {tl : Tok} {Q : Flow → Shared → Prop} (hh : A.handled = none) (K : EnvOk (envL L a cd)) (G : Gl mg mb s.heap) (V : Vars (envL L a cd) s.heap vm) (hN : PI s.heap Nw (setL n f)) (vN : vm "now" = some (.ref Nw))
    (vl : vm "length" = some (.int ln tl)) (hln : ln = n) (hn : n ≤ 60)
    (hQ : ∀ h' tk t, Vars (envL L a cd) h' (upd vm "text" (.bytes (textB n f).toArray t)) → Up (FA (envL L a cd)) s.heap h' → Q .next { s with heap := h', toks := tk }) :
    wpAny (model prog w) A (exec (stAt runB 0) (envL L a cd)) Q NoE s := by
  have hline : sizeLine = 2 ^ 24 := sizeLine_eq
  refine ex_assign K rfl ?_ rfl
  refine cl_type1 K G bi_bytes rfl rfl rfl ?_
  refine comp_eval K rfl rfl (by decide) rfl (fun _ => rfl) (by decide) (fun _ => rfl) ?_
  refine cl_type1 K G bi_range rfl rfl rfl (ev_name K V vl rfl (call_range_1 ?_) rfl)
  dsimp only
  generalize hh1 : s.heap.push { cls := .type "range", data := .fields #[.int 0 _, .int ln _, .int 1 _] } = h₁
  have e1 : Ext s.heap h₁ := hh1 ▸ ext_push _ _
  refine ⟨vm, n, _, fun _ => true, fun i y _ => ∃ t, y = .int (if f i then 1 else 0) t, V.ext e1, by omega, draw_range hh (hh1 ▸ IsRange.new _ _ _ _ _ _ _) hln (by omega), ⟨?_, ?_, ?_⟩, ?_⟩
  · intro C i v h tk Kc hi hP Vc ec
    exact wpAny_tests_nil ⟨rfl, h, tk, rfl, Ext.refl _⟩
  · rintro C i v h tk Kc hi ⟨t, rfl⟩ - Vc ec
    obtain ⟨vs, nn, hl1, hiX⟩ := hN.ext (e1.trans ec)
    refine wpAny_IfExp (wpAny_isTrue_Compare1 (ev_name Kc Vc (upd_self _ _ _) rfl (ev_name Kc Vc ((upd_ne (by decide)).trans ((cvm_free rfl).trans vN)) rfl (in_list_ints hl1.isList hiX (wpAny_truthy_bool ?_)) rfl) rfl))
    rw [setL_any hi]
    cases f i with
    | true =>
      rw [if_pos rfl]
      exact wpAny_Constant_int ⟨⟨h, _, rfl, Ext.refl _, _, rfl⟩, fun a ha => by cases ha⟩
    | false =>
      rw [if_neg (by decide)]
      exact wpAny_Constant_int ⟨⟨h, _, rfl, Ext.refl _, _, rfl⟩, fun a ha => by cases ha⟩
  · rintro j y h h' ⟨t, rfl⟩ _; exact ⟨t, rfl⟩
  · intro D h' tk ys nn hD hlD hp ex
    have hi := paired_ints (f := fun i => if f i then (1 : Int) else 0) (fun i y z => z.1) hp
    rw [List.filter_eq_self.mpr (by simp)] at hi
    have hlen := IntsAre.len hi
    refine call_bytes_ints hlD.isList hi ?_ (by simp at hlen; omega) hh fun h₂ t k hk => ?_
    · intro z hz
      obtain ⟨q, _, rfl⟩ := List.mem_map.mp hz
      split <;> omega
    have eb : byteArr ((List.range n).map fun i => if f i then (1 : Int) else 0) = (textB n f).toArray := by
      unfold byteArr textB
      rw [List.map_map]
      congr 1
      apply List.map_congr_left
      intro p _
      show (if f p then (1 : Int) else 0).toNat.toUInt8 = _
      cases f p <;> rfl
    rw [eb]
    have ex2 : Ext s.heap h₂ := (e1.trans ex).trans hk
    exact ⟨vm, V.ext ex2, fun h₃ tk₃ V₃ U₃ => hQ h₃ tk₃ t V₃ (ex2.up.trans U₃)⟩
end
end Mine

namespace Mine
open Sem (wp)

/-- what _byteswap is asked -/
def WOk (ws : List Int) (n : Nat) : Prop := ∀ k, k < ws.length → ∃ W : Nat, ws.getD k 0 = W ∧ 0 < W ∧ W ≤ 1000 ∧ W ∣ n
def RunOk (m : Nat) (run : List Int) : Prop := run.length ≤ 100 ∧ m ≤ 100 ∧ ∀ k ∈ run, 0 ≤ k ∧ k < m

section
variable {prog : Program} {w : World} {A : Around} {s : Shared} {mg mb : Str → Option Value} {L a : Addr} {cd : Value} {vm : Str → Option Value}

/-- for k in run: text = _byteswap(text, widths[k]) -/
theorem run_1 {aB Rn Wd : Addr} {run ws : List Int} {n : Nat} {t0 : List UInt8} {tt : Tok} {Q : Flow → Shared → Prop} (hh : A.handled = none) (hg : A.guards = some []) (hroom : A.depth < recursionLimit) (K : EnvOk (envL L a cd))
    {g : Heap} (eg : Ext g s.heap) (Gg : Gl mg mb g) (hfg : FnAt mg g dB aB) (hF : ∀ b, FA (envL L a cd) b → g.objs.size ≤ b)
    (V : Vars (envL L a cd) s.heap vm) (hR : PF (envL L a cd) s.heap Rn run) (vR : vm "run" = some (.ref Rn)) (hW : PF (envL L a cd) s.heap Wd ws) (vW : vm "widths" = some (.ref Wd)) (vT : vm "text" = some (.bytes t0.toArray tt)) (ht : t0.length = n) (hn : n ≤ 60)
    (hro : RunOk ws.length run) (hwo : WOk ws n)
    (hQ : ∀ h' tk vm' t, Vars (envL L a cd) h' vm' → Up (FA (envL L a cd)) s.heap h' → (∀ y : Str, y ≠ "text" → y ≠ "k" → vm' y = vm y) → vm' "text" = some (.bytes (swaps ws run t0).toArray t) → Q .next { s with heap := h', toks := tk }) :
    wpD (model prog w) A (exec (stAt runB 1) (envL L a cd)) Q NoE s := by
  have hline : sizeLine = 2 ^ 24 := sizeLine_eq
  obtain ⟨vs, nn, hl, hi⟩ := id hR.1
  have hlen := IntsAre.len hi
  refine for_list K rfl hh ?_ (fun _ => rfl)
  refine ev_name K V vR rfl ?_ rfl
  refine ⟨Rn, vs.toArray, FA (envL L a cd), (fun i vm' h => (∀ y : Str, y ≠ "text" → y ≠ "k" → vm' y = vm y) ∧ ∃ t, vm' "text" = some (.bytes (swaps ws (run.take i) t0).toArray t)), vm, rfl, hl.isList, hR.2, fun b hb => fa_lt V hb, fun b hb => hb, V, ⟨fun _ _ _ => rfl, tt, vT⟩, ?_, ?_, ?_⟩
  · rintro i vm h h' x _; exact x
  · rintro i v vm₁ h₁ tk₁ hv ⟨hold, t1, vT₁⟩ V₁ U₁
    have hi' : i < run.length := by
      have := (Array.getElem?_eq_some_iff.mp hv).1
      simpa [hlen] using this
    obtain ⟨u, hu⟩ := ints_at hi i hi'
    have ev : v = .int run[i] u := by
      have h2 : vs.toArray[i]? = some (.int run[i] u) := by simpa using hu
      rw [hv] at h2; exact Option.some.inj h2
    subst ev
    obtain ⟨k0, k1⟩ := hro.2.2 run[i] (List.getElem_mem _)
    obtain ⟨W, hW1, hW2, hW3, hW4⟩ := hwo run[i].toNat (by omega)
    have eg₁ : Ext g h₁ := eg.after U₁ hF
    have G₁ := Gg.ext eg₁
    have hf₁ := hfg.ext eg₁
    obtain ⟨_, o, pm, cd', doc, ho, hdata, _⟩ := id hf₁
    have hwl := hro.2.1
    show wpD (model prog w) A (execs (_ :: []) (envL L a cd)) _ NoE _
    refine xs_next (D_assign K rfl ?_ rfl)
    refine D_cl_fn (o := o) (fd := docDef dB.name dB.params dB.body dB.scope pm cd' doc) K G₁ hf₁.1 rfl rfl ⟨_, rfl⟩ rfl ?_
    show wpAny (model prog w) A (spliced [(false, eval _ _), (false, eval _ _)]) _ _ _
    refine spliced_cons (ev_name K V₁ ((upd_ne (by decide)).trans vT₁) rfl (spliced_cons (ev_item K V₁ ((upd_ne (by decide)).trans ((hold _ (by decide) (by decide)).trans vW)) rfl rfl (fun _ _ => rfl)
      (ev_name K V₁ (upd_self _ _ _) rfl ⟨_, _, ws, rfl, (hW.up U₁).1, k0, by omega, by omega, fun t' => spliced_nil ?_⟩ rfl))) rfl)
    refine ⟨⟨ho, hdata⟩, ?_⟩
    refine bs_call (W := W) hh hg hroom G₁ hf₁ hW1 hW2 hW3 (by rw [swaps_len, ht]; exact hW4) (by rw [swaps_len, ht]; omega) fun h₂ tk₂ t₂ e₂ => ?_
    refine ⟨_, V₁.ext e₂, fun h₃ tk₃ V₃ U₃ => ⟨rfl, xs_nil ⟨rfl, h₃, tk₃, _, rfl, V₃, ⟨fun y y1 y2 => (upd_ne y1).trans ((upd_ne y2).trans (hold y y1 y2)), t₂, ?_⟩, e₂.up.trans U₃⟩⟩⟩
    rw [swaps_succ hi', hW1]
    exact upd_self _ _ _
  · rintro vm₁ h₁ tk₁ ⟨hold, t1, vT₁⟩ V₁ U₁
    have hz : vs.toArray.size = run.length := by simp [hlen]
    rw [hz, List.take_of_length_le (Nat.le_refl _)] at vT₁
    exact hQ h₁ tk₁ vm₁ t1 V₁ U₁ hold vT₁
end

theorem setL_rise (n : Nat) (f : Nat → Bool) : rise (setL n f) := by
  unfold rise setL
  rw [List.pairwise_map]
  refine List.Pairwise.imp ?_ (List.Pairwise.filter _ List.pairwise_lt_range)
  intro x y h
  omega
theorem frs_one (L a : Addr) (cd : Value) (b : Addr) : b ∈ frs [envL L a cd] → b = L := by
  intro h
  have : b ∈ [L] := h
  simpa using this
theorem after_slots {env : Env} {L : Addr} (hL : env.locals = L) {h h' : Heap} {vm : Str → Option Value} {S : List Addr} (hS : ∀ b, b ∈ S → b = L) (V : Vars env h vm) (o1 : ∀ b o, h.get? b = some o → b ∉ S → h'.get? b = some o)
    (o2 : ∀ b o, h.get? b = some o → b ∈ S → ∃ sl, h'.get? b = some { o with slots := sl }) : Vars env h' vm ∧ Up (FA env) h h' := by
  refine ⟨V.slots fun b o hb _ => ?_, fun b o hb q => o1 b o q fun z => hb (.inl ((hS b z).trans hL.symm))⟩
  by_cases hz : b ∈ S
  · exact o2 b o hb hz
  · exact ⟨o.slots, o1 b o hb hz⟩

section
variable {M : Model} {A : Around} {E : Value → Shared → Prop} {s : Shared} {env : Env}
theorem D_assign_t {t value : Expr} {pos : Pos} {Q : Flow → Shared → Prop} (h : wpD M A (eval value env) (fun v s₁ => wpAny M A (assign t env v) (fun _ => Q .next) E s₁) E s)
    (hs : swapsWithSole [t] value pos.line env = pure false) (hw : swappedStores [t] value env = pure none) (he : (assignEach [t] env).map (·.2) = [assign t env]) : wpD M A (exec (.Assign [t] value pos) env) Q E s := by
  rw [exec_Assign_arm]
  refine wpD_bind (wpD_standAt ?_)
  rw [hs]
  refine wpD_bind (wpD_pure ?_)
  rw [if_neg (by decide)]
  refine wpD_bind (wpD_mono h (fun v s₁ h₁ => ?_) fun _ _ x => x)
  rw [hw]
  refine wpD_bind (wpD_pure ?_)
  show wpD M A (do assignAll v ((assignEach [t] env).map (·.2)); pure .next) Q E s₁
  rw [he]
  exact wpD_bind (wpD_of_any (wpAny_mono h₁ (fun _ _ x => wpD_pure x) fun _ _ x => x))
end

section
variable {prog : Program} {w : World} {A : Around} {s : Shared} {mg mb : Str → Option Value} {L a : Addr} {cd : Value} {vm : Str → Option Value}
/-- missing, unexpected = sorted_list_difference(total, [p for p in range(length) if text[p] == 1]) -/
theorem run_2 {aS Tt : Addr} {n : Nat} {F : Nat → Bool} {t0 : List UInt8} {tt : Tok} {ln : Int} {tl : Tok} {Q : Flow → Shared → Prop} (hh : A.handled = none) (hfr : A.frames = some [envL L a cd]) (hroom : A.depth < recursionLimit) (K : EnvOk (envL L a cd)) (G : Gl mg mb s.heap) (hf : FnAt mg s.heap dS aS)
    (V : Vars (envL L a cd) s.heap vm) (hT : PF (envL L a cd) s.heap Tt (setL n F)) (vT : vm "total" = some (.ref Tt)) (vx : vm "text" = some (.bytes t0.toArray tt)) (ht : t0.length = n) (hn : n ≤ 60) (vl : vm "length" = some (.int ln tl)) (hln : ln = n)
    (hQ : ∀ h' tk M U, Vars (envL L a cd) h' (upd (upd vm "missing" (.ref M)) "unexpected" (.ref U)) → Up (FA (envL L a cd)) s.heap h' → PF (envL L a cd) h' M (sd (setL n F) (setL n fun p => (((t0.getD p 0).toNat : Nat) : Int) == 1)).1 →
      PF (envL L a cd) h' U (sd (setL n F) (setL n fun p => (((t0.getD p 0).toNat : Nat) : Int) == 1)).2 → Q .next { s with heap := h', toks := tk }) :
    wpD (model prog w) A (exec (stAt runB 2) (envL L a cd)) Q NoE s := by
  have hline : sizeLine = 2 ^ 24 := sizeLine_eq
  refine D_assign_t ?_ rfl rfl rfl
  obtain ⟨_, o, pm, cd', doc, ho, hdata, _⟩ := id hf
  refine D_cl_fn (o := o) (fd := docDef dS.name dS.params dS.body dS.scope pm cd' doc) K G hf.1 rfl rfl ⟨_, rfl⟩ rfl ?_
  show wpAny (model prog w) A (spliced [(false, eval _ _), (false, eval _ _)]) _ _ _
  refine spliced_cons (ev_name K V vT rfl (spliced_cons ?_) rfl)
  refine comp_eval K rfl rfl (by decide) rfl (fun _ => rfl) (by decide) (fun _ => rfl) ?_
  refine cl_type1 K G bi_range rfl rfl rfl (ev_name K V vl rfl (call_range_1 ?_) rfl)
  dsimp only
  generalize hh1 : s.heap.push { cls := .type "range", data := .fields #[.int 0 _, .int ln _, .int 1 _] } = h₁
  have e1 : Ext s.heap h₁ := hh1 ▸ ext_push _ _
  refine ⟨vm, n, _, (fun p => (((t0.getD p 0).toNat : Nat) : Int) == 1), fun i y _ => ∃ t, y = .int (i : Int) t, V.ext e1, by omega, draw_range hh (hh1 ▸ IsRange.new _ _ _ _ _ _ _) hln (by omega), ⟨?_, ?_, ?_⟩, ?_⟩
  · rintro C i v h tk Kc hi ⟨t, rfl⟩ Vc ec
    refine wpAny_tests_one (wpAny_isTrue_Compare1 (ev_sub FB.slot_bytes_getitem.lookup ?_ (fun _ _ => rfl) (fun _ _ => rfl)))
    refine ev_name Kc Vc ((upd_ne (by decide)).trans ((cvm_free rfl).trans vx)) rfl (ev_name Kc Vc (upd_self _ _ _) rfl ⟨PySem.W.typeIs_bytes _ _ _, ?_⟩ rfl) rfl
    refine getItem_bytes (by omega) (by omega) (by omega) (wpAny_Constant_int (PyProof.Rows.eq_int (wpAny_truthy_bool ?_)))
    exact ⟨rfl, h, _, rfl, Ext.refl _⟩
  · rintro C i v h tk Kc hi ⟨t, rfl⟩ - Vc ec
    exact ev_name Kc Vc (upd_self _ _ _) rfl ⟨⟨h, tk, rfl, Ext.refl _, t, rfl⟩, fun a ha => by cases ha⟩ rfl
  · rintro j y h h' ⟨t, rfl⟩ _; exact ⟨t, rfl⟩
  · intro D h' tk ys nn hD hlD hp ex
    have hDp : PI h' D (setL n fun p => (((t0.getD p 0).toNat : Nat) : Int) == 1) := ⟨ys, nn, hlD, paired_ints (fun i y z => z.1) hp⟩
    have ex2 : Ext s.heap h' := e1.trans ex
    have V' := V.ext ex2
    have hDn : ¬ FA (envL L a cd) D := nfa (V.ext e1) hD
    refine spliced_nil ⟨⟨ex2 _ _ ho, hdata⟩, ?_⟩
    have hfun : h'.FunFrames {} [envL L a cd] := by
      obtain ⟨m, hm, _⟩ := V'.loc
      exact Heap.FunFrames.cons (by rw [K.kind]; decide) rfl hm rfl trivial
    refine sl_call (s := { s with heap := h', toks := tk }) hh hfr hfun hroom (G.ext ex2) (hf.ext ex2) (hT.ext ex2).1 hDp (fun q => hT.2 (.inl (frs_one _ _ _ _ q))) (fun q => hDn (.inl (frs_one _ _ _ _ q))) (setL_rise _ _) (setL_rise _ _) (Nat.le_trans (setL_len _ _) (by omega)) (Nat.le_trans (setL_len _ _) (by omega)) ?_
    intro h₂ tk₂ T M U o1 o2 pM pU hT₂ zM zU
    obtain ⟨V₂, U₂⟩ := after_slots (L := L) rfl (frs_one L a cd) V' o1 o2
    have nM : ¬ FA (envL L a cd) M := nfa V' zM
    have nU : ¬ FA (envL L a cd) U := nfa V' zU
    refine wpAny_assign_Tuple hh (items := #[.ref M, .ref U]) ⟨_, hT₂, rfl, _, rfl⟩ rfl rfl fun h₃ e₃ => ?_
    have e₃' : Ext h₂ h₃ := fun b o q => e₃ b o (Nat.ne_of_lt (Heap.lt_size q)) q
    show wpAny (model prog w) A (assignInOrder [assign _ _, assign _ _] [_, _]) _ _ _
    refine wpAny_assignInOrder_more (as_name K (V₂.ext e₃') rfl fun h₄ tk₄ V₄ U₄ => wpAny_assignInOrder_more (as_name K V₄ rfl fun h₅ tk₅ V₅ U₅ => wpAny_assignInOrder_none ?_))
    refine hQ h₅ tk₅ M U V₅ ?_ ⟨((pM.ext e₃').up U₄ nM).up U₅ nM, nM⟩ ⟨((pU.ext e₃').up U₄ nU).up U₅ nU, nU⟩
    exact ((ex2.up.trans U₂).trans (e₃'.up.trans U₄)).trans U₅
end
end Mine

namespace Mine
open Sem (wp)

theorem rise_tail {x : Int} {l : List Int} (h : rise (x :: l)) : rise l := (List.pairwise_cons.mp h).2
theorem rise_head {x : Int} {l : List Int} (h : rise (x :: l)) : ∀ z ∈ l, x < z := (List.pairwise_cons.mp h).1
theorem sd_mem : ∀ (n : Nat) (xs ys : List Int), xs.length + ys.length ≤ n → rise xs → rise ys →
    (∀ z, z ∈ (sd xs ys).1 ↔ z ∈ xs ∧ z ∉ ys) ∧ (∀ z, z ∈ (sd xs ys).2 ↔ z ∈ ys ∧ z ∉ xs) ∧ rise (sd xs ys).2
  | _, [], ys, _, _, hy => by rw [sd_nil_left]; exact ⟨by simp, by simp, hy⟩
  | _, x :: xs, [], _, _, _ => by rw [sd_nil_right]; exact ⟨by simp, by simp, List.Pairwise.nil⟩
  | 0, x :: xs, y :: ys, h, _, _ => by simp at h
  | n + 1, x :: xs, y :: ys, h, hx, hy => by
    simp only [List.length_cons] at h
    rw [sd_cons]
    split
    · rename_i hlt
      obtain ⟨i1, i2, i3⟩ := sd_mem n xs (y :: ys) (by simp only [List.length_cons]; omega) (rise_tail hx) hy
      have nx : x ∉ y :: ys := by
        intro q
        rcases List.mem_cons.mp q with q | q
        · omega
        · have := rise_head hy x q; omega
      refine ⟨fun z => ?_, fun z => ?_, i3⟩
      · simp only [List.mem_cons (a := z) (b := x)]
        constructor
        · rintro (rfl | q)
          · exact ⟨.inl rfl, nx⟩
          · exact ⟨.inr ((i1 z).mp q).1, ((i1 z).mp q).2⟩
        · rintro ⟨rfl | q, r⟩
          · exact .inl rfl
          · exact .inr ((i1 z).mpr ⟨q, r⟩)
      · constructor
        · intro q
          refine ⟨((i2 z).mp q).1, fun r => ?_⟩
          rcases List.mem_cons.mp r with rfl | r
          · exact nx ((i2 z).mp q).1
          · exact ((i2 z).mp q).2 r
        · rintro ⟨q, r⟩
          exact (i2 z).mpr ⟨q, fun s => r (List.mem_cons_of_mem _ s)⟩
    · rename_i hnlt
      split
      · rename_i hlt
        obtain ⟨i1, i2, i3⟩ := sd_mem n (x :: xs) ys (by simp only [List.length_cons]; omega) hx (rise_tail hy)
        have ny : y ∉ x :: xs := by
          intro q
          rcases List.mem_cons.mp q with q | q
          · omega
          · have := rise_head hx y q; omega
        refine ⟨fun z => ?_, fun z => ?_, List.pairwise_cons.mpr ⟨fun z hz => rise_head hy z ((i2 z).mp hz).1, i3⟩⟩
        · constructor
          · intro q
            refine ⟨((i1 z).mp q).1, fun r => ?_⟩
            rcases List.mem_cons.mp r with rfl | r
            · exact ny ((i1 z).mp q).1
            · exact ((i1 z).mp q).2 r
          · rintro ⟨q, r⟩
            exact (i1 z).mpr ⟨q, fun s => r (List.mem_cons_of_mem _ s)⟩
        · simp only [List.mem_cons (a := z) (b := y)]
          constructor
          · rintro (rfl | q)
            · exact ⟨.inl rfl, ny⟩
            · exact ⟨.inr ((i2 z).mp q).1, ((i2 z).mp q).2⟩
          · rintro ⟨rfl | q, r⟩
            · exact .inl rfl
            · exact .inr ((i2 z).mpr ⟨q, r⟩)
      · rename_i hnlt2
        have exy : x = y := by omega
        subst exy
        obtain ⟨i1, i2, i3⟩ := sd_mem n xs ys (by omega) (rise_tail hx) (rise_tail hy)
        refine ⟨fun z => ?_, fun z => ?_, i3⟩
        · constructor
          · intro q
            refine ⟨List.mem_cons_of_mem _ ((i1 z).mp q).1, fun r => ?_⟩
            rcases List.mem_cons.mp r with rfl | r
            · have := rise_head hx z ((i1 z).mp q).1; omega
            · exact ((i1 z).mp q).2 r
          · rintro ⟨q, r⟩
            rcases List.mem_cons.mp q with rfl | q
            · exact absurd List.mem_cons_self r
            · exact (i1 z).mpr ⟨q, fun s => r (List.mem_cons_of_mem _ s)⟩
        · constructor
          · intro q
            refine ⟨List.mem_cons_of_mem _ ((i2 z).mp q).1, fun r => ?_⟩
            rcases List.mem_cons.mp r with rfl | r
            · have := rise_head hy z ((i2 z).mp q).1; omega
            · exact ((i2 z).mp q).2 r
          · rintro ⟨q, r⟩
            rcases List.mem_cons.mp q with rfl | q
            · exact absurd List.mem_cons_self r
            · exact (i2 z).mpr ⟨q, fun s => r (List.mem_cons_of_mem _ s)⟩
theorem rise_nodup {l : List Int} (h : rise l) : l.Nodup := by
  unfold List.Nodup
  exact List.Pairwise.imp (fun h => by omega) h
theorem setL_mem {n : Nat} {f : Nat → Bool} {z : Int} : z ∈ setL n f ↔ ∃ p, p < n ∧ f p = true ∧ z = (p : Int) := by
  unfold setL
  rw [List.mem_map]
  constructor
  · rintro ⟨p, hp, rfl⟩
    have := List.mem_filter.mp hp
    exact ⟨p, List.mem_range.mp this.1, this.2, rfl⟩
  · rintro ⟨p, h1, h2, rfl⟩
    exact ⟨p, List.mem_filter.mpr ⟨List.mem_range.mpr h1, h2⟩, rfl⟩
theorem xor_sorted {n : Nat} {F g : Nat → Bool} {ns' : List Int} (hp : ns'.Perm ((setL n F).filter (fun z => (sd (setL n F) (setL n g)).1.any (· == z)) ++ (sd (setL n F) (setL n g)).2)) (hs : ns'.Pairwise (· ≤ ·)) :
    ns' = setL n fun p => F p ^^ g p := by
  obtain ⟨m1, m2, m3⟩ := sd_mem _ (setL n F) (setL n g) (Nat.le_refl _) (setL_rise n F) (setL_rise n g)
  refine List.Perm.eq_of_pairwise (fun a b _ _ h1 h2 => by omega) hs (List.Pairwise.imp (fun h => by omega) (setL_rise n _)) (hp.trans ?_)
  refine (List.perm_ext_iff_of_nodup ?_ (rise_nodup (setL_rise n _))).mpr ?_
  · rw [List.nodup_append]
    refine ⟨List.Pairwise.filter _ (rise_nodup (setL_rise n F)), rise_nodup m3, ?_⟩
    rintro x hx y hy rfl
    exact ((m2 x).mp hy).2 (List.mem_filter.mp hx).1
  · intro z
    rw [List.mem_append, List.mem_filter]
    have e1 : ((sd (setL n F) (setL n g)).1.any (· == z)) = true ↔ z ∈ setL n F ∧ z ∉ setL n g := by
      rw [← m1 z, List.any_eq_true]
      constructor
      · rintro ⟨y, hy, e⟩; rw [← beq_iff_eq.mp e]; exact hy
      · intro h; exact ⟨z, h, by simp⟩
    rw [e1, m2 z, setL_mem, setL_mem, setL_mem]
    constructor
    · rintro (⟨⟨p, h1, h2, rfl⟩, _, h3⟩ | ⟨⟨p, h1, h2, rfl⟩, h3⟩)
      · refine ⟨p, h1, ?_, rfl⟩
        cases hg : g p with
        | false => simp [h2]
        | true => exact absurd ⟨p, h1, hg, rfl⟩ h3
      · refine ⟨p, h1, ?_, rfl⟩
        cases hF : F p with
        | false => simp [h2]
        | true => exact absurd ⟨p, h1, hF, rfl⟩ h3
    · rintro ⟨p, h1, h2, rfl⟩
      cases hF : F p with
      | true =>
        have hg : g p = false := by rw [hF] at h2; simpa using h2
        have n1 : ¬ ∃ q, q < n ∧ g q = true ∧ (p : Int) = q := by
          rintro ⟨q, _, h4, e⟩
          have : p = q := by omega
          subst this
          rw [hg] at h4; cases h4
        exact .inl ⟨⟨p, h1, hF, rfl⟩, ⟨p, h1, hF, rfl⟩, n1⟩
      | false =>
        have hg : g p = true := by rw [hF] at h2; simpa using h2
        refine .inr ⟨⟨p, h1, hg, rfl⟩, ?_⟩
        rintro ⟨q, _, h4, e⟩
        have : p = q := by omega
        subst this
        rw [hF] at h4; cases h4

section
variable {prog : Program} {w : World} {A : Around} {s : Shared} {mg mb : Str → Option Value} {L a : Addr} {cd : Value} {vm : Str → Option Value}
/-- total = sorted([p for p in total if p in missing] + unexpected) -/
theorem run_3 {Tt M U : Addr} {ts ms us : List Int} {Q : Flow → Shared → Prop} (hh : A.handled = none) (K : EnvOk (envL L a cd)) (G : Gl mg mb s.heap)
    (V : Vars (envL L a cd) s.heap vm) (hT : PI s.heap Tt ts) (vT : vm "total" = some (.ref Tt)) (hM : PI s.heap M ms) (vM : vm "missing" = some (.ref M)) (hU : PI s.heap U us) (vU : vm "unexpected" = some (.ref U)) (hlt : ts.length ≤ 1000) (hl2 : (ts.filter fun z => ms.any (· == z)).length + us.length < 64)
    (hQ : ∀ h' tk D ns', Vars (envL L a cd) h' (upd vm "total" (.ref D)) → Up (FA (envL L a cd)) s.heap h' → PF (envL L a cd) h' D ns' → s.heap.objs.size ≤ D → ns'.Perm (ts.filter (fun z => ms.any (· == z)) ++ us) → ns'.Pairwise (· ≤ ·) → Q .next { s with heap := h', toks := tk }) :
    wpAny (model prog w) A (exec (stAt runB 3) (envL L a cd)) Q NoE s := by
  have hline : sizeLine = 2 ^ 24 := sizeLine_eq
  refine ex_assign K rfl ?_ rfl
  refine cl_builtin1 K G bi_sorted rfl rfl rfl (wpAny_BinOp ?_)
  refine comp_eval K rfl rfl (by decide) rfl (fun _ => rfl) (by decide) (fun _ => rfl) ?_
  obtain ⟨vs, n, hl1, hi⟩ := id hT
  have hlen := IntsAre.len hi
  refine ev_name K V vT rfl ?_ rfl
  have hval : ∀ i v, i < vs.toArray.size → vs.toArray[i]? = some v → ∃ u, v = .int (ts.getD i 0) u := by
    intro i v h1 h2
    have hi' : i < ts.length := by simpa [hlen] using h1
    obtain ⟨u, hu⟩ := ints_at hi i hi'
    have h3 : vs.toArray[i]? = some (.int ts[i] u) := by simpa using hu
    rw [h2] at h3
    exact ⟨u, by rw [Option.some.inj h3]; simp [hi']⟩
  refine ⟨vm, _, _, (fun i => ms.any (· == ts.getD i 0)), fun i y _ => ∃ t, y = .int (ts.getD i 0) t, V, by simp; omega, draw_list hh hl1.isList, ⟨?_, ?_, ?_⟩, ?_⟩
  · intro C i v h tk Kc hi' hP Vc ec
    obtain ⟨u, rfl⟩ := hval i v hi' hP
    obtain ⟨us', nn, hlM, hiM⟩ := hM.ext ec
    refine wpAny_tests_one (wpAny_isTrue_Compare1 (ev_name Kc Vc (upd_self _ _ _) rfl (ev_name Kc Vc ((upd_ne (by decide)).trans ((cvm_free rfl).trans vM)) rfl (in_list_ints hlM.isList hiM (wpAny_truthy_bool ?_)) rfl) rfl))
    exact ⟨rfl, h, tk, rfl, Ext.refl _⟩
  · intro C i v h tk Kc hi' hP _ Vc ec
    obtain ⟨u, rfl⟩ := hval i v hi' hP
    exact ev_name Kc Vc (upd_self _ _ _) rfl ⟨⟨h, tk, rfl, Ext.refl _, u, rfl⟩, fun a ha => by cases ha⟩ rfl
  · rintro j y h h' ⟨t, rfl⟩ _; exact ⟨t, rfl⟩
  · intro D h' tk ys nn hD hlD hp ex
    have hiD := paired_ints (f := fun i => ts.getD i 0) (fun i y z => z.1) hp
    rw [show vs.toArray.size = ts.length by simp [hlen], filter_range ts fun z => ms.any (· == z)] at hiD
    have V' := V.ext ex
    obtain ⟨us', nu, hlU, hiU⟩ := hU.ext ex
    have h1 := IntsAre.len hiD
    have h2 := IntsAre.len hiU
    refine ev_name K V' vU rfl (P.add_list hlD hlU ?_ (by simp; omega)) rfl
    dsimp only
    have hnew := PI.new h' (vs := ys ++ us') (hiD.append hiU)
    rw [show (ys ++ us').toArray = ys.toArray ++ us'.toArray by simp] at hnew
    have e3 := ext_push h' { cls := .type "list", data := .seq (ys.toArray ++ us'.toArray) }
    generalize h'.push { cls := .type "list", data := .seq (ys.toArray ++ us'.toArray) } = h₃ at hnew e3 ⊢
    refine sorted_PI (s := { s with heap := h₃, toks := tk }) hnew (by rw [List.length_append]; exact hl2) fun h₄ D' ns' z4 p4 perm srt e4 => ?_
    have V3 := V'.ext e3
    have hnf := nfa V3 z4
    exact ⟨vm, V3.ext e4, fun h₅ tk₅ V₅ U₅ => hQ h₅ tk₅ D' ns' V₅ (((ex.trans e3).trans e4).up.trans U₅) ⟨p4.up U₅ hnf, hnf⟩ (Nat.le_trans hD (Nat.le_of_lt (Nat.lt_of_lt_of_le (e3 _ _ hlD |> Heap.lt_size) z4))) perm srt⟩
end
end Mine

namespace Mine
open Sem (wp)

section
variable {prog : Program} {w : World} {A : Around} {E : Value → Shared → Prop} {s : Shared} {env : Env}
/-- a loop whose invariant speaks of all but the iterator -/
theorem for_list2 {x : Str} {px pos : Pos} {iter : Expr} {body : List Stmt} {Q : Flow → Shared → Prop} (K : EnvOk env) (hk : kd env x = true) (hh : A.handled = none)
    (h : wpAny (model prog w) A (eval iter env) (fun xv s₁ => ∃ (l : Addr) (items : Array Value) (mu : Addr → Prop) (J : Nat → (Str → Option Value) → Heap → Prop) (vm : Str → Option Value),
      xv = .ref l ∧ s₁.heap.IsList l items ∧ ¬ mu l ∧ (∀ b, mu b → b < s₁.heap.objs.size) ∧ (∀ b, FA env b → mu b) ∧ Vars env s₁.heap vm ∧ J 0 vm s₁.heap ∧
      (∀ i vm h h', J i vm h → (∀ b o, b ≠ s₁.heap.objs.size → ¬ FA env b → h.get? b = some o → h'.get? b = some o) → J i vm h') ∧
      (∀ i v vm h tk, items[i]? = some v → J i vm h → Vars env h (upd vm x v) → Up mu s₁.heap h → (∃ o, h.get? s₁.heap.objs.size = some o) →
        wpD (model prog w) A (execs body env) (fun f s₃ => f = .next ∧ ∃ h' tk' vm', s₃ = { s₁ with heap := h', toks := tk' } ∧ Vars env h' vm' ∧ J (i + 1) vm' h' ∧ Up mu h h') NoE { s₁ with heap := h, toks := tk }) ∧
      (∀ vm h tk, J items.size vm h → Vars env h vm → Up mu s₁.heap h → Q .next { s₁ with heap := h, toks := tk })) E s)
    (hs : ∀ x, foldedSetIterable iter env x = pure x) : wpD (model prog w) A (exec (.For (.Name x px) iter body [] pos) env) Q E s := by
  rw [exec_For]
  refine wpD_bind (wpD_standAt (wpD_leaf (wpAny_mono h (fun xv s₁ h₁ => wpD_leaf (wpAny_of_eq (hs xv) (wpD_bind (wpD_standAt ?_)))) fun _ _ e => e)))
  obtain ⟨l, items, mu, J, vm, rfl, hl, hml, hsz, hfa, V, hJ, st, turn, done⟩ := h₁
  refine wpD_leaf (wpAny_holding (wpAny_pyIter_list hl ?_))
  refine D_runOwn rfl ?_
  obtain ⟨ol, hol, _⟩ := id hl
  have hlI : l ≠ s₁.heap.objs.size := Nat.ne_of_lt (Heap.lt_size hol)
  have hmI : ¬ mu s₁.heap.objs.size := fun q => Nat.lt_irrefl _ (hsz _ q)
  have old : ∀ b o, s₁.heap.get? b = some o → b ≠ s₁.heap.objs.size := fun b o e => Nat.ne_of_lt (Heap.lt_size e)
  refine codeD_forLoop (fun n s' => ∃ h' tk vm i, s' = { s₁ with heap := h', toks := tk } ∧ h'.IsListIter s₁.heap.objs.size l i ∧ h'.IsList l items ∧ Vars env h' vm ∧ J i vm h' ∧ i ≤ items.size ∧ n = items.size + 1 - i ∧ Up mu s₁.heap h') ?_ (items.size + 1)
    ⟨_, s₁.toks, vm, 0, rfl, ⟨_, Heap.get?_push_size _ rfl, rfl, rfl⟩, hl.push _, V.ext (ext_push _ _), st _ _ _ _ hJ fun b o _ _ e => Heap.get?_push_of_some _ e, Nat.zero_le _, rfl, (ext_push _ _).up⟩
  rintro n s' ⟨h', tk, vm, i, rfl, hit, hl', V', hJ', hi, rfl, hup⟩
  cases hv : items[i]? with
  | none =>
    have hsz' : i = items.size := Nat.le_antisymm hi (by simpa using hv)
    refine wpAny_pyNext_list_end hh hit hl' hv fun h₁ he₁ => ?_
    refine done vm h₁ tk (st _ _ _ _ (hsz' ▸ hJ') fun b o hb _ e => he₁ b o hb e) (V'.at fun b hb o e => he₁ b o (fun q => hmI (q ▸ hfa b hb)) e) fun b o hb e => he₁ b o (old b o e) (hup b o hb e)
  | some v =>
    have hlt : i < items.size := (Array.getElem?_eq_some_iff.mp hv).1
    refine wpAny_pyNext_list_item hit hl' hv fun h₁ hit₁ hs₁ => ?_
    have V₁ : Vars env h₁ vm := V'.at fun b hb o e => hs₁.extBut b o (fun q => hmI (q ▸ hfa b hb)) e
    refine as_name K V₁ hk fun h₂ tk₂ V₂ U₂ => ?_
    have hJ₂ : J i vm h₂ := st _ _ _ _ hJ' fun b o hb hf e => U₂ b o hf (hs₁.extBut b o hb e)
    have up₂ : Up mu s₁.heap h₂ := fun b o hb e => U₂ b o (fun q => hb (hfa b q)) (hs₁.extBut b o (old b o e) (hup b o hb e))
    have hl₂ : h₂.IsList l items := IsList.up (IsList.up hl' (Up.of_same (mu := (· = s₁.heap.objs.size)) hs₁ rfl) hlI) U₂ fun q => hml (hfa _ q)
    have hit₂ : h₂.IsListIter s₁.heap.objs.size l (i + 1) := hit₁.at fun o e => U₂ _ o (fun q => hmI (hfa _ q)) e
    have hlt₂ : ∃ o, h₂.get? s₁.heap.objs.size = some o := let ⟨o, q, _⟩ := hit₂; ⟨o, q⟩
    refine wpD_mono (turn i v vm h₂ tk₂ hv hJ₂ V₂ up₂ hlt₂) (fun f s₃ h₃ => ?_) fun _ _ e => e
    obtain ⟨rfl, h₃, tk₃, vm₃, rfl, V₃, hJ₃, U₃⟩ := h₃
    exact ⟨rfl, items.size + 1 - (i + 1), by omega, h₃, tk₃, vm₃, i + 1, rfl, hit₂.at fun o e => U₃ _ o hmI e, IsList.up hl₂ U₃ hml, V₃, hJ₃, hlt, rfl, up₂.trans U₃⟩
end

def gOf (n : Nat) (ws : List Int) (f : Nat → Bool) (run : List Int) : Nat → Bool := fun p => ((((swaps ws run (textB n f)).getD p 0).toNat : Nat) : Int) == 1
def tot (n : Nat) (ws : List Int) (f : Nat → Bool) (rs : List (List Int)) : Nat → Bool := rs.foldl (fun F r p => F p ^^ gOf n ws f r p) fun _ => false
theorem tot_succ {n : Nat} {ws : List Int} {f : Nat → Bool} {rs : List (List Int)} {i : Nat} {r : List Int} (h : rs[i]? = some r) : tot n ws f (rs.take (i + 1)) = fun p => tot n ws f (rs.take i) p ^^ gOf n ws f r p := by
  unfold tot
  rw [List.take_add_one, h, List.foldl_append]; rfl
theorem setL_none (n : Nat) : setL n (fun _ => false) = [] := by
  unfold setL
  rw [List.filter_eq_nil_iff.mpr (by simp)]; rfl
def runNames : List Str := ["run", "text", "k", "missing", "unexpected", "total"]

section
variable {prog : Program} {w : World} {A : Around} {s : Shared} {mg mb : Str → Option Value} {L a : Addr} {cd : Value} {vm : Str → Option Value}
/-- for run in part: .. -/
theorem run_loop {aB aS P Wd Nw T0 : Addr} {rs : List (List Int)} {ws : List Int} {n Bd : Nat} {f : Nat → Bool} {ln : Int} {tl : Tok} {Q : Flow → Shared → Prop} (hh : A.handled = none) (hg : A.guards = some []) (hfr : A.frames = some [envL L a cd]) (hroom : A.depth < recursionLimit) (K : EnvOk (envL L a cd))
    {g : Heap} (eg : Ext g s.heap) (Gg : Gl mg mb g) (hfB : FnAt mg g dB aB) (hfS : FnAt mg g dS aS) (hF : ∀ b, FA (envL L a cd) b → g.objs.size ≤ b)
    (V : Vars (envL L a cd) s.heap vm) (hP : LLF (envL L a cd) s.heap P rs) (vP : vm "part" = some (.ref P)) (hW : PF (envL L a cd) s.heap Wd ws) (vW : vm "widths" = some (.ref Wd)) (hN : PF (envL L a cd) s.heap Nw (setL n f)) (vN : vm "now" = some (.ref Nw))
    (vl : vm "length" = some (.int ln tl)) (hln : ln = n) (hn : n ≤ 30) (hT : PF (envL L a cd) s.heap T0 []) (vT : vm "total" = some (.ref T0)) (hB : Bd ≤ T0) (hB2 : Bd ≤ s.heap.objs.size) (hro : ∀ r ∈ rs, RunOk ws.length r) (hwo : WOk ws n)
    (hQ : ∀ h' tk vm' T, Vars (envL L a cd) h' vm' → Up (FA (envL L a cd)) s.heap h' → (∀ y : Str, y ∉ runNames → vm' y = vm y) → vm' "total" = some (.ref T) → PF (envL L a cd) h' T (setL n (tot n ws f rs)) → Bd ≤ T → Q .next { s with heap := h', toks := tk }) :
    wpD (model prog w) A (exec (stAt partB 1) (envL L a cd)) Q NoE s := by
  have hline : sizeLine = 2 ^ 24 := sizeLine_eq
  obtain ⟨as, nn, hlP, hp, hPn⟩ := id hP
  have hlas : as.length = rs.length := Paired.length hp
  refine for_list2 K rfl hh ?_ (fun _ => rfl)
  refine ev_name K V vP rfl ?_ rfl
  refine ⟨P, (as.map Value.ref).toArray, FA (envL L a cd), (fun i vm' h => (∀ y : Str, y ∉ runNames → vm' y = vm y) ∧ ∃ T, vm' "total" = some (.ref T) ∧ PF (envL L a cd) h T (setL n (tot n ws f (rs.take i))) ∧ Bd ≤ T ∧ T ≠ s.heap.objs.size), vm, rfl, hlP.isList, hPn, fun b hb => fa_lt V hb, fun b hb => hb, V, ⟨fun _ _ => rfl, T0, vT, ?_, hB, Nat.ne_of_lt hT.1.lt⟩, ?_, ?_, ?_⟩
  · have e : setL n (tot n ws f (rs.take 0)) = [] := setL_none n
    rw [e]; exact hT
  · rintro i vm' h h' ⟨x, T, y1, y2, y3, y4⟩ k
    exact ⟨x, T, y1, ⟨y2.1.at fun o q => k _ o y4 y2.2 q, y2.2⟩, y3, y4⟩
  · rintro i v vm₁ h₁ tk₁ hv ⟨hold, T, vT₁, hT₁, hB₁, hTI⟩ V₁ U₁ ⟨oI, hoI⟩
    have hv' : (as.map Value.ref)[i]? = some v := by simpa using hv
    rw [List.getElem?_map] at hv'
    obtain ⟨r, hr', rfl⟩ := Option.map_eq_some_iff.mp hv'
    obtain ⟨run, hrun, hPI⟩ := paired_at hp i r hr'
    have eg₁ : Ext g h₁ := eg.after U₁ hF
    have hmem : run ∈ rs := List.mem_of_getElem? hrun
    have n1 : ∀ {y : Str}, y ∉ runNames → y ≠ "run" := fun hy e => hy (by rw [e]; decide)
    have hold₁ : ∀ y : Str, y ∉ runNames → upd vm₁ "run" (.ref r) y = vm y := fun y hy => (upd_ne (n1 hy)).trans (hold y hy)
    have vT₁' : upd vm₁ "run" (.ref r) "total" = some (.ref T) := (upd_ne (by decide)).trans vT₁
    have vr : upd vm₁ "run" (.ref r) "run" = some (.ref r) := upd_self _ _ _
    generalize upd vm₁ "run" (.ref r) = vm₁' at V₁ hold₁ vT₁' vr
    show wpD (model prog w) A (execs (stAt runB 0 :: stAt runB 1 :: stAt runB 2 :: stAt runB 3 :: []) (envL L a cd)) _ NoE _
    refine xs_any (run_0 (s := { s with heap := h₁, toks := tk₁ }) hh K (Gg.ext eg₁) V₁ (hN.up U₁).1 ((hold₁ _ (by decide)).trans vN) ((hold₁ _ (by decide)).trans vl) hln (by omega) fun h₂ tk₂ t₂ V₂ U₂ => ⟨rfl, ?_⟩)
    dsimp only at V₂ U₂ ⊢
    have U02 := U₁.trans U₂
    have hlenT : (textB n f).length = n := by simp [textB]
    refine xs_next (run_1 (s := { s with heap := h₂, toks := tk₂ }) hh hg hroom K (eg₁.after U₂ hF) Gg hfB hF V₂ (hPI.up U02) ((upd_ne (by decide)).trans vr) (hW.up U02) ((upd_ne (by decide)).trans ((hold₁ _ (by decide)).trans vW)) (upd_self _ _ _) hlenT (by omega) (hro _ hmem) hwo fun h₃ tk₃ vm₃ t₃ V₃ U₃ hold₃ vx₃ => ⟨rfl, ?_⟩)
    dsimp only at V₃ U₃ ⊢
    have eg₃ := (eg₁.after U₂ hF).after U₃ hF
    have hT₃ := (hT₁.up U₂).up U₃
    have hold3 : ∀ y : Str, y ≠ "text" → y ≠ "k" → vm₃ y = vm₁' y := fun y y1 y2 => (hold₃ y y1 y2).trans (upd_ne y1)
    refine xs_next (run_2 (s := { s with heap := h₃, toks := tk₃ }) hh hfr hroom K (Gg.ext eg₃) (hfS.ext eg₃) V₃ hT₃ ((hold3 _ (by decide) (by decide)).trans vT₁') vx₃ ((swaps_len _ _ _).trans hlenT) (by omega) ((hold3 _ (by decide) (by decide)).trans ((hold₁ _ (by decide)).trans vl)) hln fun h₄ tk₄ M U V₄ U₄ hM hU => ⟨rfl, ?_⟩)
    dsimp only at V₄ U₄ ⊢
    have eg₄ := eg₃.after U₄ hF
    have hT₄ := hT₃.up U₄
    have hI4 : s.heap.objs.size < h₄.objs.size := Heap.lt_size (U₄ _ _ (nfa V (Nat.le_refl _)) (U₃ _ _ (nfa V (Nat.le_refl _)) (U₂ _ _ (nfa V (Nat.le_refl _)) hoI)))
    have l1 := setL_len n (tot n ws f (rs.take i))
    have l2 := setL_len n (gOf n ws f run)
    have l3 : (sd (setL n (tot n ws f (rs.take i))) (setL n (gOf n ws f run))).2.length ≤ n := Nat.le_trans (sd_len _ _ _ (Nat.le_refl _)).2 l2
    have l4 := List.length_filter_le (fun z => (sd (setL n (tot n ws f (rs.take i))) (setL n (gOf n ws f run))).1.any (· == z)) (setL n (tot n ws f (rs.take i)))
    refine xs_any (run_3 (s := { s with heap := h₄, toks := tk₄ }) hh K (Gg.ext eg₄) V₄ hT₄.1 ((upd_ne (by decide)).trans ((upd_ne (by decide)).trans ((hold3 _ (by decide) (by decide)).trans vT₁'))) hM.1 ((upd_ne (by decide)).trans (upd_self _ _ _)) hU.1 (upd_self _ _ _) (by omega) (Nat.lt_of_le_of_lt (Nat.add_le_add l4 l3) (by omega)) fun h₅ tk₅ D ns' V₅ U₅ hD zD perm srt => ⟨rfl, xs_nil ⟨rfl, h₅, tk₅, _, rfl, V₅, ⟨?_, D, upd_self _ _ _, ?_, ?_, ?_⟩, ((U₂.trans U₃).trans U₄).trans U₅⟩⟩)
    · intro y hy
      have ny : ∀ {z : Str}, z ∈ runNames → y ≠ z := fun hz e => hy (e ▸ hz)
      exact (upd_ne (ny (by decide))).trans ((upd_ne (ny (by decide))).trans ((upd_ne (ny (by decide))).trans ((hold3 y (ny (by decide)) (ny (by decide))).trans (hold₁ y hy))))
    · have : ns' = setL n fun p => tot n ws f (rs.take i) p ^^ gOf n ws f run p := xor_sorted perm srt
      rw [tot_succ hrun, ← this]
      exact hD
    · exact Nat.le_trans hB2 (Nat.le_of_lt (Nat.lt_of_lt_of_le hI4 zD))
    · exact Nat.ne_of_gt (Nat.lt_of_lt_of_le hI4 zD)
  · rintro vm₁ h₁ tk₁ ⟨hold, T, vT₁, hT₁, hB₁, hTI⟩ V₁ U₁
    have hz : (as.map Value.ref).toArray.size = rs.length := by simp [hlas]
    rw [hz, List.take_of_length_le (Nat.le_refl _)] at hT₁
    exact hQ h₁ tk₁ vm₁ T V₁ U₁ hold vT₁ hT₁ hB₁
end
end Mine

namespace Mine
open Sem (wp)

def PM (mu : Addr → Prop) (h : Heap) (D : Addr) (ns : List Int) : Prop := PI h D ns ∧ ¬ mu D
def LM (mu : Addr → Prop) (h : Heap) (R : Addr) (runs : List (List Int)) : Prop := ∃ (as : List Addr) (nn : Nat), IsL h R (as.map Value.ref).toArray nn ∧ Paired (fun a r => PM mu h a r) as runs ∧ ¬ mu R
theorem PM.up {mu : Addr → Prop} {h h' : Heap} {D : Addr} {ns : List Int} (x : PM mu h D ns) (u : Up mu h h') : PM mu h' D ns := ⟨x.1.up u x.2, x.2⟩
theorem PM.ext {mu : Addr → Prop} {h h' : Heap} {D : Addr} {ns : List Int} (x : PM mu h D ns) (u : Ext h h') : PM mu h' D ns := ⟨x.1.ext u, x.2⟩
theorem PM.pf {mu : Addr → Prop} {env : Env} {h : Heap} {D : Addr} {ns : List Int} (x : PM mu h D ns) (hs : ∀ b, FA env b → mu b) : PF env h D ns := ⟨x.1, fun q => x.2 (hs _ q)⟩
theorem LM.up {mu : Addr → Prop} {h h' : Heap} {R : Addr} {runs : List (List Int)} (x : LM mu h R runs) (u : Up mu h h') : LM mu h' R runs :=
  let ⟨as, nn, hl, hp, hn⟩ := x; ⟨as, nn, u _ _ hn hl, paired_imp (fun _ _ z => z.up u) hp, hn⟩
theorem LM.ext {mu : Addr → Prop} {h h' : Heap} {R : Addr} {runs : List (List Int)} (x : LM mu h R runs) (u : Ext h h') : LM mu h' R runs :=
  let ⟨as, nn, hl, hp, hn⟩ := x; ⟨as, nn, u _ _ hl, paired_imp (fun _ _ z => z.ext u) hp, hn⟩
theorem LM.llf {mu : Addr → Prop} {env : Env} {h : Heap} {R : Addr} {runs : List (List Int)} (x : LM mu h R runs) (hs : ∀ b, FA env b → mu b) : LLF env h R runs :=
  let ⟨as, nn, hl, hp, hn⟩ := x; ⟨as, nn, hl, paired_imp (fun _ _ z => z.pf hs) hp, fun q => hn (hs _ q)⟩
theorem LM.ll {mu : Addr → Prop} {h : Heap} {R : Addr} {runs : List (List Int)} (x : LM mu h R runs) : LL h R runs := let ⟨as, nn, hl, hp, _⟩ := x; ⟨as, nn, hl, paired_imp (fun _ _ z => z.1) hp⟩

section
variable {prog : Program} {w : World} {A : Around} {E : Value → Shared → Prop} {s : Shared} {env : Env} {vm : Str → Option Value} {mu : Addr → Prop}
/-- runs[:cut] -/
theorem ev_cut_upto {p1 p2 p3 p4 : Pos} {R : Addr} {runs : List (List Int)} {c : Int} {t : Tok} {Q : Value → Shared → Prop} (K : EnvOk env) (V : Vars env s.heap vm) (k1 : kd env "runs" = true) (k2 : kd env "cut" = true) (hR : LM mu s.heap R runs) (vR : vm "runs" = some (.ref R)) (vc : vm "cut" = some (.int c t)) (hc : 0 ≤ c) (hl : runs.length ≤ 1000)
    (hmu : ∀ b, mu b → b < s.heap.objs.size) (hQ : ∀ h' D, Ext s.heap h' → LM mu h' D (runs.take c.toNat) → s.heap.objs.size ≤ D → Q (.ref D) { s with heap := h' }) :
    wpAny (model prog w) A (eval (.Subscript (.Name "runs" p1) (.Slice none (some (.Name "cut" p4)) none p2) p3) env) Q E s := by
  have hline : sizeLine = 2 ^ 24 := sizeLine_eq
  obtain ⟨as, nn, hlR, hp, hn⟩ := hR
  have hla : as.length = runs.length := Paired.length hp
  refine ev_upto K V vR k1 rfl (ev_name K V vc k2 ⟨c, t, as.map Value.ref, rfl, hc, hlR.isList, by simp; omega, fun h' D zD lD e => hQ h' D e ⟨as.take c.toNat, 0, by rw [List.map_take]; exact lD, paired_imp (fun _ _ z => z.ext e) (paired_take hp _), fun q => absurd (hmu _ q) (Nat.not_lt_of_le zD)⟩ zD⟩ rfl)
theorem ev_cut_from {p1 p2 p3 p4 : Pos} {R : Addr} {runs : List (List Int)} {c : Int} {t : Tok} {Q : Value → Shared → Prop} (K : EnvOk env) (V : Vars env s.heap vm) (k1 : kd env "runs" = true) (k2 : kd env "cut" = true) (hR : LM mu s.heap R runs) (vR : vm "runs" = some (.ref R)) (vc : vm "cut" = some (.int c t)) (hc : 0 ≤ c) (hl : runs.length ≤ 1000)
    (hmu : ∀ b, mu b → b < s.heap.objs.size) (hQ : ∀ h' D, Ext s.heap h' → LM mu h' D (runs.drop c.toNat) → s.heap.objs.size ≤ D → Q (.ref D) { s with heap := h' }) :
    wpAny (model prog w) A (eval (.Subscript (.Name "runs" p1) (.Slice (some (.Name "cut" p4)) none none p2) p3) env) Q E s := by
  have hline : sizeLine = 2 ^ 24 := sizeLine_eq
  obtain ⟨as, nn, hlR, hp, hn⟩ := hR
  have hla : as.length = runs.length := Paired.length hp
  refine ev_from K V vR k1 rfl (ev_name K V vc k2 ⟨c, t, as.map Value.ref, rfl, hc, hlR.isList, by simp; omega, fun h' D zD lD e => hQ h' D e ⟨as.drop c.toNat, 0, by rw [List.map_drop]; exact lD, paired_imp (fun _ _ z => z.ext e) (paired_drop hp _), fun q => absurd (hmu _ q) (Nat.not_lt_of_le zD)⟩ zD⟩ rfl)
end

def partsOf (rs : List (List Int)) (c : Nat) : List (List (List Int)) := [rs.take c, rs.drop c, rs.take c]
def fsOf (n : Nat) (ws : List Int) (f0 : Nat → Bool) (parts : List (List (List Int))) (k : Nat) : Nat → Bool := (parts.take k).foldl (fun f part => tot n ws f part) f0
theorem fsOf_succ {n : Nat} {ws : List Int} {f0 : Nat → Bool} {parts : List (List (List Int))} {k : Nat} {p : List (List Int)} (h : parts[k]? = some p) : fsOf n ws f0 parts (k + 1) = tot n ws (fsOf n ws f0 parts k) p := by
  unfold fsOf
  rw [List.take_add_one, h, List.foldl_append]; rfl
def partNames : List Str := ["run", "text", "k", "missing", "unexpected", "total", "part", "now"]

section
variable {prog : Program} {w : World} {A : Around} {s : Shared} {mg mb : Str → Option Value} {L a : Addr} {cd : Value} {vm : Str → Option Value}
/-- for part in [runs[:cut], runs[cut:], runs[:cut]]: .. -/
theorem part_loop {aB aS R Wd Nw Td : Addr} {rs : List (List Int)} {ws : List Int} {n : Nat} {f0 : Nat → Bool} {ln c : Int} {tl tc : Tok} {nT : Nat} {Q : Flow → Shared → Prop} (hh : A.handled = none) (hg : A.guards = some []) (hfr : A.frames = some [envL L a cd]) (hroom : A.depth < recursionLimit) (K : EnvOk (envL L a cd))
    {g : Heap} (eg : Ext g s.heap) (Gg : Gl mg mb g) (hfB : FnAt mg g dB aB) (hfS : FnAt mg g dS aS) (hF : ∀ b, FA (envL L a cd) b → g.objs.size ≤ b) (hTg : g.objs.size ≤ Td)
    (V : Vars (envL L a cd) s.heap vm) (hR : LM (fun b => FA (envL L a cd) b ∨ b = Td) s.heap R rs) (vR : vm "runs" = some (.ref R)) (hW : PM (fun b => FA (envL L a cd) b ∨ b = Td) s.heap Wd ws) (vW : vm "widths" = some (.ref Wd))
    (hN : PM (fun b => FA (envL L a cd) b ∨ b = Td) s.heap Nw (setL n f0)) (vN : vm "now" = some (.ref Nw)) (vl : vm "length" = some (.int ln tl)) (hln : ln = n) (hn : n ≤ 30) (vc : vm "cut" = some (.int c tc)) (hc : 0 ≤ c) (hrl : rs.length ≤ 1000)
    (hT : IsL s.heap Td #[] nT) (hTF : ¬ FA (envL L a cd) Td) (vT : vm "told" = some (.ref Td)) (hro : ∀ r ∈ rs, RunOk ws.length r) (hwo : WOk ws n)
    (hQ : ∀ h' tk vm' T1 T2 T3 nn, Vars (envL L a cd) h' vm' → Up (fun b => FA (envL L a cd) b ∨ b = Td) s.heap h' → (∀ y : Str, y ∉ partNames → vm' y = vm y) → IsL h' Td #[.ref T1, .ref T2, .ref T3] nn → ¬ FA (envL L a cd) T1 → ¬ FA (envL L a cd) T2 → ¬ FA (envL L a cd) T3 →
      PI h' T1 (setL n (fsOf n ws f0 (partsOf rs c.toNat) 1)) → PI h' T2 (setL n (fsOf n ws f0 (partsOf rs c.toNat) 2)) → PI h' T3 (setL n (fsOf n ws f0 (partsOf rs c.toNat) 3)) → Q .next { s with heap := h', toks := tk }) :
    wpD (model prog w) A (exec (stAt dL.body 11) (envL L a cd)) Q NoE s := by
  have hline : sizeLine = 2 ^ 24 := sizeLine_eq
  have hsub : ∀ b, FA (envL L a cd) b → (FA (envL L a cd) b ∨ b = Td) := fun b hb => .inl hb
  have hTdlt : Td < s.heap.objs.size := Heap.lt_size hT
  have hmuS : ∀ {h : Heap} {vm' : Str → Option Value}, Vars (envL L a cd) h vm' → (∃ o, h.get? Td = some o) → ∀ b, (FA (envL L a cd) b ∨ b = Td) → b < h.objs.size := by
    rintro h vm' V' ⟨o, ho⟩ b (q | rfl)
    · exact fa_lt V' q
    · exact Heap.lt_size ho
  refine for_list2 K rfl hh ?_ (fun _ => rfl)
  refine wpAny_List ?_
  show wpAny (model prog w) A (spliced [(false, eval _ _), (false, eval _ _), (false, eval _ _)]) _ _ _
  refine spliced_cons (ev_cut_upto K V rfl rfl hR vR vc hc hrl (hmuS V ⟨_, hT⟩) fun h₁ P0 e₁ l₁ z₁ => spliced_cons ?_)
  refine ev_cut_from K (V.ext e₁) rfl rfl (hR.ext e₁) vR vc hc hrl (hmuS (V.ext e₁) ⟨_, e₁ _ _ hT⟩) fun h₂ P1 e₂ l₂ z₂ => spliced_cons ?_
  refine ev_cut_upto K ((V.ext e₁).ext e₂) rfl rfl ((hR.ext e₁).ext e₂) vR vc hc hrl (hmuS ((V.ext e₁).ext e₂) ⟨_, e₂ _ _ (e₁ _ _ hT)⟩) fun h₃ P2 e₃ l₃ z₃ => spliced_nil ⟨by simp; omega, ?_⟩
  dsimp only
  have hl4 := IsL.new h₃ [Value.ref P0, .ref P1, .ref P2].toArray
  have e4 := ext_push h₃ { cls := .type "list", data := .seq [Value.ref P0, .ref P1, .ref P2].toArray }
  have e03 : Ext s.heap h₃ := (e₁.trans e₂).trans e₃
  have V3 := V.ext e03
  have hlF : ¬ (FA (envL L a cd) h₃.objs.size ∨ h₃.objs.size = Td) := fun q => Nat.lt_irrefl _ (hmuS V3 ⟨_, e03 _ _ hT⟩ _ q)
  have L0 := ((l₁.ext e₂).ext e₃).ext e4
  have L1 := (l₂.ext e₃).ext e4
  have L2 := l₃.ext e4
  have e04 := e03.trans e4
  obtain ⟨l, hld⟩ : ∃ l, l = h₃.objs.size := ⟨_, rfl⟩
  rw [← hld] at hl4 hlF ⊢
  generalize h₃.push { cls := .type "list", data := .seq [Value.ref P0, .ref P1, .ref P2].toArray } = h₄ at hl4 e4 L0 L1 L2 e04 ⊢
  have V4 := V.ext e04
  have hT4 := e04 _ _ hT
  obtain ⟨I, hI⟩ : ∃ I, I = h₄.objs.size := ⟨_, rfl⟩
  have hparts : ∀ (i : Nat) (v : Value), ([Value.ref P0, .ref P1, .ref P2].toArray)[i]? = some v → ∃ (P : Addr) (part : List (List Int)), v = Value.ref P ∧ (partsOf rs c.toNat)[i]? = some part ∧ LM (fun b => FA (envL L a cd) b ∨ b = Td) h₄ P part ∧ ∀ r ∈ part, r ∈ rs := by
    intro i v hv
    have : i = 0 ∨ i = 1 ∨ i = 2 := by
      have := (Array.getElem?_eq_some_iff.mp hv).1
      simp at this; omega
    rcases this with rfl | rfl | rfl
    · exact ⟨P0, _, by simpa using hv.symm, rfl, L0, fun r hr => List.mem_of_mem_take hr⟩
    · exact ⟨P1, _, by simpa using hv.symm, rfl, L1, fun r hr => List.mem_of_mem_drop hr⟩
    · exact ⟨P2, _, by simpa using hv.symm, rfl, L2, fun r hr => List.mem_of_mem_take hr⟩
  refine ⟨l, _, (fun b => FA (envL L a cd) b ∨ b = Td), (fun i vm' h => (∀ y : Str, y ∉ partNames → vm' y = vm y) ∧ (∃ N, vm' "now" = some (.ref N) ∧ PM (fun b => FA (envL L a cd) b ∨ b = Td) h N (setL n (fsOf n ws f0 (partsOf rs c.toNat) i)) ∧ N ≠ h₄.objs.size) ∧
    ∃ (Ts : List Addr) (nn : Nat), IsL h Td (Ts.map Value.ref).toArray nn ∧ Paired (fun b k => PM (fun b => FA (envL L a cd) b ∨ b = Td) h b (setL n (fsOf n ws f0 (partsOf rs c.toNat) (k + 1))) ∧ b ≠ h₄.objs.size) Ts (List.range i)), vm, rfl, hl4.isList, hlF, hmuS V4 ⟨_, hT4⟩, hsub, V4,
    ⟨fun _ _ => rfl, ⟨Nw, vN, hN.ext e04, Nat.ne_of_lt (hN.ext e04).1.lt⟩, [], nT, hT4, .nil⟩, ?_, ?_, ?_⟩
  · rintro i vm' h h' ⟨x, ⟨N, y1, y2, y3⟩, Ts, nn, z1, z2⟩ k
    refine ⟨x, ⟨N, y1, ⟨y2.1.at fun o q => k _ o y3 (fun q => y2.2 (.inl q)) q, y2.2⟩, y3⟩, Ts, nn, k _ _ ?_ hTF z1, paired_imp (fun b j z => ⟨⟨z.1.1.at fun o q => k _ o z.2 (fun q => z.1.2 (.inl q)) q, z.1.2⟩, z.2⟩) z2⟩
    exact Nat.ne_of_lt (Heap.lt_size hT4)
  · rintro i v vm₅ h₅ tk₅ hv ⟨hold, ⟨N, vN₅, hN₅, hNI⟩, Ts, nn, hlT₅, hTs⟩ V₅ U₅ ⟨oI, hoI⟩
    obtain ⟨P, part, rfl, hpart, hLP, hmem⟩ := hparts i v hv
    have hmu : ∀ b, (FA (envL L a cd) b ∨ b = Td) → g.objs.size ≤ b := fun b hb => hb.elim (hF b) fun q => q ▸ hTg
    have eg₅ : Ext g h₅ := (eg.trans e04).after U₅ hmu
    have U05 : Up (fun b => FA (envL L a cd) b ∨ b = Td) s.heap h₅ := e04.up.trans U₅
    have hIlt : h₄.objs.size < h₅.objs.size := Heap.lt_size hoI
    have hTdI : Td < h₄.objs.size := Heap.lt_size hT4
    show wpD (model prog w) A (execs (stAt partB 0 :: stAt partB 1 :: stAt partB 2 :: stAt partB 3 :: []) (envL L a cd)) _ NoE _
    refine xs_any (ex_assign K rfl (wpAny_List (spliced_nil ⟨Nat.zero_le _, ?_⟩)) rfl)
    have m6 := PI.new h₅ (vs := []) .nil
    have e6 := ext_push h₅ { cls := .type "list", data := .seq ([] : List Value).toArray }
    dsimp only
    generalize h₅.push { cls := .type "list", data := .seq ([] : List Value).toArray } = h₆ at m6 e6 ⊢
    obtain ⟨T0, hT0⟩ : ∃ T0, T0 = h₅.objs.size := ⟨_, rfl⟩
    rw [← hT0] at m6 ⊢
    have hT0n : ¬ FA (envL L a cd) T0 := nfa V₅ (by rw [hT0]; exact Nat.le_refl _)
    refine ⟨_, V₅.ext e6, fun h₇ tk₇ V₇ U₇ => ⟨rfl, ?_⟩⟩
    have U57 : Up (FA (envL L a cd)) h₅ h₇ := e6.up.trans U₇
    have U57' : Up (fun b => FA (envL L a cd) b ∨ b = Td) h₅ h₇ := U57.mono hsub
    have ny : ∀ {y z : Str}, y ∉ partNames → z ∈ partNames → y ≠ z := fun hy hz e => hy (e ▸ hz)
    have hold₇ : ∀ y : Str, y ∉ partNames → upd (upd vm₅ "part" (.ref P)) "total" (.ref T0) y = vm y := fun y hy => (upd_ne (ny hy (by decide))).trans ((upd_ne (ny hy (by decide))).trans (hold y hy))
    have T0lt : T0 < h₇.objs.size := (m6.up U₇ hT0n).lt
    refine xs_next (run_loop (s := { s with heap := h₇, toks := tk₇ }) (Bd := h₄.objs.size + 1) (f := fsOf n ws f0 (partsOf rs c.toNat) i) (n := n) hh hg hfr hroom K (eg₅.after U57 hF) Gg hfB hfS hF V₇ (((hLP.up U₅).up U57').llf hsub) ((upd_ne (by decide)).trans (upd_self _ _ _)) (((hW.up U05).up U57').pf hsub) ((hold₇ _ (by decide)).trans vW)
      ((hN₅.up U57').pf hsub) ((upd_ne (by decide)).trans ((upd_ne (by decide)).trans vN₅)) ((hold₇ _ (by decide)).trans vl) hln hn ⟨m6.up U₇ hT0n, hT0n⟩ (upd_self _ _ _) (by rw [hT0]; exact hIlt) (by show h₄.objs.size + 1 ≤ h₇.objs.size; rw [hT0] at T0lt; exact Nat.le_of_lt (Nat.lt_of_le_of_lt hIlt T0lt)) (fun r hr => hro r (hmem r hr)) hwo ?_)
    intro h₈ tk₈ vm₈ T V₈ U₈ hold₈ vT₈ hT₈ hBd
    dsimp only at V₈ U₈ ⊢
    have U58 : Up (FA (envL L a cd)) h₅ h₈ := U57.trans U₈
    have U58' : Up (fun b => FA (envL L a cd) b ∨ b = Td) h₅ h₈ := U58.mono hsub
    have hnr : ∀ {y : Str}, y ∉ partNames → y ∉ runNames := fun hy hz => hy (by
      simp only [runNames, partNames, List.mem_cons, List.not_mem_nil, or_false] at hz ⊢
      rcases hz with h | h | h | h | h | h <;> simp [h])
    have hold8 : ∀ y : Str, y ∉ partNames → vm₈ y = vm y := fun y hy => (hold₈ y (hnr hy)).trans (hold₇ y hy)
    have hlT₈ := U58 _ _ hTF hlT₅
    have hTsl : Ts.length = i := by have := Paired.length hTs; rwa [List.length_range] at this
    refine ⟨rfl, xs_any (ex_append (D := Td) K V₈ ((hold8 _ (by decide)).trans vT) rfl rfl ⟨_, _, _, hlT₈, rfl⟩ rfl rfl rfl rfl ?_ rfl rfl)⟩
    have hi3 : i < 3 := by
      have := (Array.getElem?_eq_some_iff.mp hv).1
      simpa using this
    refine ev_name K V₈ vT₈ rfl ⟨_, _, ?_, hlT₈, fun h₉ n₉ hl₉ hs₉ => ⟨rfl, ?_⟩⟩ rfl
    · simp; omega
    have V₉ : Vars (envL L a cd) h₉ vm₈ := V₈.at fun b hb o q => hs₉.extBut b o (fun e => hTF (e ▸ hb)) q
    have hTne : T ≠ Td := Nat.ne_of_gt (Nat.lt_of_lt_of_le (Nat.lt_succ_of_lt hTdI) hBd)
    have hTI : T ≠ h₄.objs.size := Nat.ne_of_gt hBd
    have hT₉ : PM (fun b => FA (envL L a cd) b ∨ b = Td) h₉ T (setL n (tot n ws (fsOf n ws f0 (partsOf rs c.toNat) i) part)) := ⟨hT₈.1.at fun o q => hs₉.extBut _ o hTne q, fun q => q.elim hT₈.2 hTne⟩
    have U89 : Up (fun b => FA (envL L a cd) b ∨ b = Td) h₈ h₉ := Up.of_same hs₉ (.inr rfl)
    refine xs_any (ex_assign K rfl (ev_name K V₉ vT₈ rfl ⟨_, V₉, fun h₁₀ tk₁₀ V₁₀ U₁₀ => ⟨rfl, xs_nil ⟨rfl, h₁₀, tk₁₀, _, rfl, V₁₀, ⟨?_, ⟨T, upd_self _ _ _, ?_, hTI⟩, Ts ++ [T], n₉, ?_, ?_⟩, ?_⟩⟩⟩ rfl) rfl)
    · intro y hy
      exact (upd_ne (ny hy (by decide))).trans (hold8 y hy)
    · rw [fsOf_succ hpart]; exact hT₉.up (U₁₀.mono hsub)
    · refine U₁₀ _ _ hTF ?_
      rw [show ((Ts ++ [T]).map Value.ref).toArray = (Ts.map Value.ref).toArray.push (.ref T) by simp]
      exact hl₉
    · rw [List.range_succ]
      have U510 : Up (fun b => FA (envL L a cd) b ∨ b = Td) h₅ h₁₀ := (U58'.trans U89).trans (U₁₀.mono hsub)
      refine Paired.snoc (paired_imp (fun b k z => ⟨z.1.up U510, z.2⟩) hTs) ⟨?_, hTI⟩
      rw [fsOf_succ hpart]; exact hT₉.up (U₁₀.mono hsub)
    · exact (U58'.trans U89).trans (U₁₀.mono hsub)
  · rintro vm₅ h₅ tk₅ ⟨hold, _, Ts, nn, hlT₅, hTs⟩ V₅ U₅
    have hTs' : Paired (fun b k => PM (fun b => FA (envL L a cd) b ∨ b = Td) h₅ b (setL n (fsOf n ws f0 (partsOf rs c.toNat) (k + 1))) ∧ b ≠ h₄.objs.size) Ts [0, 1, 2] := hTs
    rcases hTs' with _ | ⟨q1, _ | ⟨q2, _ | ⟨q3, hTs'⟩⟩⟩
    cases hTs'
    exact hQ h₅ tk₅ vm₅ _ _ _ nn V₅ (e04.up.trans U₅) hold hlT₅ (fun q => q1.1.2 (.inl q)) (fun q => q2.1.2 (.inl q)) (fun q => q3.1.2 (.inl q)) q1.1.1 q2.1.1 q3.1.1
end
end Mine

namespace Mine
open Sem (wp)

section
variable {prog : Program} {w : World} {A : Around} {E : Value → Shared → Prop} {s : Shared} {env : Env}
theorem D_IfExp {test body orelse : Expr} {pos : Pos} {Q : Value → Shared → Prop}
    (h : wpAny (model prog w) A (isTrue test env (eval test env)) (fun b s₁ => if b then wpD (model prog w) A (eval body env) Q E s₁ else wpD (model prog w) A (eval orelse env) Q E s₁) E s) :
    wpD (model prog w) A (eval (.IfExp test body orelse pos) env) Q E s := by
  rw [arm_eval_IfExp]
  refine wpD_leaf (wpAny_mono h (fun b s₁ h₁ => ?_) fun _ _ x => x)
  cases b <;> exact h₁
end
theorem lawMet_len (marks sizes : List Int) (runs : List (List Int)) (n : Nat) : (lawMet marks sizes runs n).length ≤ n := setL_len n _

/-- all that a call of the law may build on -/
structure Base (mg mb : Str → Option Value) (g : Heap) (env : Env) (aB aS aM : Addr) : Prop where
  G : Gl mg mb g
  B : FnAt mg g dB aB
  S : FnAt mg g dS aS
  M : FnAt mg g dM aM
  F : ∀ b, FA env b → g.objs.size ≤ b

section
variable {prog : Program} {w : World} {A : Around} {s : Shared} {mg mb : Str → Option Value} {L a aB aS aM : Addr} {cd : Value} {vm : Str → Option Value}

/-- x = _law_met(m, sizes, runs[:cut] | runs[cut:], length), as a value -/
theorem ev_met {mk : Str} {p1 p2 p3 p4 p5 : Pos} {part : Expr} {g : Heap} {Mk Sz : Addr} {marks sizes : List Int} {rp : List (List Int)} {n : Nat} {ln : Int} {tl : Tok} {Q : Value → Shared → Prop} (hh : A.handled = none) (hroom : A.depth < recursionLimit) (K : EnvOk (envL L a cd))
    (B : Base mg mb g (envL L a cd) aB aS aM) (eg : Ext g s.heap) (V : Vars (envL L a cd) s.heap vm) (hmk : kd (envL L a cd) mk = true) (dmk : (mk == ("__debug__" : Str)) = false) (vm1 : vm mk = some (.ref Mk)) (hM : PI s.heap Mk marks) (vs : vm "sizes" = some (.ref Sz)) (hS : PI s.heap Sz sizes) (vl : vm "length" = some (.int ln tl)) (hln : ln = n) (hn : n ≤ 1000)
    (hsz : SzOk sizes) (hml : marks.length ≤ 1000) (hrl : rp.length ≤ 1000) (hr2 : ∀ r ∈ rp, r.length ≤ 1000)
    (hb : backTo p5 (starEach [.Name mk p1, .Name "sizes" p2, part, .Name "length" p3] (envL L a cd)) = [(false, eval (.Name mk p1) (envL L a cd)), (false, eval (.Name "sizes" p2) (envL L a cd)), (false, eval part (envL L a cd)), (false, eval (.Name "length" p3) (envL L a cd))])
    (hp : ∀ {Q' : Value → Shared → Prop}, (∀ h' P, Ext s.heap h' → LL h' P rp → s.heap.objs.size ≤ P → Q' (.ref P) { s with heap := h' }) → wpAny (model prog w) A (eval part (envL L a cd)) Q' NoE s)
    (hQ : ∀ h' tk D, Ext s.heap h' → PI h' D (lawMet marks sizes rp n) → s.heap.objs.size ≤ D → Q (.ref D) { s with heap := h', toks := tk }) :
    wpD (model prog w) A (eval (.Call (.Name "_law_met" p4) [.Name mk p1, .Name "sizes" p2, part, .Name "length" p3] [] p5) (envL L a cd)) Q NoE s := by
  obtain ⟨_, o, pm, cd', doc, ho, hdata, _⟩ := id (B.M.ext eg)
  refine D_cl_fn (o := o) (fd := docDef dM.name dM.params dM.body dM.scope pm cd' doc) K (B.G.ext eg) (B.M.ext eg).1 rfl rfl ⟨_, hb⟩ (by rw [hb]; rfl) ?_
  rw [hb]
  refine spliced_cons (ev_name K V vm1 hmk (spliced_cons (ev_name K V vs rfl (spliced_cons (hp fun h₁ P e₁ l₁ zP => spliced_cons (ev_name K (V.ext e₁) vl rfl (spliced_nil ?_) rfl))) rfl)) dmk)
  refine ⟨⟨e₁ _ _ ho, hdata⟩, ?_⟩
  have eg₁ := eg.trans e₁
  refine met_call (s := { s with heap := h₁ }) hh hroom (B.G.ext eg₁) (B.M.ext eg₁) (hM.ext e₁) (hS.ext e₁) l₁ hsz hml hrl hr2 hln hn fun h₂ tk₂ D e₂ p₂ z₂ => ?_
  have zz : s.heap.objs.size ≤ h₁.objs.size := by
    obtain ⟨as, nn, hl, _⟩ := l₁
    exact Nat.le_of_lt (Nat.lt_of_le_of_lt zP (Heap.lt_size hl))
  exact hQ h₂ tk₂ D (e₁.trans e₂) p₂ (Nat.le_trans zz z₂)

/-- the law's last lines -/
theorem law_end {g : Heap} {Mk Sz R Td T1 T2 T3 : Addr} {marks sizes t1 t2 t3 : List Int} {rs : List (List Int)} {n : Nat} {ln c : Int} {tl tc : Tok} {nT : Nat} {Q : Flow → Shared → Prop} (hh : A.handled = none) (hroom : A.depth < recursionLimit) (hun : A.units + 64 < cLine) (K : EnvOk (envL L a cd))
    (B : Base mg mb g (envL L a cd) aB aS aM) (eg : Ext g s.heap) (V : Vars (envL L a cd) s.heap vm) (hM : PF (envL L a cd) s.heap Mk marks) (vM : vm "marks" = some (.ref Mk)) (hS : PF (envL L a cd) s.heap Sz sizes) (vS : vm "sizes" = some (.ref Sz)) (hR : LLF (envL L a cd) s.heap R rs) (vR : vm "runs" = some (.ref R))
    (vl : vm "length" = some (.int ln tl)) (hln : ln = n) (hn : n ≤ 30) (vc : vm "cut" = some (.int c tc)) (hc : 0 ≤ c) (hrl : rs.length ≤ 1000) (hr2 : ∀ r ∈ rs, r.length ≤ 1000) (hsz : SzOk sizes) (hml : marks.length ≤ 1000)
    (hT : IsL s.heap Td #[.ref T1, .ref T2, .ref T3] nT) (hTF : ¬ FA (envL L a cd) Td) (vT : vm "told" = some (.ref Td)) (p1 : PF (envL L a cd) s.heap T1 t1) (p2 : PF (envL L a cd) s.heap T2 t2) (p3 : PF (envL L a cd) s.heap T3 t3)
    (h1 : t1 = lawMet marks sizes (rs.take c.toNat) n) (h2 : t2 = lawMet (lawMet marks sizes (rs.take c.toNat) n) sizes (rs.drop c.toNat) n) (h3 : t3 = if c.fmod 2 = 1 then lawMet marks sizes (rs.drop c.toNat) n else [])
    (hQ : ∀ h' tk, Ext g h' → Q (.ret (.bool true)) { s with heap := h', toks := tk }) :
    wpD (model prog w) A (execs (stAt dL.body 12 :: stAt dL.body 13 :: stAt dL.body 14 :: stAt dL.body 15 :: []) (envL L a cd)) Q NoE s := by
  have hline : sizeLine = 2 ^ 24 := sizeLine_eq
  have htl : (rs.take c.toNat).length ≤ 1000 := by rw [List.length_take]; omega
  have hdl : (rs.drop c.toNat).length ≤ 1000 := by rw [List.length_drop]; omega
  have ht2 : ∀ r ∈ rs.take c.toNat, r.length ≤ 1000 := fun r hr => hr2 r (List.mem_of_mem_take hr)
  have hd2 : ∀ r ∈ rs.drop c.toNat, r.length ≤ 1000 := fun r hr => hr2 r (List.mem_of_mem_drop hr)
  -- first
  refine xs_next (D_assign K rfl (ev_met (marks := marks) hh hroom K B eg V rfl rfl vM hM.1 vS hS.1 vl hln (by omega) hsz hml htl ht2 rfl (fun hq => ev_cut_upto (mu := FA (envL L a cd)) K V rfl rfl hR vR vc hc hrl (fun b hb => fa_lt V hb) fun h' P e l z => hq h' P e l.ll z) fun h₁ tk₁ D1 e₁ d1 z1 => ?_) rfl)
  have n1 := nfa V z1
  refine ⟨_, V.ext e₁, fun h₂ tk₂ V₂ U₂ => ⟨rfl, ?_⟩⟩
  dsimp only at V₂ U₂ ⊢
  have U02 : Up (FA (envL L a cd)) s.heap h₂ := e₁.up.trans U₂
  have eg₂ := eg.after U02 B.F
  have d1₂ : PF (envL L a cd) h₂ D1 _ := ⟨d1.up U₂ n1, n1⟩
  -- second
  refine xs_next (D_assign K rfl (ev_met (s := { s with heap := h₂, toks := tk₂ }) (marks := lawMet marks sizes (rs.take c.toNat) n) hh hroom K B eg₂ V₂ rfl rfl (upd_self _ _ _) d1₂.1 ((upd_ne (by decide)).trans vS) (hS.up U02).1 ((upd_ne (by decide)).trans vl) hln (by omega) hsz (Nat.le_trans (lawMet_len _ _ _ _) (by omega)) hdl hd2 rfl
    (fun hq => ev_cut_from (mu := FA (envL L a cd)) K V₂ rfl rfl (hR.up U02) ((upd_ne (by decide)).trans vR) ((upd_ne (by decide)).trans vc) hc hrl (fun b hb => fa_lt V₂ hb) fun h' P e l z => hq h' P e l.ll z) fun h₃ tk₃ D2 e₃ d2 z2 => ?_) rfl)
  have n2 := nfa V₂ z2
  refine ⟨_, V₂.ext e₃, fun h₄ tk₄ V₄ U₄ => ⟨rfl, ?_⟩⟩
  dsimp only at V₄ U₄ ⊢
  have U24 : Up (FA (envL L a cd)) h₂ h₄ := e₃.up.trans U₄
  have U04 := U02.trans U24
  have eg₄ := eg.after U04 B.F
  have d1₄ := d1₂.up U24
  have d2₄ : PF (envL L a cd) h₄ D2 _ := ⟨d2.up U₄ n2, n2⟩
  have old : ∀ y : Str, y ≠ "first" → y ≠ "second" → upd (upd vm "first" (.ref D1)) "second" (.ref D2) y = vm y := fun y y1 y2 => (upd_ne y2).trans (upd_ne y1)
  have vf : upd (upd vm "first" (.ref D1)) "second" (.ref D2) "first" = some (.ref D1) := (upd_ne (by decide)).trans (upd_self _ _ _)
  have vsec : upd (upd vm "first" (.ref D1)) "second" (.ref D2) "second" = some (.ref D2) := upd_self _ _ _
  generalize upd (upd vm "first" (.ref D1)) "second" (.ref D2) = vm₄ at V₄ old vf vsec
  -- third
  refine xs_next (D_assign K rfl (D_IfExp (wpAny_isTrue_Compare1 (wpAny_BinOp (ev_name K V₄ ((old _ (by decide) (by decide)).trans vc) rfl (wpAny_Constant_int (PyProof.Rows.mod_int' (by omega) (wpAny_Constant_int (PyProof.Rows.eq_int (wpAny_truthy_bool ?_))))) rfl)))) rfl)
  dsimp only
  have last : ∀ h D3, Ext h₄ h → PI h D3 t3 → h₄.objs.size ≤ D3 → ∃ vm', Vars (envL L a cd) h vm' ∧ ∀ h' tk', Vars (envL L a cd) h' (upd vm' "third" (.ref D3)) → Up (FA (envL L a cd)) h h' →
      (Flow.next = .next ∧ wpD (model prog w) A (execs (stAt dL.body 15 :: []) (envL L a cd)) Q NoE { s with heap := h', toks := tk' }) := by
    intro h D3 e d3 z3
    have n3 := nfa V₄ z3
    refine ⟨vm₄, V₄.ext e, fun h₅ tk₅ V₅ U₅ => ⟨rfl, wpD_of_any ?_⟩⟩
    have U45 : Up (FA (envL L a cd)) h₄ h₅ := e.up.trans U₅
    have U05 := U04.trans U45
    have eg₅ := eg.after U05 B.F
    have d3₅ := d3.up U₅ n3
    have d1₅ := (d1₄.up U45).1
    have d2₅ := (d2₄.up U45).1
    refine wpAny_execs_cons (wpAny_Return_some (wpAny_Compare1 (ev_name K V₅ ((upd_ne (by decide)).trans ((old _ (by decide) (by decide)).trans vT)) rfl (wpAny_List ?_) rfl)))
    show wpAny (model prog w) A (spliced [(false, eval _ _), (false, eval _ _), (false, eval _ _)]) _ _ _
    refine spliced_cons (ev_name K V₅ ((upd_ne (by decide)).trans vf) rfl (spliced_cons (ev_name K V₅ ((upd_ne (by decide)).trans vsec) rfl (spliced_cons (ev_name K V₅ (upd_self _ _ _) rfl (spliced_nil ⟨by simp; omega, ?_⟩) rfl)) rfl)) rfl)
    dsimp only
    have hl6 := IsL.new h₅ [Value.ref D1, .ref D2, .ref D3].toArray
    have e6 := ext_push h₅ { cls := .type "list", data := .seq [Value.ref D1, .ref D2, .ref D3].toArray }
    obtain ⟨l, hld⟩ : ∃ l, l = h₅.objs.size := ⟨_, rfl⟩
    rw [← hld] at hl6 ⊢
    generalize h₅.push { cls := .type "list", data := .seq [Value.ref D1, .ref D2, .ref D3].toArray } = h₆ at hl6 e6 ⊢
    have rd : ∀ {D : Addr} {ns : List Int}, PI h₆ D ns → Reads h₆ (.ref D) (.list (ns.map PyData.int)) [D] := fun ⟨vs, n, hl, hi⟩ => reads_newData hl.isList (ke_carried hi)
    have ra : Reads h₆ (.ref Td) (.list [.list (t1.map PyData.int), .list (t2.map PyData.int), .list (t3.map PyData.int)]) _ :=
      reads_list_at (e6 _ _ (U05 _ _ hTF hT)) rfl rfl (.cons (rd ((p1.up U05).1.ext e6)) (.cons (rd ((p2.up U05).1.ext e6)) (.cons (rd ((p3.up U05).1.ext e6)) .nil)))
    have rb : Reads h₆ (.ref l) (.list [.list ((lawMet marks sizes (rs.take c.toNat) n).map PyData.int), .list ((lawMet (lawMet marks sizes (rs.take c.toNat) n) sizes (rs.drop c.toNat) n).map PyData.int), .list (t3.map PyData.int)]) _ :=
      reads_list_at hl6 rfl rfl (.cons (rd (d1₅.ext e6)) (.cons (rd (d2₅.ext e6)) (.cons (rd (d3₅.ext e6)) .nil)))
    refine eq_dataH (s := { s with heap := h₆, toks := tk₅ }) ra rb ?_ ?_ hun ?_
    · simp [SeqAt.shaped, PyData.canLay0, PyData.canLayAll0, PyData.depth, PyData.depthAll, ke_canLayAll0, ke_depthAll]
    · simp [SeqAt.shaped, PyData.canLay0, PyData.canLayAll0, PyData.depth, PyData.depthAll, ke_canLayAll0, ke_depthAll]
    · have ee : PyData.eqv (.list [.list (t1.map PyData.int), .list (t2.map PyData.int), .list (t3.map PyData.int)]) (.list [.list ((lawMet marks sizes (rs.take c.toNat) n).map PyData.int), .list ((lawMet (lawMet marks sizes (rs.take c.toNat) n) sizes (rs.drop c.toNat) n).map PyData.int), .list (t3.map PyData.int)]) = true := by
        rw [h1, h2]
        simp [PyData.eqv, PyData.eqvAll, ked_eqvAll]
      rw [ee]
      exact hQ h₆ tk₅ (eg₅.trans e6)
  by_cases hcc : c.fmod 2 = 1
  · rw [beq_iff_eq.mpr hcc, if_pos rfl]
    rw [if_pos hcc] at h3
    refine ev_met (s := { s with heap := h₄, toks := _ }) (marks := marks) hh hroom K B eg₄ V₄ rfl rfl ((old _ (by decide) (by decide)).trans vM) (hM.up U04).1 ((old _ (by decide) (by decide)).trans vS) (hS.up U04).1 ((old _ (by decide) (by decide)).trans vl) hln (by omega) hsz hml hdl hd2 rfl
      (fun hq => ev_cut_from (mu := FA (envL L a cd)) K V₄ rfl rfl (hR.up U04) ((old _ (by decide) (by decide)).trans vR) ((old _ (by decide) (by decide)).trans vc) hc hrl (fun b hb => fa_lt V₄ hb) fun h' P e l z => hq h' P e l.ll z) fun h₅ tk₅ D3 e₅ d3 z3 => ?_
    exact last h₅ D3 e₅ (by rw [h3]; exact d3) z3
  · rw [beq_eq_false_iff_ne.mpr hcc, if_neg (by decide)]
    rw [if_neg hcc] at h3
    refine wpD_of_any (wpAny_List (spliced_nil ⟨Nat.zero_le _, ?_⟩))
    exact last _ _ (ext_push _ _) (by rw [h3]; exact PI.new h₄ .nil) (Nat.le_refl _)
end
end Mine

namespace Mine
open Sem (wp)

def sizesOf (sc : List Int) : List Int := sizesL ((nums sc).take 3)
def lenOf (sc : List Int) : Nat := (prodTo (sizesOf sc) (sizesOf sc).length).toNat
def wsOf (sc : List Int) : List Int := widthsL (sizesOf sc)
def rsOf (sc : List Int) : List (List Int) := (nums sc).map (runL (wsOf sc).length)
def fOf (sc : List Int) (k : Nat) : Nat → Bool := fsOf (lenOf sc) (wsOf sc) (markB (nums sc)) (partsOf (rsOf sc) (cutL (nums sc)).toNat) k
/-- the law's answer is True -/
structure LawTrue (sc : List Int) : Prop where
  one : setL (lenOf sc) (fOf sc 1) = lawMet (setL (lenOf sc) (markB (nums sc))) (sizesOf sc) ((rsOf sc).take (cutL (nums sc)).toNat) (lenOf sc)
  two : setL (lenOf sc) (fOf sc 2) = lawMet (lawMet (setL (lenOf sc) (markB (nums sc))) (sizesOf sc) ((rsOf sc).take (cutL (nums sc)).toNat) (lenOf sc)) (sizesOf sc) ((rsOf sc).drop (cutL (nums sc)).toNat) (lenOf sc)
  three : setL (lenOf sc) (fOf sc 3) = if (cutL (nums sc)).fmod 2 = 1 then lawMet (setL (lenOf sc) (markB (nums sc))) (sizesOf sc) ((rsOf sc).drop (cutL (nums sc)).toNat) (lenOf sc) else []

theorem nums_len (sc : List Int) : 2 ≤ (nums sc).length ∧ (nums sc).length ≤ 8 := by
  unfold nums
  rw [List.length_append, List.length_take]
  simp only [List.length_cons, List.length_nil]
  omega
theorem sizesL_len (hd : List Int) : (sizesL hd).length = hd.length := by simp [sizesL]
theorem heads_len (sc : List Int) : 2 ≤ ((nums sc).take 3).length ∧ ((nums sc).take 3).length ≤ 3 := by
  have := nums_len sc
  rw [List.length_take]; omega
theorem sizesL_ok {hd : List Int} (h : hd.length ≤ 3) : SzOk (sizesL hd) := by
  refine ⟨by rw [sizesL_len]; exact h, fun k hk => ?_⟩
  rw [sizesL_len] at hk
  have e : (sizesL hd).getD k 0 = ([2, 2, 1] : List Int).getD k 0 + (hd.getD k 0).fmod 2 := by
    unfold sizesL; simp [hk]
  rw [e]
  have m0 := fmod_lo (a := hd.getD k 0) (b := 2) (by omega)
  have m1 := fmod_hi (a := hd.getD k 0) (b := 2) (by omega)
  have : k = 0 ∨ k = 1 ∨ k = 2 := by omega
  rcases this with rfl | rfl | rfl <;> simp only [List.getD_cons_zero, List.getD_cons_succ] at * <;> omega
theorem prodTo_bd {sizes : List Int} (hs : SzOk sizes) : ∀ k, k ≤ sizes.length → 1 ≤ prodTo sizes k ∧ prodTo sizes k ≤ 3 ^ k
  | 0, _ => by simp [prodTo]
  | k + 1, h => by
    obtain ⟨h1, h2⟩ := prodTo_bd hs k (by omega)
    obtain ⟨h3, h4⟩ := hs.2 k (by omega)
    rw [prodTo_succ (show k < sizes.length by omega)]
    have e : sizes.getD k 0 = sizes[k]'(by omega) := by simp [show k < sizes.length by omega]
    rw [e] at h3 h4
    generalize prodTo sizes k = u at *
    generalize sizes[k]'(by omega) = z at *
    have h5 : u * 1 ≤ u * z := Int.mul_le_mul_of_nonneg_left h3 (by omega)
    have h6 : u * z ≤ 3 ^ k * 3 := Int.mul_le_mul h2 h4 (by omega) (Int.pow_nonneg (by omega))
    rw [Int.pow_succ]
    omega
theorem prodTo_dvd {sizes : List Int} (i : Nat) : ∀ d, i + d ≤ sizes.length → prodTo sizes i ∣ prodTo sizes (i + d)
  | 0, _ => Int.dvd_refl _
  | d + 1, h => by
    rw [show i + (d + 1) = (i + d) + 1 by omega, prodTo_succ (show i + d < sizes.length by omega)]
    exact Int.dvd_mul_of_dvd_left (prodTo_dvd i d (by omega))
theorem pow3_le {k : Nat} (h : k ≤ 3) : (3 : Int) ^ k ≤ 27 := by
  have : k = 0 ∨ k = 1 ∨ k = 2 ∨ k = 3 := by omega
  rcases this with rfl | rfl | rfl | rfl <;> decide
theorem sizesOf_ok (sc : List Int) : SzOk (sizesOf sc) := sizesL_ok (heads_len sc).2
theorem sizesOf_len (sc : List Int) : 2 ≤ (sizesOf sc).length ∧ (sizesOf sc).length ≤ 3 := by unfold sizesOf; rw [sizesL_len]; exact heads_len sc
theorem wsOf_len (sc : List Int) : (wsOf sc).length = (sizesOf sc).length := by simp [wsOf, widthsL]
theorem lenOf_eq (sc : List Int) : prodTo (sizesOf sc) (sizesOf sc).length = (lenOf sc : Int) ∧ lenOf sc ≤ 27 := by
  obtain ⟨h1, h2⟩ := prodTo_bd (sizesOf_ok sc) _ (Nat.le_refl _)
  have := pow3_le (sizesOf_len sc).2
  unfold lenOf
  omega
theorem wsOf_ok (sc : List Int) : WOk (wsOf sc) (lenOf sc) := by
  intro k hk
  rw [wsOf_len] at hk
  have hl := (sizesOf_len sc).2
  obtain ⟨h1, h2⟩ := prodTo_bd (sizesOf_ok sc) (k + 1) (by omega)
  have := pow3_le (show k + 1 ≤ 3 by omega)
  refine ⟨(prodTo (sizesOf sc) (k + 1)).toNat, ?_, by omega, by omega, ?_⟩
  · have : (wsOf sc).getD k 0 = prodTo (sizesOf sc) (k + 1) := by unfold wsOf widthsL; simp [hk]
    rw [this]; omega
  · have hd := prodTo_dvd (sizes := sizesOf sc) (k + 1) ((sizesOf sc).length - (k + 1)) (by omega)
    rw [show k + 1 + ((sizesOf sc).length - (k + 1)) = (sizesOf sc).length by omega, (lenOf_eq sc).1] at hd
    have e : ((prodTo (sizesOf sc) (k + 1)).toNat : Int) = prodTo (sizesOf sc) (k + 1) := by omega
    rw [← e] at hd
    exact Int.natCast_dvd_natCast.mp hd
theorem runL_ok {m : Nat} (hm : 1 ≤ m) (hm2 : m ≤ 100) (x : Int) : RunOk m (runL m x) := by
  have m0 := fmod_lo (a := x) (b := 4) (by omega)
  have m1 := fmod_hi (a := x) (b := 4) (by omega)
  refine ⟨by unfold runL; simp; omega, hm2, fun k hk => ?_⟩
  obtain ⟨j, _, rfl⟩ := List.mem_map.mp hk
  exact ⟨fmod_lo (by omega), fmod_hi (by omega)⟩
theorem cutL_pos (sc : List Int) : 0 ≤ cutL (nums sc) := by
  have := nums_len sc
  have m0 := fmod_lo (a := (nums sc).sum.fdiv 5) (b := ((nums sc).length : Int) - 1) (by omega)
  unfold cutL; omega

section
variable {prog : Program} {w : World} {A : Around} {s : Shared} {mg mb : Str → Option Value} {L a aB aS aM : Addr} {cd : Value} {vm : Str → Option Value}
theorem law_body {g : Heap} {X : Addr} {sc : List Int} {Q : Flow → Shared → Prop} (hh : A.handled = none) (hg : A.guards = some []) (hfr : A.frames = some [envL L a cd]) (hroom : A.depth < recursionLimit) (hun : A.units + 64 < cLine) (K : EnvOk (envL L a cd))
    (B : Base mg mb g (envL L a cd) aB aS aM) (eg : Ext g s.heap) (V : Vars (envL L a cd) s.heap vm) (hX : IL s.heap X sc) (vX : vm "script" = some (.ref X)) (hl : sc.length ≤ 100) (T : LawTrue sc)
    (hQ : ∀ h' tk, Ext g h' → Q (.ret (.bool true)) { s with heap := h', toks := tk }) :
    wpD (model prog w) A (execs dL.body (envL L a cd)) Q NoE s := by
  show wpD (model prog w) A (execs (stAt dL.body 0 :: stAt dL.body 1 :: stAt dL.body 2 :: stAt dL.body 3 :: stAt dL.body 4 :: stAt dL.body 5 :: stAt dL.body 6 :: stAt dL.body 7 :: stAt dL.body 8 :: stAt dL.body 9 :: stAt dL.body 10 :: stAt dL.body 11 :: stAt dL.body 12 :: stAt dL.body 13 :: stAt dL.body 14 :: stAt dL.body 15 :: []) (envL L a cd)) _ NoE _
  have nl := nums_len sc
  have hl1 := heads_len sc
  have sl := sizesOf_len sc
  have wl := wsOf_len sc
  have ll := lenOf_eq sc
  refine xs_any (law_0 K V hX vX hl fun h₁ tk₁ N V₁ U₁ hN => ⟨rfl, ?_⟩)
  have eg₁ := eg.after U₁ B.F
  refine xs_any (law_1 (s := { s with heap := h₁, toks := tk₁ }) K V₁ hN.1 (upd_self _ _ _) (by omega) fun h₂ tk₂ H V₂ U₂ hH => ⟨rfl, ?_⟩)
  have eg₂ := eg₁.after U₂ B.F
  have hN₂ := hN.up U₂
  refine xs_any (law_2 (s := { s with heap := h₂, toks := tk₂ }) hh K (B.G.ext eg₂) V₂ hH.1 (upd_self _ _ _) hl1.2 fun h₃ tk₃ Sz V₃ U₃ hS => ⟨rfl, ?_⟩)
  have eg₃ := eg₂.after U₃ B.F
  have hN₃ := hN₂.up U₃
  have vN₃ : upd (upd (upd vm "numbers" (.ref N)) "heads" (.ref H)) "sizes" (.ref Sz) "numbers" = some (.ref N) := (upd_ne (by decide)).trans ((upd_ne (by decide)).trans (upd_self _ _ _))
  have vS₃ : upd (upd (upd vm "numbers" (.ref N)) "heads" (.ref H)) "sizes" (.ref Sz) "sizes" = some (.ref Sz) := upd_self _ _ _
  generalize upd (upd (upd vm "numbers" (.ref N)) "heads" (.ref H)) "sizes" (.ref Sz) = vm₃ at V₃ vN₃ vS₃
  refine law_345 (s := { s with heap := h₃, toks := tk₃ }) (sizes := sizesOf sc) hh K V₃ hS vS₃ (sizesOf_ok sc) fun h₄ tk₄ vm₄ Wd tl V₄ U₄ hW old₄ vW vl => ?_
  have eg₄ := eg₃.after U₄ B.F
  have hN₄ := hN₃.up U₄
  have hS₄ := hS.up U₄
  have vN₄ := (old₄ "numbers" (by decide) (by decide) (by decide)).trans vN₃
  have vS₄ := (old₄ "sizes" (by decide) (by decide) (by decide)).trans vS₃
  have hW4 : PI h₄ Wd (wsOf sc) := hW.1
  refine xs_any (law_6 (s := { s with heap := h₄, toks := tk₄ }) (ws := wsOf sc) hh K (B.G.ext eg₄) V₄ hN₄.1 vN₄ (by omega) hW4 vW (by omega) (by omega) fun h₅ tk₅ R V₅ U₅ hR => ⟨rfl, ?_⟩)
  have eg₅ := eg₄.after U₅ B.F
  have hN₅ := hN₄.up U₅
  refine xs_any (law_7 (s := { s with heap := h₅, toks := tk₅ }) hh K (B.G.ext eg₅) V₅ hN₅.1 ((upd_ne (by decide)).trans vN₄) nl.1 (by omega) fun h₆ tk₆ tc V₆ U₆ => ⟨rfl, ?_⟩)
  have eg₆ := eg₅.after U₆ B.F
  have hN₆ := hN₅.up U₆
  refine xs_any (law_8 (s := { s with heap := h₆, toks := tk₆ }) (n := lenOf sc) hh K (B.G.ext eg₆) V₆ hN₆.1 ((upd_ne (by decide)).trans ((upd_ne (by decide)).trans vN₄)) nl.1 (by omega) ((upd_ne (by decide)).trans ((upd_ne (by decide)).trans vl)) ll.1 (by omega) fun h₇ tk₇ Mk V₇ U₇ hM => ⟨rfl, ?_⟩)
  have eg₇ := eg₆.after U₇ B.F
  dsimp only at V₇ U₇ ⊢
  have U47 : Up (FA (envL L a cd)) h₄ h₇ := (U₅.trans U₆).trans U₇
  have hS₇ := hS₄.up U47
  have hW₇ : PF (envL L a cd) h₇ Wd (wsOf sc) := PF.up hW U47
  have hR₇ : LLF (envL L a cd) h₇ R (rsOf sc) := LLF.up (LLF.up hR U₆) U₇
  have old₇ : ∀ y : Str, y ≠ "marks" → y ≠ "cut" → y ≠ "runs" → upd (upd (upd vm₄ "runs" (.ref R)) "cut" (.int (cutL (nums sc)) tc)) "marks" (.ref Mk) y = vm₄ y := fun y y1 y2 y3 => (upd_ne y1).trans ((upd_ne y2).trans (upd_ne y3))
  have vR₇ : upd (upd (upd vm₄ "runs" (.ref R)) "cut" (.int (cutL (nums sc)) tc)) "marks" (.ref Mk) "runs" = some (.ref R) := (upd_ne (by decide)).trans ((upd_ne (by decide)).trans (upd_self _ _ _))
  have vc₇ : upd (upd (upd vm₄ "runs" (.ref R)) "cut" (.int (cutL (nums sc)) tc)) "marks" (.ref Mk) "cut" = some (.int (cutL (nums sc)) tc) := (upd_ne (by decide)).trans (upd_self _ _ _)
  have vM₇ : upd (upd (upd vm₄ "runs" (.ref R)) "cut" (.int (cutL (nums sc)) tc)) "marks" (.ref Mk) "marks" = some (.ref Mk) := upd_self _ _ _
  generalize upd (upd (upd vm₄ "runs" (.ref R)) "cut" (.int (cutL (nums sc)) tc)) "marks" (.ref Mk) = vm₇ at V₇ old₇ vR₇ vc₇ vM₇
  -- told = []
  refine xs_any (ex_assign K rfl (wpAny_List (spliced_nil ⟨Nat.zero_le _, ?_⟩)) rfl)
  have m8 := IsL.new h₇ ([] : List Value).toArray
  have e8 := ext_push h₇ { cls := .type "list", data := .seq ([] : List Value).toArray }
  dsimp only
  generalize h₇.push { cls := .type "list", data := .seq ([] : List Value).toArray } = h₈ at m8 e8 ⊢
  obtain ⟨Td, hTd⟩ : ∃ Td, Td = h₇.objs.size := ⟨_, rfl⟩
  rw [← hTd] at m8 ⊢
  have nT : ¬ FA (envL L a cd) Td := nfa V₇ (by rw [hTd]; exact Nat.le_refl _)
  refine ⟨_, V₇.ext e8, fun h₉ tk₉ V₉ U₉ => ⟨rfl, ?_⟩⟩
  try dsimp only at V₉ U₉ ⊢
  -- now = marks
  refine xs_any (ex_assign K rfl (ev_name K V₉ ((upd_ne (by decide)).trans vM₇) rfl ⟨_, V₉, fun h₁₀ tk₁₀ V₁₀ U₁₀ => ⟨rfl, ?_⟩⟩ rfl) rfl)
  dsimp only at V₁₀ U₁₀ ⊢
  have U710 : Up (FA (envL L a cd)) h₇ h₁₀ := (e8.up.trans U₉).trans U₁₀
  have eg₁₀ := eg₇.after U710 B.F
  have lift : ∀ {D : Addr} {ns : List Int}, PF (envL L a cd) h₇ D ns → PM (fun b => FA (envL L a cd) b ∨ b = Td) h₁₀ D ns := fun {D} {ns} x => ⟨(x.up U710).1, fun q => q.elim x.2 (by rw [hTd]; exact Nat.ne_of_lt x.1.lt)⟩
  have liftR : LM (fun b => FA (envL L a cd) b ∨ b = Td) h₁₀ R (rsOf sc) := by
    obtain ⟨as, nn, hlR, hp, hn⟩ := hR₇
    exact ⟨as, nn, U710 _ _ hn hlR, paired_imp (fun _ _ z => lift z) hp, fun q => q.elim hn (by rw [hTd]; exact Nat.ne_of_lt (Heap.lt_size hlR))⟩
  have old₁₀ : ∀ y : Str, y ≠ "told" → y ≠ "now" → upd (upd vm₇ "told" (.ref Td)) "now" (.ref Mk) y = vm₇ y := fun y y1 y2 => (upd_ne y2).trans (upd_ne y1)
  have vT₁₀ : upd (upd vm₇ "told" (.ref Td)) "now" (.ref Mk) "told" = some (.ref Td) := (upd_ne (by decide)).trans (upd_self _ _ _)
  have vn₁₀ : upd (upd vm₇ "told" (.ref Td)) "now" (.ref Mk) "now" = some (.ref Mk) := upd_self _ _ _
  generalize upd (upd vm₇ "told" (.ref Td)) "now" (.ref Mk) = vm₁₀ at V₁₀ old₁₀ vT₁₀ vn₁₀
  have hTg : g.objs.size ≤ Td := by
    have hb := B.F L (.inl rfl)
    have : L < h₇.objs.size := fa_lt V₇ (.inl rfl)
    rw [hTd]
    exact Nat.le_of_lt (Nat.lt_of_le_of_lt hb this)
  have hrl : (rsOf sc).length ≤ 1000 := by unfold rsOf; rw [List.length_map]; omega
  have hro : ∀ r ∈ rsOf sc, RunOk (wsOf sc).length r := fun r hr => by
    obtain ⟨x, _, rfl⟩ := List.mem_map.mp hr
    exact runL_ok (by omega) (by omega) x
  have vl₁₀ := (old₁₀ "length" (by decide) (by decide)).trans ((old₇ "length" (by decide) (by decide) (by decide)).trans vl)
  refine xs_next (part_loop (s := { s with heap := h₁₀, toks := tk₁₀ }) (n := lenOf sc) (f0 := markB (nums sc)) (ws := wsOf sc) hh hg hfr hroom K eg₁₀ B.G B.B B.S B.F hTg V₁₀ liftR ((old₁₀ _ (by decide) (by decide)).trans vR₇) (lift hW₇) ((old₁₀ _ (by decide) (by decide)).trans ((old₇ _ (by decide) (by decide) (by decide)).trans vW)) (lift hM) vn₁₀
    vl₁₀ ll.1 (by omega) ((old₁₀ _ (by decide) (by decide)).trans vc₇) (cutL_pos sc) hrl (U₁₀ _ _ nT (U₉ _ _ nT m8)) nT vT₁₀ hro (wsOf_ok sc) fun h₁₁ tk₁₁ vm₁₁ T1 T2 T3 nn V₁₁ U₁₁ old₁₁ l₁₁ n1 n2 n3 p1 p2 p3 => ⟨rfl, ?_⟩)
  dsimp only at V₁₁ U₁₁ ⊢
  have hmu : ∀ b, (FA (envL L a cd) b ∨ b = Td) → g.objs.size ≤ b := fun b hb => hb.elim (B.F b) fun q => q ▸ hTg
  have eg₁₁ := eg₁₀.after U₁₁ hmu
  have hsub : ∀ b, FA (envL L a cd) b → (FA (envL L a cd) b ∨ b = Td) := fun b hb => .inl hb
  have vS₁₁ := (old₁₁ "sizes" (by decide)).trans ((old₁₀ _ (by decide) (by decide)).trans ((old₇ _ (by decide) (by decide) (by decide)).trans vS₄))
  refine law_end (s := { s with heap := h₁₁, toks := tk₁₁ }) (n := lenOf sc) (c := cutL (nums sc)) hh hroom hun K B eg₁₁ V₁₁ (((lift hM).up U₁₁).pf hsub) ((old₁₁ _ (by decide)).trans ((old₁₀ _ (by decide) (by decide)).trans vM₇)) (((lift hS₇).up U₁₁).pf hsub) vS₁₁ ((liftR.up U₁₁).llf hsub) ((old₁₁ _ (by decide)).trans ((old₁₀ _ (by decide) (by decide)).trans vR₇))
    ((old₁₁ _ (by decide)).trans vl₁₀) ll.1 (by omega) ((old₁₁ _ (by decide)).trans ((old₁₀ _ (by decide) (by decide)).trans vc₇)) (cutL_pos sc) hrl (fun r hr => Nat.le_trans (hro r hr).1 (by omega)) (sizesOf_ok sc) (Nat.le_trans (setL_len _ _) (by omega)) l₁₁ nT ((old₁₁ _ (by decide)).trans vT₁₀) ⟨p1, n1⟩ ⟨p2, n2⟩ ⟨p3, n3⟩ T.one T.two T.three fun h' tk' e' => hQ h' tk' e'
end
end Mine

namespace Mine

/-- one block turned about, as a place's way -/
def tau (W p : Nat) : Nat := p / W * W + (W - 1 - p % W)
def flipTo (m k : Nat) (t : List Int) : List Int := (List.range m).map fun j => if j ≤ k then 1 - t.getD j 0 else t.getD j 0
noncomputable def vecs : Nat → List (List Int)
  | 0 => [[]]
  | m + 1 => (vecs m).flatMap fun t => [0 :: t, 1 :: t]
def zerosV (m : Nat) : List Int := (List.range m).map fun _ => 0
def wAt (S : List Int) (k : Nat) : Nat := (prodTo S (k + 1)).toNat
noncomputable def chk (S : List Int) : Bool :=
  (List.range (prodTo S S.length).toNat).all fun p =>
    ((mfold S (zerosV S.length) (p : Int) S.length).1 == (p : Int)) &&
    (List.range S.length).all fun k =>
      decide (tau (wAt S k) p < (prodTo S S.length).toNat) && (tau (wAt S k) (tau (wAt S k) p) == p) &&
      ((List.range S.length).all fun j => tau (wAt S k) (tau (wAt S j) p) == tau (wAt S j) (tau (wAt S k) p)) &&
      ((vecs S.length).all fun t => (mfold S (flipTo S.length k t) (p : Int) S.length).1 == ((tau (wAt S k) (mfold S t (p : Int) S.length).1.toNat : Nat) : Int))
def allSizes : List (List Int) := [[2, 2], [2, 3], [3, 2], [3, 3], [2, 2, 1], [2, 2, 2], [2, 3, 1], [2, 3, 2], [3, 2, 1], [3, 2, 2], [3, 3, 1], [3, 3, 2]]
theorem chk22 : chk [2, 2] = true := by decide +kernel
theorem chk23 : chk [2, 3] = true := by decide +kernel
theorem chk32 : chk [3, 2] = true := by decide +kernel
theorem chk33 : chk [3, 3] = true := by decide +kernel
theorem chk221 : chk [2, 2, 1] = true := by decide +kernel
theorem chk222 : chk [2, 2, 2] = true := by decide +kernel
theorem chk231 : chk [2, 3, 1] = true := by decide +kernel
theorem chk232 : chk [2, 3, 2] = true := by decide +kernel
theorem chk321 : chk [3, 2, 1] = true := by decide +kernel
theorem chk322 : chk [3, 2, 2] = true := by decide +kernel
theorem chk331 : chk [3, 3, 1] = true := by decide +kernel
theorem chk332 : chk [3, 3, 2] = true := by decide +kernel
theorem chk_all : allSizes.all chk = true := by
  simp only [allSizes, List.all_cons, List.all_nil, chk22, chk23, chk32, chk33, chk221, chk222, chk231, chk232, chk321, chk322, chk331, chk332, Bool.and_self]

theorem fmod2 (x : Int) : x.fmod 2 = 0 ∨ x.fmod 2 = 1 := by
  have m0 := fmod_lo (a := x) (b := 2) (by omega)
  have m1 := fmod_hi (a := x) (b := 2) (by omega)
  omega
theorem sizesOf_mem (sc : List Int) : sizesOf sc ∈ allSizes := by
  have h := heads_len sc
  unfold sizesOf
  generalize (nums sc).take 3 = hd at h ⊢
  match hd, h with
  | [a, b], _ =>
    show [2 + a.fmod 2, 2 + b.fmod 2] ∈ allSizes
    rcases fmod2 a with e | e <;> rcases fmod2 b with e' | e' <;> rw [e, e'] <;> decide
  | [a, b, c], _ =>
    show [2 + a.fmod 2, 2 + b.fmod 2, 1 + c.fmod 2] ∈ allSizes
    rcases fmod2 a with e | e <;> rcases fmod2 b with e' | e' <;> rcases fmod2 c with e'' | e'' <;> rw [e, e', e''] <;> decide
  | [], h => exact absurd h.1 (by simp)
  | [a], h => exact absurd h.1 (by simp)
  | a :: b :: c :: d :: r, h => exact absurd h.2 (by simp)

structure Chk (S : List Int) (n : Nat) : Prop where
  zero : ∀ p, p < n → (mfold S (zerosV S.length) (p : Int) S.length).1 = (p : Int)
  lt : ∀ k p, k < S.length → p < n → tau (wAt S k) p < n
  inv : ∀ k p, k < S.length → p < n → tau (wAt S k) (tau (wAt S k) p) = p
  comm : ∀ k j p, k < S.length → j < S.length → p < n → tau (wAt S k) (tau (wAt S j) p) = tau (wAt S j) (tau (wAt S k) p)
  flip : ∀ k t p, k < S.length → t ∈ vecs S.length → p < n → (mfold S (flipTo S.length k t) (p : Int) S.length).1 = ((tau (wAt S k) (mfold S t (p : Int) S.length).1.toNat : Nat) : Int)
theorem chk_of {S : List Int} (h : S ∈ allSizes) : Chk S (prodTo S S.length).toNat := by
  have hc := List.all_eq_true.mp chk_all S h
  unfold chk at hc
  simp only [List.all_eq_true, List.mem_range, Bool.and_eq_true, beq_iff_eq, decide_eq_true_eq] at hc
  exact ⟨fun p hp => (hc p hp).1, fun k p hk hp => ((hc p hp).2 k hk).1.1.1, fun k p hk hp => ((hc p hp).2 k hk).1.1.2, fun k j p hk hj hp => ((hc p hp).2 k hk).1.2 j hj, fun k t p hk ht hp => ((hc p hp).2 k hk).2 t ht⟩

/-- a run's way of a place -/
def way (S : List Int) (run : List Int) (p : Nat) : Nat := run.foldr (fun k q => tau (wAt S k.toNat) q) p
theorem way_cons (S : List Int) (k : Int) (r : List Int) (p : Nat) : way S (k :: r) p = tau (wAt S k.toNat) (way S r p) := rfl
def RIn (S : List Int) (run : List Int) : Prop := ∀ k ∈ run, 0 ≤ k ∧ k < (S.length : Int)
theorem RIn.tail {S : List Int} {k : Int} {r : List Int} (h : RIn S (k :: r)) : RIn S r := fun j hj => h j (List.mem_cons_of_mem _ hj)
theorem RIn.head {S : List Int} {k : Int} {r : List Int} (h : RIn S (k :: r)) : k.toNat < S.length ∧ 0 ≤ k := by
  have := h k List.mem_cons_self
  omega
section
variable {S : List Int} {n : Nat} (C : Chk S n)
include C
theorem way_lt : ∀ {run : List Int} {p : Nat}, RIn S run → p < n → way S run p < n
  | [], p, _, hp => hp
  | k :: r, p, h, hp => by rw [way_cons]; exact C.lt _ _ h.head.1 (way_lt h.tail hp)
theorem tau_way : ∀ {run : List Int} {p k : Nat}, RIn S run → k < S.length → p < n → tau (wAt S k) (way S run p) = way S run (tau (wAt S k) p)
  | [], _, _, _, _, _ => rfl
  | j :: r, p, k, h, hk, hp => by
    rw [way_cons, way_cons, C.comm k j.toNat _ hk h.head.1 (way_lt C h.tail hp), tau_way h.tail hk hp]
theorem way_inv : ∀ {run : List Int} {p : Nat}, RIn S run → p < n → way S run (way S run p) = p
  | [], _, _, _ => rfl
  | k :: r, p, h, hp => by
    have h1 := way_lt C h.tail hp
    rw [way_cons, way_cons, ← tau_way C h.tail h.head.1 h1, C.inv _ _ h.head.1 (way_lt C h.tail h1)]
    exact way_inv h.tail hp
theorem way_comm : ∀ {r q : List Int} {p : Nat}, RIn S r → RIn S q → p < n → way S r (way S q p) = way S q (way S r p)
  | [], _, _, _, _, _ => rfl
  | k :: r, q, p, hr, hq, hp => by
    rw [way_cons, way_cons, way_comm hr.tail hq hp, tau_way C hq hr.head.1 (way_lt C hr.tail hp)]
end

theorem turns_nil (m : Nat) : turnsOf m [] = zerosV m := by
  unfold turnsOf zerosV
  apply List.map_congr_left
  intro k _
  rfl
theorem turns_get {m : Nat} {run : List Int} {j : Nat} (h : j < m) : (turnsOf m run).getD j 0 = (((run.filter fun z => decide (z ≥ (j : Int))).length : Nat) : Int).fmod 2 := by
  unfold turnsOf; simp [h]
theorem fmod_nat2 (n : Nat) : ((n : Nat) : Int).fmod 2 = ((n % 2 : Nat) : Int) := by
  rw [Int.fmod_eq_emod_of_nonneg _ (by omega)]; omega
theorem turns_cons {m : Nat} {k : Int} {r : List Int} (hk : 0 ≤ k) : turnsOf m (k :: r) = flipTo m k.toNat (turnsOf m r) := by
  unfold flipTo
  conv => lhs; unfold turnsOf
  apply List.map_congr_left
  intro j hj
  have hj' := List.mem_range.mp hj
  rw [turns_get hj', List.filter_cons]
  generalize (r.filter fun z => decide (z ≥ (j : Int))) = l
  by_cases h : k ≥ (j : Int)
  · rw [decide_eq_true h, if_pos rfl, if_pos (by omega), List.length_cons, fmod_nat2, fmod_nat2]
    omega
  · rw [decide_eq_false h, if_neg (by simp), if_neg (by omega)]
theorem turns_vec (m : Nat) (run : List Int) : turnsOf m run ∈ vecs m := by
  have key : ∀ (l : List Nat) (g : Nat → Int), (∀ j, g j = 0 ∨ g j = 1) → l.map g ∈ vecs l.length := by
    intro l g hg
    induction l with
    | nil => exact List.mem_singleton.mpr rfl
    | cons a t ih =>
      show _ ∈ (vecs t.length).flatMap _
      refine List.mem_flatMap.mpr ⟨_, ih, ?_⟩
      rw [List.map_cons]
      rcases hg a with e | e <;> rw [e] <;> simp
  have := key (List.range m) (fun k => (((run.filter fun j => decide (j ≥ (k : Int))).length : Nat) : Int).fmod 2) fun j => fmod2 _
  rw [List.length_range] at this
  exact this
theorem image_way {S : List Int} {n : Nat} (C : Chk S n) : ∀ {run : List Int} {p : Nat}, RIn S run → p < n → imageOf S run (p : Int) = (way S run p : Int)
  | [], p, _, hp => by unfold imageOf; rw [turns_nil]; exact C.zero p hp
  | k :: r, p, h, hp => by
    have ih := image_way C h.tail hp
    unfold imageOf at ih ⊢
    rw [turns_cons h.head.2, C.flip _ _ _ h.head.1 (turns_vec _ _) hp, ih, way_cons]
    rfl

/-- the parity of a family of ways -/
def X (S : List Int) (rs : List (List Int)) (f : Nat → Bool) (p : Nat) : Bool := rs.foldr (fun r b => f (way S r p) ^^ b) false
theorem X_cons (S : List Int) (r : List Int) (rs : List (List Int)) (f : Nat → Bool) (p : Nat) : X S (r :: rs) f p = (f (way S r p) ^^ X S rs f p) := rfl
theorem X_xor (S : List Int) (f g : Nat → Bool) (p : Nat) : ∀ rs, X S rs (fun q => f q ^^ g q) p = (X S rs f p ^^ X S rs g p)
  | [] => rfl
  | r :: rs => by
    rw [X_cons, X_cons, X_cons, X_xor S f g p rs]
    cases f (way S r p) <;> cases g (way S r p) <;> cases X S rs f p <;> cases X S rs g p <;> rfl
section
variable {S : List Int} {n : Nat} (C : Chk S n)
include C
theorem X_congr {f g : Nat → Bool} (h : ∀ q, q < n → f q = g q) {p : Nat} (hp : p < n) : ∀ {rs : List (List Int)}, (∀ r ∈ rs, RIn S r) → X S rs f p = X S rs g p
  | [], _ => rfl
  | r :: rs, hr => by
    rw [X_cons, X_cons, h _ (way_lt C (hr r List.mem_cons_self) hp), X_congr h hp fun q hq => hr q (List.mem_cons_of_mem _ hq)]
theorem X_way {f : Nat → Bool} {q : List Int} (hq : RIn S q) {p : Nat} (hp : p < n) : ∀ {rs : List (List Int)}, (∀ r ∈ rs, RIn S r) → X S rs (fun z => f (way S q z)) p = X S rs f (way S q p)
  | [], _ => rfl
  | r :: rs, hr => by
    rw [X_cons, X_cons, way_comm C hq (hr r List.mem_cons_self) hp, X_way hq hp fun q hq => hr q (List.mem_cons_of_mem _ hq)]
theorem X_comm {f : Nat → Bool} {ts : List (List Int)} (ht : ∀ r ∈ ts, RIn S r) {p : Nat} (hp : p < n) : ∀ {rs : List (List Int)}, (∀ r ∈ rs, RIn S r) → X S rs (X S ts f) p = X S ts (X S rs f) p
  | [], _ => by
    show false = _
    induction ts with
    | nil => rfl
    | cons t ts ih => rw [X_cons, ← ih fun r hr => ht r (List.mem_cons_of_mem _ hr)]; rfl
  | r :: rs, hr => by
    have e : X S ts (X S (r :: rs) f) p = X S ts (fun z => f (way S r z) ^^ X S rs f z) p := rfl
    rw [X_cons, X_comm ht hp fun q hq => hr q (List.mem_cons_of_mem _ hq), e, X_xor, X_way C (hr r List.mem_cons_self) hp ht]
theorem X_sq {f : Nat → Bool} {p : Nat} (hp : p < n) : ∀ {rs : List (List Int)}, (∀ r ∈ rs, RIn S r) → X S rs (X S rs f) p = (if rs.length % 2 = 1 then f p else false)
  | [], _ => rfl
  | r :: rs, hr => by
    have hr0 := hr r List.mem_cons_self
    have hr' : ∀ q ∈ rs, RIn S q := fun q hq => hr q (List.mem_cons_of_mem _ hq)
    have e : X S rs (X S (r :: rs) f) p = X S rs (fun z => f (way S r z) ^^ X S rs f z) p := rfl
    rw [X_cons, X_cons, way_inv C hr0 hp, e, X_xor, X_way C hr0 hp hr', X_sq hp hr', List.length_cons]
    by_cases h : rs.length % 2 = 1
    · rw [if_pos h, if_neg (by omega)]
      cases f p <;> cases X S rs f (way S r p) <;> rfl
    · rw [if_neg h, if_pos (by omega)]
      cases f p <;> cases X S rs f (way S r p) <;> rfl
end
end Mine

namespace Mine

theorem swapB_get {W : Nat} {t : List UInt8} {p : Nat} (hp : p < t.length) : (swapB W t).getD p 0 = t.getD (tau W p) 0 := by
  unfold swapB
  simp [hp, turned, tau]
theorem swaps_get {S ws : List Int} {n : Nat} (C : Chk S n) (hws : ∀ k, k < S.length → (ws.getD k 0).toNat = wAt S k) : ∀ {run : List Int} {t : List UInt8} {p : Nat}, RIn S run → t.length = n → p < n → (swaps ws run t).getD p 0 = t.getD (way S run p) 0
  | [], _, _, _, _, _ => rfl
  | k :: r, t, p, h, ht, hp => by
    show (swaps ws r (swapB _ t)).getD p 0 = _
    rw [swaps_get C hws h.tail (by rw [swapB_len, ht]) hp, swapB_get (by rw [ht]; exact way_lt C h.tail hp), hws _ h.head.1]
    rfl
theorem gOf_way {S ws : List Int} {n : Nat} (C : Chk S n) (hws : ∀ k, k < S.length → (ws.getD k 0).toNat = wAt S k) {f : Nat → Bool} {run : List Int} {p : Nat} (h : RIn S run) (hp : p < n) : gOf n ws f run p = f (way S run p) := by
  have hq := way_lt C h hp
  unfold gOf
  rw [swaps_get C hws h (by simp [textB]) hp]
  have : (textB n f).getD (way S run p) 0 = if f (way S run p) then 1 else 0 := by
    unfold textB; simp [hq]
  rw [this]
  cases f (way S run p) <;> rfl
theorem tot_X {S ws : List Int} {n : Nat} (C : Chk S n) (hws : ∀ k, k < S.length → (ws.getD k 0).toNat = wAt S k) {f : Nat → Bool} {rs : List (List Int)} {p : Nat} (h : ∀ r ∈ rs, RIn S r) (hp : p < n) : tot n ws f rs p = X S rs f p := by
  have key : ∀ (rs : List (List Int)) (F0 : Nat → Bool), (∀ r ∈ rs, RIn S r) → rs.foldl (fun F r p => F p ^^ gOf n ws f r p) F0 p = (F0 p ^^ X S rs f p) := by
    intro rs
    induction rs with
    | nil => intro F0 _; show F0 p = (F0 p ^^ false); simp
    | cons r rs ih =>
      intro F0 hr
      rw [List.foldl_cons, ih _ fun q hq => hr q (List.mem_cons_of_mem _ hq), gOf_way C hws (hr r List.mem_cons_self) hp, X_cons, Bool.xor_assoc]
  have := key rs (fun _ => false) h
  rw [Bool.false_xor] at this
  exact this
theorem setL_congr {n : Nat} {f g : Nat → Bool} (h : ∀ p, p < n → f p = g p) : setL n f = setL n g := by
  unfold setL
  rw [List.filter_congr fun p hp => h p (List.mem_range.mp hp)]
theorem count_image {S : List Int} {n : Nat} (C : Chk S n) {f : Nat → Bool} {r : List Int} {p : Nat} (h : RIn S r) (hp : p < n) : ((setL n f).map (imageOf S r)).count (p : Int) = if f (way S r p) then 1 else 0 := by
  have hq := way_lt C h hp
  have e : (setL n f).map (imageOf S r) = ((List.range n).filter f).map fun q => (way S r q : Int) := by
    unfold setL
    rw [List.map_map]
    apply List.map_congr_left
    intro q hq'
    exact image_way C h (List.mem_range.mp (List.mem_filter.mp hq').1)
  rw [e, List.count_eq_countP, List.countP_map]
  have e2 : ((List.range n).filter f).countP ((fun x => x == (p : Int)) ∘ fun q => (way S r q : Int)) = ((List.range n).filter f).countP (fun q => q == way S r p) := by
    apply List.countP_congr
    intro q hq'
    have hqn := List.mem_range.mp (List.mem_filter.mp hq').1
    simp only [Function.comp, beq_iff_eq]
    constructor
    · intro z
      have : way S r q = p := by omega
      rw [← this, way_inv C h hqn]
    · intro z
      rw [z, way_inv C h hp]
  rw [e2, ← List.count_eq_countP]
  cases hf : f (way S r p) with
  | true =>
    rw [List.count_filter hf]
    have hm : way S r p ∈ List.range n := List.mem_range.mpr hq
    have h1 := List.count_pos_iff.mpr hm
    have h2 := List.nodup_iff_count.mp (List.nodup_range (n := n)) (way S r p)
    simp; omega
  | false =>
    rw [List.count_eq_zero.mpr fun hm => by
      have := (List.mem_filter.mp hm).2
      rw [hf] at this; cases this]
    rfl
theorem met_X {S : List Int} {n : Nat} (C : Chk S n) {f : Nat → Bool} {p : Nat} (hp : p < n) : ∀ {rs : List (List Int)}, (∀ r ∈ rs, RIn S r) → decide ((((metOf (setL n f) S rs).count (p : Int) : Nat) : Int).fmod 2 = 1) = X S rs f p
  | [], _ => by simp [metOf, X]
  | r :: rs, hr => by
    have ih := met_X C (f := f) hp (rs := rs) fun q hq => hr q (List.mem_cons_of_mem _ hq)
    have e : metOf (setL n f) S (r :: rs) = (setL n f).map (imageOf S r) ++ metOf (setL n f) S rs := by unfold metOf; rw [List.flatMap_cons]
    rw [e, List.count_append, count_image C (hr r List.mem_cons_self) hp, X_cons, ← ih, fmod_nat2, fmod_nat2]
    generalize (metOf (setL n f) S rs).count (p : Int) = c
    cases f (way S r p) with
    | true =>
      simp only [if_true]
      by_cases h : c % 2 = 1
      · rw [show (1 + c) % 2 = 0 by omega, h]; rfl
      · rw [show (1 + c) % 2 = 1 by omega, show c % 2 = 0 by omega]; rfl
    | false =>
      simp
theorem lawMet_X {S : List Int} {n : Nat} (C : Chk S n) {f : Nat → Bool} {rs : List (List Int)} (hr : ∀ r ∈ rs, RIn S r) : lawMet (setL n f) S rs n = setL n (X S rs f) :=
  setL_congr fun _ hp => met_X C hp hr

theorem law_true (sc : List Int) : LawTrue sc := by
  have C : Chk (sizesOf sc) (lenOf sc) := chk_of (sizesOf_mem sc)
  have hws : ∀ k, k < (sizesOf sc).length → ((wsOf sc).getD k 0).toNat = wAt (sizesOf sc) k := fun k hk => by
    have : (wsOf sc).getD k 0 = prodTo (sizesOf sc) (k + 1) := by unfold wsOf widthsL; simp [hk]
    rw [this]; rfl
  have hrs : ∀ r ∈ rsOf sc, RIn (sizesOf sc) r := fun r hr => by
    obtain ⟨x, _, rfl⟩ := List.mem_map.mp hr
    have hl := sizesOf_len sc
    have wl := wsOf_len sc
    intro k hk
    have := (runL_ok (m := (wsOf sc).length) (by omega) (by omega) x).2.2 k hk
    omega
  have h1 : ∀ r ∈ (rsOf sc).take (cutL (nums sc)).toNat, RIn (sizesOf sc) r := fun r hr => hrs r (List.mem_of_mem_take hr)
  have h2 : ∀ r ∈ (rsOf sc).drop (cutL (nums sc)).toNat, RIn (sizesOf sc) r := fun r hr => hrs r (List.mem_of_mem_drop hr)
  have f1 : ∀ p, p < lenOf sc → fOf sc 1 p = X (sizesOf sc) ((rsOf sc).take (cutL (nums sc)).toNat) (markB (nums sc)) p := fun p hp => by
    unfold fOf; rw [fsOf_succ (p := (rsOf sc).take (cutL (nums sc)).toNat) rfl]
    exact tot_X C hws h1 hp
  have f2 : ∀ p, p < lenOf sc → fOf sc 2 p = X (sizesOf sc) ((rsOf sc).drop (cutL (nums sc)).toNat) (X (sizesOf sc) ((rsOf sc).take (cutL (nums sc)).toNat) (markB (nums sc))) p := fun p hp => by
    have : fOf sc 2 = tot (lenOf sc) (wsOf sc) (fOf sc 1) ((rsOf sc).drop (cutL (nums sc)).toNat) := by unfold fOf; rw [fsOf_succ (p := (rsOf sc).drop (cutL (nums sc)).toNat) rfl]
    rw [this, tot_X C hws h2 hp]
    exact X_congr C f1 hp h2
  have f3 : ∀ p, p < lenOf sc → fOf sc 3 p = X (sizesOf sc) ((rsOf sc).take (cutL (nums sc)).toNat) (X (sizesOf sc) ((rsOf sc).drop (cutL (nums sc)).toNat) (X (sizesOf sc) ((rsOf sc).take (cutL (nums sc)).toNat) (markB (nums sc)))) p := fun p hp => by
    have : fOf sc 3 = tot (lenOf sc) (wsOf sc) (fOf sc 2) ((rsOf sc).take (cutL (nums sc)).toNat) := by unfold fOf; rw [fsOf_succ (p := (rsOf sc).take (cutL (nums sc)).toNat) rfl]
    rw [this, tot_X C hws h1 hp]
    exact X_congr C f2 hp h1
  have nl := nums_len sc
  have hcut : 0 ≤ cutL (nums sc) ∧ cutL (nums sc) ≤ ((nums sc).length : Int) := by
    have m0 := fmod_lo (a := (nums sc).sum.fdiv 5) (b := ((nums sc).length : Int) - 1) (by omega)
    have m1 := fmod_hi (a := (nums sc).sum.fdiv 5) (b := ((nums sc).length : Int) - 1) (by omega)
    unfold cutL; omega
  have hlen : ((rsOf sc).take (cutL (nums sc)).toNat).length = (cutL (nums sc)).toNat := by
    rw [List.length_take]
    unfold rsOf; rw [List.length_map]; omega
  refine ⟨?_, ?_, ?_⟩
  · rw [lawMet_X C h1]; exact setL_congr f1
  · rw [lawMet_X C h1, lawMet_X C h2]; exact setL_congr f2
  · rw [lawMet_X C h2]
    have g3 : ∀ p, p < lenOf sc → fOf sc 3 p = if (cutL (nums sc)).toNat % 2 = 1 then X (sizesOf sc) ((rsOf sc).drop (cutL (nums sc)).toNat) (markB (nums sc)) p else false := fun p hp => by
      rw [f3 p hp, X_congr C (g := X (sizesOf sc) ((rsOf sc).take (cutL (nums sc)).toNat) (X (sizesOf sc) ((rsOf sc).drop (cutL (nums sc)).toNat) (markB (nums sc)))) (fun q hq => X_comm C h1 hq h2) hp h1, X_sq C hp h1, hlen]
    have hpar : (cutL (nums sc)).fmod 2 = (((cutL (nums sc)).toNat % 2 : Nat) : Int) := by
      rw [← fmod_nat2]; congr 1; omega
    rw [hpar]
    by_cases hc : (cutL (nums sc)).toNat % 2 = 1
    · rw [if_pos (by omega)]
      exact setL_congr fun p hp => by rw [g3 p hp, if_pos hc]
    · rw [if_neg (by omega), ← setL_none (lenOf sc)]
      exact setL_congr fun p hp => by rw [g3 p hp, if_neg hc]
end Mine

namespace Mine
open Sem (wp)

theorem good_true {c : ClaimW} {cl : Str → Option Addr} {mean : ExcName → Option Value} {args : List WData} {s₁ s' : Shared} (e : Ext s₁.heap s'.heap) (hg : s'.gens = #[]) (hn : ∀ cls, c.raises args cls = false) (hp : c.post args (.bool true) args = true) (hos : s'.os = s₁.os) :
    GoodWG c cl mean args s₁ (.ok (.ret (.bool true))) s' := GoodW.toG ⟨.inl ⟨.bool true, .bool true, [], rfl, hn, .bool true, hp, unshared_nil⟩, e, hos, hg⟩

theorem recs_B : (recsOf hd.view_39)[0]? = some dB := by kernel_rfl
theorem recs_S : (recsOf hd.view_39)[1]? = some dS := by kernel_rfl
theorem recs_M : (recsOf hd.view_39)[2]? = some dM := by kernel_rfl
theorem recs_L : (recsOf hd.view_39)[3]? = some dL := by kernel_rfl

theorem gl_top {mean : ExcName → Option Value} {mg mb : Str → Option Value} {h : Heap} (T : Top hd.view_39 (looseW hd.view_39 []) mean mg mb h) : Gl mg mb h := by
  refine ⟨T.g, T.b, T.nolimit, ?_⟩
  intro x v hx
  simp only [biList, List.mem_cons, List.not_mem_nil, or_false, Prod.mk.injEq] at hx
  rcases hx with ⟨rfl, rfl⟩ | ⟨rfl, rfl⟩ | ⟨rfl, rfl⟩ | ⟨rfl, rfl⟩ | ⟨rfl, rfl⟩ | ⟨rfl, rfl⟩ | ⟨rfl, rfl⟩ <;>
    exact ⟨T.free _ (by decide +kernel) (by decide +kernel) (by decide +kernel) (by decide +kernel) (by decide +kernel), (T.builtins _ (by decide +kernel)).trans (by boot_by_name)⟩
theorem fnAt_top {mean : ExcName → Option Value} {mg mb : Str → Option Value} {h : Heap} (T : Top hd.view_39 (looseW hd.view_39 []) mean mg mb h) {d : DefRec} {i : Nat} (hd' : (recsOf hd.view_39)[i]? = some d) : ∃ a, FnAt mg h d a := by
  obtain ⟨a, o, pm, code, doc, h1, h2, h3, h4⟩ := T.fn d (List.mem_of_getElem? hd')
  exact ⟨a, h1, o, pm, code, doc, h2, h3, h4⟩

/-- law(script) answers True -/
theorem law_call {prog : Program} {w : World} {mean : ExcName → Option Value} {mg mb : Str → Option Value} {s : Shared} (T : Top hd.view_39 (looseW hd.view_39 []) mean mg mb s.heap) {fa X : Addr} {sc : List Int} {Q : Value → Shared → Prop} {E : Value → Shared → Prop}
    (hmg : mg dL.name = some (.ref fa)) (hX : IL s.heap X sc) (hl : sc.length ≤ 100) (hQ : ∀ h' tk, Ext s.heap h' → Q (.bool true) { s with heap := h', toks := tk }) :
    wpD (model prog w) callerA (PySem.call (.ref fa) [.ref X]) Q E s := by
  obtain ⟨aB, fB⟩ := fnAt_top T recs_B
  obtain ⟨aS, fS⟩ := fnAt_top T recs_S
  obtain ⟨aM, fM⟩ := fnAt_top T recs_M
  obtain ⟨aL, fL⟩ := fnAt_top T recs_L
  have e : aL = fa := by
    have h := fL.1
    rw [hmg] at h
    injection h with h
    injection h with h
    exact h.symm
  subst e
  have G := gl_top T
  obtain ⟨_, o, pm, cd, doc, ho, hdata, hcd⟩ := fL
  refine wpD_call (codeD_fn (binds := [("script", .ref X)]) (by decide +kernel) ho hdata G.lim hcd rfl (locs rfl) (fun h₁ tk K V e hF => ?_) rfl rfl rfl)
  exact law_body (s := { s with heap := h₁, toks := tk }) (g := s.heap) (A := callerA.deeper _) rfl rfl rfl (show callerA.depth + 1 < recursionLimit by decide +kernel) (show callerA.units + 3 + 64 < cLine by decide +kernel) K ⟨G, fB, fS, fM, fun b hb => (hF b hb).1⟩ e V (hX.ext e) rfl hl (law_true sc) fun h' tk' e' => hQ h' tk' e'
end Mine
theorem PySem.Challenge.cw_oc0015_01_holds : PySem.Challenge.rw_oc0015_01.Holds := by
  refine Mine.hd ?_
  intro w s₀ s₁ mg mb G Y fa o pm cd doc dV kV ho hdd hcd hD hmg hg args vals as hpre hlay hrd hwl hlo
  refine Ground.open G ?_
  intro T B D TE TW
  wrow_args hpre hlay hrd hwl hlo
  rename s₁.heap.IsList _ _ => hL
  rename IntsAre _ _ => hI
  rename ¬ _ < _ => hc
  refine ⟨Mine.law_call T hmg ⟨_, hL, hI⟩ (by omega) fun h' tk e => ?_, ?_⟩
  · exact Mine.good_true e hg (raisesW_false (by wrow_none_raised)) (by wrow_post) rfl
  · exact Mine.good_true (Mine.Ext.refl _) hg (raisesW_false (by wrow_none_raised)) (by wrow_post) rfl
