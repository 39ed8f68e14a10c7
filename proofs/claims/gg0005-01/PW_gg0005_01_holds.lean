import PyProof.Rows.All
import Wide.All
import OpenK.AllK
import Wide.FinOn
import Lean
import PySem.Challenge.RW_gg0005_01
set_option Elab.async false
set_option rowWalk.seconds 0
section
open PySem PySem.W PyProof.Rows
namespace Mine
/-- a goal that the walker leaves to the proof's own text -/
def Held (P : Prop) : Prop := P
theorem Held.on {P : Prop} (h : Held P) : P := h
theorem Held.off {P : Prop} (h : P) : Held P := h
section
variable {M : Model} {A : Around} {E Q : Value → Shared → Prop} {U : Unit → Shared → Prop} {s : Shared} {xs : List Value} {ks : List (Str × Value)} {a b : Addr} {x y : Array UInt8} {t u : Tok} {i j : Int} {e v : Expr}
theorem held28 (h : Held (wpAny M A (call (.ref 28) xs ks) Q E s)) : wpAny M A (call (.ref 28) xs ks) Q E s := h
theorem held63 (h : Held (wpAny M A (call (.ref 63) xs ks) Q E s)) : wpAny M A (call (.ref 63) xs ks) Q E s := h
theorem held68 (h : Held (wpAny M A (call (.ref 68) xs ks) Q E s)) : wpAny M A (call (.ref 68) xs ks) Q E s := h
theorem held75 (h : Held (wpAny M A (call (.ref 75) xs ks) Q E s)) : wpAny M A (call (.ref 75) xs ks) Q E s := h
theorem heldLenB (h : Held (wpAny M A (call (.builtin "len") [.bytes x t] ks) Q E s)) : wpAny M A (call (.builtin "len") [.bytes x t] ks) Q E s := h
theorem heldLenR (h : Held (wpAny M A (call (.builtin "len") [.ref a] ks) Q E s)) : wpAny M A (call (.builtin "len") [.ref a] ks) Q E s := h
theorem heldSet (h : Held (wpAny M A (setItem (.ref a) (.int i t) (.int j u)) U E s)) : wpAny M A (setItem (.ref a) (.int i t) (.int j u)) U E s := h
theorem heldBytes (h : Held (wpAny M A (call (.type "bytes") [.ref a] ks) Q E s)) : wpAny M A (call (.type "bytes") [.ref a] ks) Q E s := h
theorem heldList (h : Held (wpAny M A (call (.type "list") [.bytes x t] ks) Q E s)) : wpAny M A (call (.type "list") [.bytes x t] ks) Q E s := h
theorem heldAdd (h : Held (wpAny M A (binaryOp .Add (.ref a) (.ref b)) Q E s)) : wpAny M A (binaryOp .Add (.ref a) (.ref b)) Q E s := h
theorem heldIn (h : Held (wpAny M A (compareOp .In (.bytes x t) (.ref a)) Q E s)) : wpAny M A (compareOp .In (.bytes x t) (.ref a)) Q E s := h
theorem heldNotIn (h : Held (wpAny M A (compareOp .NotIn (.bytes x t) (.ref a)) Q E s)) : wpAny M A (compareOp .NotIn (.bytes x t) (.ref a)) Q E s := h
theorem heldSlice {e1 e2 : Option Expr} {p : Pos} (h : Held (wpAny M A (subscriptTail v (.Slice e1 e2 none p) (.ref a) (.ref b)) Q E s)) : wpAny M A (subscriptTail v (.Slice e1 e2 none p) (.ref a) (.ref b)) Q E s := h
theorem no_exc {α : Type} {M : Model} {A : Around} {E : Value → Shared → Prop} {t : Sem α} {Q : α → Shared → Prop} {s : Shared} (h : wpAny M A t Q (fun _ _ => False) s) : wpAny M A t Q E s := wpAny_mono h (fun _ _ x => x) fun _ _ x => x.elim
theorem heldRef {M : Model} {A : Around} {E Q : Value → Shared → Prop} {s : Shared} {xs : List Value} {ks : List (Str × Value)} {a : Addr} (h : Held (wpAny M A (call (.ref a) xs ks) Q E s)) : wpAny M A (call (.ref a) xs ks) Q E s := h
theorem gen_toks {α : Type} {M : Model} {A : Around} {E : Value → Shared → Prop} {t : Sem α} {Q : α → Shared → Prop} {h : Heap} {g : Array GenState} {d : Drawn} {a b : Nat} {o : OsState} (H : ∀ k, wpAny M A t Q E ⟨h, g, d, k, o⟩) : wpAny M A t Q E ⟨h, g, d, a + b, o⟩ := H _
end
end Mine
end
section
open PySem PySem.W PyProof.Rows
set_option maxRecDepth 100000
namespace Mine
open Sem (wp)
/-- the codes that may hold a byte array's buffer -/
def holders : List String := ["bytearray.__contains__", "bytearray.__mod__", "bytearray.__rmod__", "_struct.pack_into.held", "bytearray.find.held"] ++ Builtin.Bytes.decodersThatHold
def free : Code → Bool
  | .builtin id _ => !holders.contains id
  | _ => true
/-- no code of the stack holds a buffer -/
def Free (Γ : Ctx) : Prop := free Γ.code = true ∧ ∀ q ∈ Γ.below, free q.1 = true
def FreeB (Γ : Ctx) : Prop := ∀ q ∈ Γ.below, free q.1 = true
def wpC {α : Type} (M : Model) (A : Around) (t : Sem α) (Q : α → Shared → Prop) (E : Value → Shared → Prop) (s : Shared) : Prop :=
  ∀ Γ p, Γ.In A → Free Γ → wp M Γ t (fun a _ s' => Q a s') (fun e _ s' => E e s') p s
def codeC (M : Model) (A : Around) (c : Code) (R : Result → Shared → Prop) (s : Shared) : Prop :=
  ∀ Γ p, Γ.code = c → Γ.Below A → FreeB Γ → wpCode M Γ R p s
section
variable {α β : Type} {M : Model} {A : Around} {E : Value → Shared → Prop} {s : Shared}
theorem wpC_of {t : Sem α} {Q : α → Shared → Prop} (h : wpAny M A t Q E s) : wpC M A t Q E s := fun Γ p hΓ _ => h Γ p hΓ
theorem codeC_of {c : Code} {R : Result → Shared → Prop} (h : codeAny M A c R s) : codeC M A c R s := fun Γ p hc hΓ _ => h Γ p hc hΓ
theorem wpC_mono {t : Sem α} {Q Q' : α → Shared → Prop} {E' : Value → Shared → Prop} (h : wpC M A t Q E s) (hQ : ∀ a s, Q a s → Q' a s) (hE : ∀ e s, E e s → E' e s) : wpC M A t Q' E' s :=
  fun Γ p hΓ fr => Sem.wp_mono M Γ t (fun a _ s => hQ a s) (fun e _ s => hE e s) p s (h Γ p hΓ fr)
theorem codeC_mono {c : Code} {R R' : Result → Shared → Prop} (h : codeC M A c R s) (hR : ∀ r s, R r s → R' r s) : codeC M A c R' s :=
  fun Γ p hc hΓ fr => wpCode_mono hR (h Γ p hc hΓ fr)
theorem wpC_pure {a : α} {Q : α → Shared → Prop} (h : Q a s) : wpC M A (pure a) Q E s := fun _ _ _ _ => h
theorem wpC_bind {m : Sem α} {f : α → Sem β} {Q : β → Shared → Prop} (h : wpC M A m (fun a s' => wpC M A (f a) Q E s') E s) : wpC M A (m >>= f) Q E s :=
  fun Γ p hΓ fr => by
    rw [Sem.wp_bind']
    exact Sem.wp_mono M Γ m (fun a p' s' h' => h' Γ p' hΓ fr) (fun _ _ _ h' => h') p s (h Γ p hΓ fr)
/-- the first part by the library's walk, the rest here -/
theorem wpC_step {m : Sem α} {f : α → Sem β} {Q : β → Shared → Prop} (h : wpAny M A m (fun a s' => wpC M A (f a) Q E s') E s) : wpC M A (m >>= f) Q E s := wpC_bind (wpC_of h)
theorem wpC_onRaise {m : Sem α} {k : Value → Sem Unit} {Q : α → Shared → Prop}
    (h : wpC M A m Q (fun e s' => wpC M A (k e) (fun _ s'' => E e s'') E s') s) : wpC M A (m.onRaise k) Q E s := fun Γ p hΓ fr => by
  rw [Sem.wp_onRaise]
  exact Sem.wp_mono M Γ m (fun _ _ _ h' => h') (fun e p' s' h' => h' Γ p' hΓ fr) p s (h Γ p hΓ fr)
theorem wpC_holding {vs : List Value} {m : Sem α} {Q : α → Shared → Prop} (h : wpC M A m Q E s) : wpC M A (holding vs m) Q E s :=
  fun Γ p hΓ fr => by rw [Sem.wp_holding]; exact h Γ p hΓ fr
theorem wpC_keep {vs : List Value} {m : Sem α} {Q : α → Shared → Prop} (h : wpC M A m Q E s) : wpC M A (m.keep vs) Q E s :=
  fun Γ p hΓ fr => by rw [Sem.wp_keep]; exact h Γ p hΓ fr
theorem freeB_enter {Γ : Ctx} (fr : Free Γ) (c : Code) (h : Option Value) (p : Pos) : FreeB (Γ.enter c h p) := fun q hq => by
  rcases List.mem_cons.mp hq with e | hq
  · rw [e]; exact fr.1
  · exact fr.2 q hq
theorem wpC_run {c : Code} {h : Option Value} {Q : Flow → Shared → Prop}
    (hc : codeC M (A.mark h) c (fun r s' => match r with | .ok f => Q f s' | .error e => E e s') s) (hnb : h ≠ some byPass := by intro x; cases x) : wpC M A (run c h) Q E s :=
  fun Γ p hΓ fr => by rw [Sem.wp_run]; exact hc _ p rfl (hΓ.enter c h p hnb) (freeB_enter fr c h p)
theorem wpC_runValue {c : Code} {Q : Value → Shared → Prop}
    (hc : codeC M A c (fun r s' => match r with | .ok (.ret v) => Q v s' | .ok _ => False | .error e => E e s') s) : wpC M A (runValue c) Q E s :=
  fun Γ p hΓ fr => by rw [Sem.wp_runValue]; exact hc _ p rfl (hΓ.enter c none p (by intro x; cases x)) (freeB_enter fr c none p)
theorem wpC_call {f : Value} {pos : List Value} {kw : List (Str × Value)} {Q : Value → Shared → Prop}
    (hc : codeC M A (.call f ⟨pos, kw⟩) (fun r s' => match r with | .ok (.ret v) => Q v s' | .ok _ => False | .error e => E e s') s) : wpC M A (call f pos kw) Q E s := wpC_runValue hc
theorem codeC_of_tree {c : Code} {R : Result → Shared → Prop} (hk : free c = true)
    (h : wpC M (A.under c) (M.den c) (fun fin s' => match fin with | .done f => R (.ok f) s' | .again c' => c'.quiet = true ∧ codeC M A c' R s') (fun e s' => R (.error e) s') s) : codeC M A c R s :=
  fun Γ p hc hΓ fr => by
    rw [wpCode_iff_wp, hc]
    refine Sem.wp_mono M Γ _ (fun fin p' s' h' => ?_) (fun _ _ _ h' => h') p s (h Γ p (hc ▸ hΓ.in) ⟨by rw [hc]; exact hk, fr⟩)
    cases fin with
    | done f => exact h'
    | again c' => exact ⟨h'.1, h'.2 (Γ.goto c') p' rfl (hΓ.goto c') fr⟩
theorem wpC_stack {Q : List (Code × Pos) → Shared → Prop} (h : ∀ st : List (Code × Pos), (∀ q ∈ st, free q.1 = true) → Q st s) : wpC M A stack Q E s := fun Γ p _ fr => by
  show Q ((Γ.code, p) :: Γ.below) s
  refine h _ fun q hq => ?_
  rcases List.mem_cons.mp hq with e | hq
  · rw [e]; exact fr.1
  · exact fr.2 q hq
end
end Mine
end
section
open PySem PySem.W PyProof.Rows PySem.Spec PySem.Calls
set_option maxRecDepth 100000
namespace Mine
/-- the thread of the claim's caller: its stack is empty, so it holds no buffer -/
theorem thread_ends {prog : Program} {w : World} {t : Sem Fin} {s : Shared} {R : Result → Shared → Prop} (hreg : s.asleep)
    (h : wpC (model prog w) callerA t (fun fin s' => ∃ f, fin = .done f ∧ R (.ok f) s' ∧ leftWithCleanup s'.gens = false) (fun e s' => R (.error e) s' ∧ leftWithCleanup s'.gens = false) s) :
    ∃ n r s' s'', runN (denote table) prog w n s ⟨t, .builtin "claim.caller" {}, default, []⟩ = .halted (outcomeOf r) s' ∧
      schedN (denote table) prog w n (.single s ⟨t, .builtin "claim.caller" {}, default, []⟩) = .halted (outcomeOf r) s' ∧ s'.forget = s''.forget ∧ R r s'' := by
  have g := h ⟨.builtin "claim.caller" {}, none, none, [], none⟩ default caller_in ⟨by decide +kernel, fun _ hq => nomatch hq⟩
  have g' := Sem.wp_mono (model prog w) _ t (post' := Sem.finPost (model prog w) ⟨.builtin "claim.caller" {}, none, none, [], none⟩ fun r s' => R r s' ∧ leftWithCleanup s'.gens = false)
    (exc' := fun e _ s' => R (.error e) s' ∧ leftWithCleanup s'.gens = false) (fun fin p s' q => by obtain ⟨f, rfl, q⟩ := q; exact q) (fun _ _ _ q => q) default s g
  obtain ⟨n, r, s₁, s₂, hs, hn, hfo, hR⟩ := wp_halts_full (M := model prog w) hreg g'
  exact ⟨n, r, s₂, s₁, hn, hs, hfo, hR⟩
/-- what a walk has to show, on stacks that hold no buffer -/
abbrev WalkC (q : Program) (loose : List Str) (XP : (Str → Option Value) → Heap → Prop) (YP : World → Heap → Prop) (r : RowW) (d : DefRec) (kwd : List (Str × Expr)) : Prop :=
  ∀ (w : World) (s₀ s₁ : Shared) (mg mb : Str → Option Value), Ground q loose r.records XP w s₀ mg mb s₁.heap → YP w s₁.heap → ∀ (a : Addr) (o : Obj) (pm cd doc dV kV : Value), s₁.heap.get? a = some o →
    o.data = .func { docDef d.name d.params d.body d.scope pm cd doc with defaults := dV, kwdefaults := kV } → s₁.heap.CodeRec cd d.name → Dflts mg s₁.heap d.params kwd dV kV → mg d.name = some (.ref a) → s₁.gens = #[] →
    ∀ (args : List WData) (vals : List Value) (as : List Addr), r.claim.pre args = true → WData.layableAll args = true → ReadsAllW r.records (classAt s₀.heap) s₁.heap vals args as → WellAll w.params s₁.heap vals args → (∀ a ∈ as, (a == sysModules) = false) →
      codeC (model r.prog w) callerA (.call (.ref a) ⟨vals, []⟩) (GoodWG r.claim (classAt s₀.heap) (ExcName.means s₀.heap) args s₁) s₁
theorem calls_well {r : RowW} {nm : Str} {w : World} {s₀ : Shared} {free : Addr → Prop} {gens : Prop} {kept : Heap → Prop} (hz : s₀.asleep) (hgens : s₀.gens = #[]) (hfr : (frees r && r.within.isEmpty) = true) (has : ∀ (P : Params) ord args, r.claim.pre args = true → (layAllW r.records (classAt s₀.heap) P ord args s₀).isSome = true)
    (call : ∀ (s₁ : Shared) (args : List WData) (vs : List Value) (as : List Addr), r.claim.pre args = true → WData.layableAll args = true → Laid r.records w s₀ s₁ args vs as → ∃ mg f, s₁.heap.Ns mainGlobals mg ∧ mg nm = some f ∧
      codeC (model r.prog w) callerA (.call f ⟨vs, []⟩) (GoodWG r.claim (classAt s₀.heap) (ExcName.means s₀.heap) args s₁) s₁)
    (hold : ∀ (s₁ : Shared) (h' : Heap), (∀ b o, s₀.heap.get? b = some o → s₁.heap.get? b = some o) → (∀ b o, s₁.heap.get? b = some o → asItWas s₁.heap h' b o) → kept h') :
    r.claim.CallFrom (fun vs => ⟨do match ← nsGet mainNs nm with
      | some f => do ret (← PySem.call f vs)
      | none => unsupported "claim.caller:no-such-global", .builtin "claim.caller" {}, default, []⟩) w free gens kept s₀ := by
  obtain ⟨k5, k6⟩ := Bool.and_eq_true_iff.mp hfr
  obtain ⟨hsame, hu, ha, hap, _⟩ := frees_parts k5
  have hwi : r.claim.within = [] := List.isEmpty_iff.mp k6
  have hi := ident_freeW hu ha hap
  intro args hpre hlay ord hord
  obtain ⟨⟨vs, s₁⟩, hlaid⟩ := Option.isSome_iff_exists.mp (has w.params ord args hpre)
  have keeps := layAllW_keeps _ _ _ hlaid
  have hal := layAllW_rest _ _ _ hlaid
  obtain ⟨as, hrd, hin, hold'⟩ := reads_layAllW hord _ _ _ hlaid hlay s₁.heap (fun _ _ e => e)
  have L : Laid r.records w s₀ s₁ args vs as := ⟨⟨ord, hord, hlaid⟩, hrd, hin, hold', keeps, hal.1.trans hgens, hal.2.2.1⟩
  obtain ⟨mg, f, hG, hf, hc⟩ := call s₁ args vs as hpre hlay L
  obtain ⟨k, res, s', s'', hrun, hsched, hfo, hcase, hos, hkp⟩ := thread_ends (prog := r.prog) (w := w) (R := fun res s' => r.claim.Ends s₀ args vs s₁ res s' ∧ s'.os = s₀.os ∧ kept s'.heap)
    (t := do match ← nsGet mainNs nm with
      | some f => do ret (← PySem.call f vs)
      | none => unsupported "claim.caller:no-such-global") (s := s₁) (Shared.asleep_of_life hal.2.2.2 hz) (by
        refine wpC_step (wpAny_nsGet hG ?_)
        rw [hf]
        refine wpC_bind (wpC_call (codeC_mono hc fun res s' g => ?_))
        have z := g.laid (c := r.claim) hsame hwi hi L
        have y := hold s₁ s'.heap keeps g.2.1.old
        rcases g.1 with ⟨v, _, _, rfl, _⟩ | ⟨e, _, _, rfl, _⟩
        · exact wpC_pure ⟨_, rfl, ⟨z.1, z.2.1, y⟩, leftWithCleanup_false_of_bare z.2.2⟩
        · exact ⟨⟨z.1, z.2.1, y⟩, leftWithCleanup_false_of_bare z.2.2⟩)
  obtain ⟨eh, _, _, eo, _⟩ := Shared.forget_eq hfo
  have hcase := hcase.congr eh
  rw [← eh] at hkp
  rw [← eo] at hos
  have hlife : s'.heap.life = s₀.heap.life := (runN_life _ _ _ hrun).trans hal.2.2.2
  refine ⟨vs, s₁, hlaid, k, _, s', hsched, ?_, (fun _ i x hx => by rw [hgens] at hx; simp at hx), hkp, by rw [hlife], Shared.rest_eq hos⟩
  rcases hcase with ⟨v, rfl, d1, d2, d3, d4, d5⟩ | ⟨e, ob, cls, rfl, d1, d2, d3, d4, d5⟩
  · exact .inl ⟨v, rfl, d1, d2, d3, fun b o y _ => d4 b o y, d5⟩
  · exact .inr ⟨e, ob, cls, rfl, d1, d2, d3, d4, fun b o y _ => d5 b o y⟩
end Mine
namespace Mine.PySem.W
/-- the kit's head of an open law, asking the walk on stacks that hold no buffer alone -/
theorem holds_open {r : OpenRow} {q : Program} {loose : List Str} {Xt : Shared → Bool} {XP : (Str → Option Value) → Heap → Prop} {α : Type} {Yf : Shared → α} {Ya : World → α} {YP : World → Heap → Prop} {d : DefRec} {kwd : List (Str × Expr)} {N : Nat}
    (left : LeftO r.prog q loose Xt Yf Ya N) (hY : ∀ w s, Yf s = Ya w → YP w s.heap) (hYk : ∀ w h h', YP w h → (∀ b o, h.get? b = some o → h'.get? b = some o) → YP w h')
    (hX : ∀ s, Xt s = true → XP (s.heap.nsMap mainGlobals) s.heap) (hXk : ∀ mg h h', XP mg h → (∀ b o, h.get? b = some o → h'.get? b = some o) → XP mg h')
    (hdef : defOf q r.name = some (d, kwd)) (hp : r.prog.theDef r.name = some (d.params, d.body, d.scope)) (hk : kwWritten? d.params.kwonlyargs d.params.kw_defaults = some kwd) (hRf : ∀ s, Xt s = true → RecFacts r.records s.heap) (hwr : (!r.writes || r.records.isEmpty) = true)
    (k1 : r.wellSaid = true) (ok : (chainsOk q && opensWell r.prog && (frees r.toRowW && r.within.isEmpty)) = true) (hb : r.prog.bare) (hw : r.toRowW.promised)
    (call : WalkC q loose XP YP r.toRowW d kwd) : r.Holds := by
  obtain ⟨ok1, hfr⟩ := Bool.and_eq_true_iff.mp ok
  obtain ⟨hch, o1⟩ := Bool.and_eq_true_iff.mp ok1
  have hm := (frees_parts (Bool.and_eq_true_iff.mp hfr).1).2.2.2.2
  refine ⟨k1, hw, ⟨hb, o1, by show r.makers.map _ = []; rw [hm]; rfl⟩, hw.witness, fun w => ⟨(left.behind hX hch w).1, fun sr hs => ?_⟩⟩
  obtain ⟨s₀, hf, hg0, s, hT, hz, hgens, hg, GX, y⟩ := (left.behind (XP := fun mg h => XP mg h ∧ RecFacts r.records h) (fun s h => ⟨hX s h, hRf s h⟩) hch w).2 sr hs
  have RF := GX.X.2
  have G0 : Ground q loose [] XP w s (s.heap.nsMap mainGlobals) (s.heap.nsMap builtinsNs) s.heap := ⟨GX.T, GX.B, GX.D, GX.TE, GX.TD, GX.W, GX.X.1, GX.cls, GX.has, GX.apart, GX.once, GX.K⟩
  have G : Ground q loose r.records XP w s _ _ s.heap := RF.ground G0
  have hgens : s.gens = #[] := Array.eq_empty_of_size_eq_zero (beq_iff_eq.mp hgens)
  refine ⟨s₀, hf, hg0, s, hT, fun n hn => ?_, RF.1, RF.2.1, ?_⟩
  · obtain rfl : n = r.name := by split at hn <;> simp_all
    exact pinned_of_view hg G0 hdef hp hk
  · refine Mine.calls_well (r := r.toRowW) hz hgens hfr (fun P ord args hpre => layAllW_isSome G.has args r.args s (pre_splitW hpre).1) (fun s₁ args vs as hpre hlay L => ?_) (fun s₁ h' kl old qw => ⟨namesKept_of (s' := { s with heap := h' }) hT hg _ kl old, noTable hwr qw⟩)
    have G₁ := G.keeps hXk L.keeps
    obtain ⟨a, o, pm, cd, doc, dV, kV, h1, h2, h3, h4, h5⟩ := G₁.fn hdef
    exact ⟨_, .ref a, G₁.T.g, h1, call w s s₁ _ _ G₁ (hYk _ _ _ (hY w s y) L.keeps) a o pm cd doc dV kV h2 h3 h4 h5 (defOf_name hdef ▸ h1) L.gens args vs as hpre hlay L.reads L.well (L.low G.low)⟩
end Mine.PySem.W
namespace Mine
open_top hd for PySem.Challenge.rw_gg0005_01

end Mine
end
section
open PySem PySem.W PyProof.Rows PySem.Spec PySem.Calls
set_option maxRecDepth 100000
namespace Mine
section
variable {prog : Program} {w : World} {A : Around} {E : Value → Shared → Prop} {s : Shared} {R : Result → Shared → Prop}
theorem codeC_func {body : List Stmt} {env : Env} (h : wpC (model prog w) (A.deeper env) (execs body env) (fun f s' => R (.ok (.ret (match f with | .ret v => v | _ => .none))) s') (fun _ _ => False) s) :
    codeC (model prog w) A (.func body env) R s := by
  refine codeC_of_tree rfl ?_
  show wpC _ (A.deeper env) (do point; match ← (execs body env).onRaise (leaving env) with | .ret v => ret v | _ => ret .none) _ _ s
  refine wpC_step (wpAny_point (wpC_bind (wpC_onRaise (wpC_mono h (fun f s' h' => ?_) fun _ _ x => x.elim))))
  cases f <;> exact wpC_pure h'
theorem codeC_fun {a : Addr} {args : Args} {o : Obj} {fd : FuncData} {body : List Stmt} (hroom : A.depth < recursionLimit) (ho : s.heap.get? a = some o)
    (hd' : o.data = .func fd) (hco : fd.scope.isCoroutine = false) (hgen : fd.scope.isGenerator = false) (hbody : fd.body = .stmts body) (hcd : s.heap.CodeRec fd.code fd.qualname)
    (h : wpAny (model prog w) A.in1 (bindArgs fd args) (fun binds s₁ =>
      wpAny (model prog w) A.in1 (newFunctionEnv fd.scope fd.globals fd.closure binds (fd.qualname ++ ".<locals>.") (some a) fd.code none fd.builtins)
        (fun env s₂ => s₂.heap.NoLimit ∧ codeC (model prog w) A (.func body env) R s₂) (fun e s' => R (.error e) s') s₁) (fun e s' => R (.error e) s') s) :
    codeC (model prog w) A (.call (.ref a) args) R s := by
  refine codeC_of_tree rfl ?_
  show wpC _ A.in1 (callAny (.ref a) args) _ _ s
  simp only [callAny]
  refine wpC_step (wpAny_load ho ?_)
  obtain ⟨c, oc, vs, tq, hc, hoc, hdc, hq⟩ := hcd
  simp only [hd', callFunction, hco, hgen, hbody, hc]
  rw [hc] at h
  refine wpC_step (m := field (.ref c) 1) (wpAny_field hoc hdc hq (wpC_step (wpAny_pure ?_)))
  exact wpC_step (wpAny_mono h (fun binds s₁ h₁ => wpC_step (wpAny_mono h₁ (fun env s₂ h₂ => wpC_step (wpAny_enterFrame h₂.1 hroom (wpC_pure (And.intro rfl h₂.2)))) fun _ _ z => z)) fun _ _ z => z)
/-- the law's own frame, its captured names in cells -/
theorem enter_law {name : Str} {params : Arguments} {body : List Stmt} {scope : Scope} {pm cd doc : Value} {a : Addr} {o : Obj} {args : List Value} {binds : List (Str × Value)}
    (hroom : A.depth < recursionLimit) (ho : s.heap.get? a = some o) (hdata : o.data = .func (Calls.docDef name params body scope pm cd doc)) (hlim : s.heap.NoLimit) (hcd : s.heap.CodeRec cd name)
    (hbind : bindArgs (Calls.docDef name params body scope pm cd doc) ⟨args, []⟩ = pure binds)
    (hkind : ∀ x ∈ binds, scope.names.lookup x.1 = some .local ∨ (scope.names.lookup x.1 = some .cell ∧ ((cellsFrom (s.heap.objs.size + 1) scope.names []).lookup x.1).isSome = true))
    (hnd : ((cellsFrom 0 scope.names []).map (·.1)).Nodup)
    (h : ∀ h₁ tk cells, Fr s.heap s.heap.objs.size h₁ (bindL (envOfC name scope s.heap.objs.size a cd).kindOf binds fun _ => none) → News s.heap s.heap.objs.size h₁ cells →
      CellsAre (bindC (envOfC name scope s.heap.objs.size a cd).kindOf binds fun _ => none) (cellsFrom (s.heap.objs.size + 1) scope.names []) cells →
      wpC (model prog w) (A.deeper (envOfC name scope s.heap.objs.size a cd)) (execs body (envOfC name scope s.heap.objs.size a cd))
        (fun f s' => R (.ok (.ret (match f with | .ret v => v | _ => .none))) s') (fun _ _ => False) { s with heap := h₁, toks := tk })
    (hco : scope.isCoroutine = false := by rfl) (hgen : scope.isGenerator = false := by rfl) (hk : scope.kind = .function := by rfl) :
    codeC (model prog w) A (.call (.ref a) ⟨args, []⟩) R s := by
  refine codeC_fun (fd := Calls.docDef name params body scope pm cd doc) (body := body) hroom ho hdata hco hgen rfl hcd (wpAny_of_eq hbind ?_)
  refine wpAny_newFunctionEnv_cells hk hkind fun env he s' x => ?_
  subst he
  refine ⟨hlim.keeps x.toInCall.keep, codeC_func ?_⟩
  obtain ⟨h₁, tk, rfl, _⟩ := x.done
  obtain ⟨cells, N, Y⟩ := Cl.news (h₀ := s.heap) (Nat.le_refl _) fun n c hm => ⟨x.cell n c (lookup_of_mem_nodup (cellsFrom_names scope.names 0 (s.heap.objs.size + 1) [] [] rfl ▸ hnd) hm), x.above n c hm⟩
  exact h h₁ tk cells ⟨x.toInCall.ns, x.toInCall.keep, x.toInCall.fresh⟩ N Y
/-- a def of the text called from a frame of the text -/
theorem enter_def {A₀ : Around} {base h₀ : Heap} {outer : List Env} {L : Addr} {m : Str → Option Value} {env : Env} {news : List (Addr × Obj)} {name qual : Str} {params : Arguments} {body : List Stmt} {scope : Scope} {cl : List (Str × Addr)} {dV kV doc pm cdv ct : Value} {an : Option Addr} {fo : Obj} {f : Addr} {args : Args} {binds : List (Str × Value)}
    (B : Below A₀ base outer h₀) (F : Fr h₀ L s.heap m) (N : News h₀ L s.heap news) (hlim : h₀.NoLimit) (hA : A.frames = some (env :: outer)) (hf : env.frame = some L) (hke : env.scope.kind = .function)
    (ho : s.heap.get? f = some fo) (hd : fo.data = .func (fnX name qual params body scope cl dV kV doc pm an cdv ct)) (hcd : s.heap.CodeRec cdv qual) (hroom : A.depth < recursionLimit)
    (hbind : BindsTo s (fnX name qual params body scope cl dV kV doc pm an cdv ct) args binds) (hloc : ∀ y ∈ binds, scope.names.lookup y.1 = some .local)
    (h : ∀ g L' h₁, Fr h₀ L g m → Fr g L' h₁ (fun y => binds.reverse.lookup y) → News g L' h₁ news → Below A base (env :: outer) g → h₀.StaysIn g → (∀ p ∈ news, p.1 < L') →
      wpC (model prog w) (A.deeper (envX qual scope L' f cdv cl)) (execs body (envX qual scope L' f cdv cl))
        (fun fl s' => LeaveK h₀ L m g R (match fl with | .ret v => v | _ => .none) s') (fun _ _ => False) { s with heap := h₁, toks := s.toks + binds.length })
    (hcell : ∀ x ∈ scope.names, x.2 ≠ .cell) (hco : scope.isCoroutine = false := by rfl) (hgen : scope.isGenerator = false := by rfl) (hk : scope.kind = .function := by rfl) : codeC (model prog w) A (.call (.ref f) args) R s := by
  obtain ⟨FG, BG, st, lv⟩ := groundX (R := R) B F N hA hf hke
  refine codeC_fun (fd := fnX name qual params body scope cl dV kV doc pm an cdv ct) (body := body) hroom ho hd hco hgen rfl hcd (hbind _ _ _ _ ?_)
  refine wpAny_newFunctionEnv hcell hloc (fun h₁ hns hsb => ?_) hk
  have hk₁ : ∀ b o, s.heap.get? b = some o → h₁.get? b = some o := fun b o e => hsb.extBut b o (Nat.ne_of_lt (Heap.lt_size e)) (Heap.get?_push_of_some _ e)
  refine ⟨(hlim.keeps F.keep).fresh _ hsb, codeC_func (wpC_mono (h _ s.heap.objs.size h₁ FG ⟨hns, fun b o e => hk₁ b o (of_hideAll _ e), Nat.le_of_eq (hideAll_size _ _)⟩
    (fun p hp => ⟨hk₁ _ _ (N p hp).1, Nat.ne_of_lt (Heap.lt_size (N p hp).1), hideAll_none _ (List.mem_map_of_mem hp)⟩) BG st (fun p hp => Heap.lt_size (N p hp).1)) (fun fl s' hl => lv _ _ hl) fun _ _ y => y)⟩
end
end Mine
end
section
open PySem PySem.W PyProof.Rows PySem.Calls
set_option maxRecDepth 100000
namespace Mine
/-- the entries of the ledger that a callee was not shown stand as they were -/
def Kept (h₀ : Heap) (L : Addr) (own news : List (Addr × Obj)) (h' : Heap) : Prop := ∀ p ∈ news, p.1 ∉ own.map (·.1) → h'.get? p.1 = some p.2 ∧ p.1 ≠ L ∧ h₀.get? p.1 = none
theorem Kept.all {h₀ h' : Heap} {L : Addr} {own news : List (Addr × Obj)} (K : Kept h₀ L own news h') (hd : ∀ p ∈ news, p.1 ∈ own.map (·.1) → p ∈ own) (No : News h₀ L h' own) : News h₀ L h' news := fun p hp => by
  by_cases q : p.1 ∈ own.map (·.1)
  · exact No p (hd p hp q)
  · exact K p hp q
theorem Kept.none {h₀ h' : Heap} {L : Addr} {news : List (Addr × Obj)} (K : Kept h₀ L [] news h') : News h₀ L h' news := fun p hp => K p hp (fun q => nomatch q)
theorem own_mem {h₀ h : Heap} {L : Addr} {own news : List (Addr × Obj)} (N : News h₀ L h news) (hs : ∀ p ∈ own, p ∈ news) : ∀ p ∈ news, p.1 ∈ own.map (·.1) → p ∈ own := by
  intro p hp q
  obtain ⟨r, hr, e⟩ := List.mem_map.mp q
  have a := (N p hp).1
  have b := (N r (hs r hr)).1
  rw [e, a] at b
  have : p = r := Prod.ext e.symm (Option.some.inj b)
  exact this ▸ hr
/-- what came back, ahead of the ledger as it stood -/
theorem Kept.with {h₀ h' : Heap} {L : Addr} {own news : List (Addr × Obj)} {q : Addr × Obj} (K : Kept h₀ L own news h') (hd : ∀ p ∈ news, p.1 ∈ own.map (·.1) → p ∈ own) (No : News h₀ L h' (q :: own)) : News h₀ L h' (q :: news) := fun p hp => by
  rcases List.mem_cons.mp hp with rfl | hp
  · exact No _ (.head _)
  · exact K.all hd (fun p hp => No p (.tail _ hp)) p hp
theorem News.none_at {h₀ h' : Heap} {L : Addr} {news : List (Addr × Obj)} {q : Addr × Obj} (N : News h₀ L h' news) (hm : q ∈ news) : h₀.get? q.1 = .none := (N q hm).2.2
/-- what a callee was not shown of the ledger lies in the heap that it starts from -/
def Seen (own news : List (Addr × Obj)) (g : Heap) : Prop := ∀ p ∈ news, p.1 ∉ own.map (·.1) → g.get? p.1 = some p.2
theorem Seen.ne {own news : List (Addr × Obj)} {g : Heap} {r : Addr} (G : Seen own news g) (hr : g.get? r = .none) (ho : ∀ p ∈ own, p.1 ≠ r) : ∀ p ∈ news, p.1 ≠ r := fun p hp e => by
  by_cases q : p.1 ∈ own.map (·.1)
  · obtain ⟨x, hx, ex⟩ := List.mem_map.mp q
    exact ho x hx (ex.trans e)
  · have := G p hp q
    rw [e, hr] at this; cases this
section
variable {prog : Program} {w : World} {A₀ A : Around} {s : Shared} {base h₀ : Heap} {outer : List Env} {L : Addr} {m : Str → Option Value} {env : Env} {own news : List (Addr × Obj)}
  {R : Result → Shared → Prop} {name qual : Str} {params : Arguments} {body : List Stmt} {scope : Scope} {cl : List (Str × Addr)} {dV kV doc pm cdv ct : Value} {an : Option Addr} {fo : Obj} {f : Addr} {args : Args} {binds : List (Str × Value)}
theorem kept_of {g h' : Heap} {L' : Addr} {m' : Str → Option Value} (N : News h₀ L s.heap news) (hg : g = hideAll s.heap (own.map (·.1))) (F' : Fr g L' h' m') : Kept h₀ L own news h' := fun p hp q =>
  ⟨F'.keep _ _ (hg ▸ hideAll_get _ (N p hp).1 q), (N p hp).2⟩
theorem own_plain (B : Below A₀ base outer h₀) (F : Fr h₀ L s.heap m) (N : News h₀ L s.heap news) (hs : ∀ p ∈ own, p ∈ news) (hlim : h₀.NoLimit) (hA : A.frames = some (env :: outer)) (hf : env.frame = some L) (hke : env.scope.kind = .function)
    (ho : s.heap.get? f = some fo) (hd : fo.data = .func (fnX name qual params body scope cl dV kV doc pm an cdv ct)) (hcd : s.heap.CodeRec cdv qual) (hroom : A.depth < recursionLimit)
    (hbind : BindsTo s (fnX name qual params body scope cl dV kV doc pm an cdv ct) args binds) (hloc : ∀ y ∈ binds, scope.names.lookup y.1 = some .local)
    (h : ∀ g L' h₁, Fr h₀ L g m → Fr g L' h₁ (fun y => binds.reverse.lookup y) → News g L' h₁ own → Below A base (env :: outer) g → h₀.StaysIn g → ((∀ p ∈ own, p.1 < L') ∧ Seen own news g) →
      wpAny (model prog w) (A.deeper (envX qual scope L' f cdv cl)) (execs body (envX qual scope L' f cdv cl))
        (fun fl s' => LeaveK h₀ L m g (fun r s' => Kept h₀ L own news s'.heap → R r s') (match fl with | .ret v => v | _ => .none) s')
        (fun e s' => wpAny (model prog w) (A.deeper (envX qual scope L' f cdv cl)) (leaving (envX qual scope L' f cdv cl) e) (fun _ s'' => R (.error e) s'') (fun e' s'' => R (.error e') s'') s')
        { s with heap := h₁, toks := s.toks + binds.length })
    (hcell : ∀ x ∈ scope.names, x.2 ≠ .cell) (hco : scope.isCoroutine = false := by rfl) (hgen : scope.isGenerator = false := by rfl) (hk : scope.kind = .function := by rfl) : codeAny (model prog w) A (.call (.ref f) args) R s := by
  have No : News h₀ L s.heap own := fun p hp => N p (hs p hp)
  obtain ⟨FG, BG, st, lv⟩ := groundX (R := R) B F No hA hf hke
  refine codeAny_call_def (fd := fnX name qual params body scope cl dV kV doc pm an cdv ct) (body := body) (binds := binds) hroom ho hd (hlim.keeps F.keep) hcd rfl hbind hcell hloc (fun h₁ hns hk₁ => ?_) hco hgen hk
  refine wpAny_mono (h _ s.heap.objs.size h₁ FG ⟨hns, fun b o e => hk₁ b o (of_hideAll _ e), Nat.le_of_eq (hideAll_size _ _)⟩
    (fun p hp => ⟨hk₁ _ _ (No p hp).1, Nat.ne_of_lt (Heap.lt_size (No p hp).1), hideAll_none _ (List.mem_map_of_mem hp)⟩) BG st ⟨fun p hp => Heap.lt_size (No p hp).1, fun p hp q => hideAll_get _ (N p hp).1 q⟩) (fun fl s' hl => lv _ _ ?_) fun _ _ y => y
  obtain ⟨L', m', news', F', N', k⟩ := hl
  exact ⟨L', m', news', F', N', fun a b => k a b (kept_of N rfl F')⟩
theorem own_cells (B : Below A₀ base outer h₀) (F : Fr h₀ L s.heap m) (N : News h₀ L s.heap news) (hs : ∀ p ∈ own, p ∈ news) (hlim : h₀.NoLimit) (hA : A.frames = some (env :: outer)) (hf : env.frame = some L) (hke : env.scope.kind = .function)
    (ho : s.heap.get? f = some fo) (hd : fo.data = .func (fnX name qual params body scope [] dV kV doc pm an cdv ct)) (hcd : s.heap.CodeRec cdv qual) (hroom : A.depth < recursionLimit)
    (hbind : BindsTo s (fnX name qual params body scope [] dV kV doc pm an cdv ct) args binds)
    (hkind : ∀ n, ∀ x ∈ binds, scope.names.lookup x.1 = some .local ∨ (scope.names.lookup x.1 = some .cell ∧ ((cellsFrom n scope.names []).lookup x.1).isSome = true))
    (hnd : ((cellsFrom 0 scope.names []).map (·.1)).Nodup)
    (h : ∀ g L' h₁ tk cells, Fr h₀ L g m → Fr g L' h₁ (bindL (envOfC qual scope L' f cdv).kindOf binds fun _ => none) → News g L' h₁ (cells ++ own) →
      CellsAre (bindC (envOfC qual scope L' f cdv).kindOf binds fun _ => none) (cellsFrom (L' + 1) scope.names []) cells → Below A base (env :: outer) g → h₀.StaysIn g → ((∀ p ∈ own, p.1 < L') ∧ Seen own news g) →
      wpAny (model prog w) (A.deeper (envOfC qual scope L' f cdv)) (execs body (envOfC qual scope L' f cdv))
        (fun fl s' => LeaveK h₀ L m g (fun r s' => Kept h₀ L own news s'.heap → R r s') (match fl with | .ret v => v | _ => .none) s')
        (fun e s' => wpAny (model prog w) (A.deeper (envOfC qual scope L' f cdv)) (leaving (envOfC qual scope L' f cdv) e) (fun _ s'' => R (.error e) s'') (fun e' s'' => R (.error e') s'') s')
        { s with heap := h₁, toks := tk })
    (hco : scope.isCoroutine = false := by rfl) (hgen : scope.isGenerator = false := by rfl) (hk : scope.kind = .function := by rfl) : codeAny (model prog w) A (.call (.ref f) args) R s := by
  have No : News h₀ L s.heap own := fun p hp => N p (hs p hp)
  obtain ⟨FG, BG, st, lv⟩ := groundX (R := R) B F No hA hf hke
  refine codeAny_call_function hroom ho hd hco hgen rfl hcd (hbind _ _ _ _ ?_)
  refine wpAny_newFunctionEnv_cells hk (hkind _) fun env' he s' x => ?_
  subst he
  refine ⟨(hlim.keeps F.keep).keeps x.toInCall.keep, codeAny_func ?_⟩
  obtain ⟨h₁, tk, rfl, _⟩ := x.done
  have hk₁ := x.toInCall.keep
  obtain ⟨cells, NC, Y⟩ := Cl.news (h₀ := s.heap) (Nat.le_refl _) fun n c hm => ⟨x.cell n c (lookup_of_mem_nodup (cellsFrom_names scope.names 0 (s.heap.objs.size + 1) [] [] rfl ▸ hnd) hm), x.above n c hm⟩
  refine wpAny_mono (h _ s.heap.objs.size h₁ tk cells FG ⟨x.toInCall.ns, fun b o e => hk₁ b o (of_hideAll _ e), Nat.le_of_eq (hideAll_size _ _)⟩ (fun p hp => ?_) Y BG st ⟨fun p hp => Heap.lt_size (No p hp).1, fun p hp q => hideAll_get _ (N p hp).1 q⟩) (fun fl s' hl => lv _ _ ?_) fun _ _ y => y
  · rcases List.mem_append.mp hp with hp | hp
    · refine ⟨(NC p hp).1, (NC p hp).2.1, ?_⟩
      cases q : (hideAll s.heap (own.map (·.1))).get? p.1 with
      | none => rfl
      | some o => have := of_hideAll _ q; rw [(NC p hp).2.2] at this; cases this
    · exact ⟨hk₁ _ _ (No p hp).1, Nat.ne_of_lt (Heap.lt_size (No p hp).1), hideAll_none _ (List.mem_map_of_mem hp)⟩
  · obtain ⟨L', m', news', F', N', k⟩ := hl
    exact ⟨L', m', news', F', N', fun a b => k a b (kept_of N rfl F')⟩
/-- the same in the logic of stacks that hold no buffer -/
theorem own_def (B : Below A₀ base outer h₀) (F : Fr h₀ L s.heap m) (N : News h₀ L s.heap news) (hs : ∀ p ∈ own, p ∈ news) (hlim : h₀.NoLimit) (hA : A.frames = some (env :: outer)) (hf : env.frame = some L) (hke : env.scope.kind = .function)
    (ho : s.heap.get? f = some fo) (hd : fo.data = .func (fnX name qual params body scope cl dV kV doc pm an cdv ct)) (hcd : s.heap.CodeRec cdv qual) (hroom : A.depth < recursionLimit)
    (hbind : BindsTo s (fnX name qual params body scope cl dV kV doc pm an cdv ct) args binds) (hloc : ∀ y ∈ binds, scope.names.lookup y.1 = some .local)
    (h : ∀ g L' h₁, Fr h₀ L g m → Fr g L' h₁ (fun y => binds.reverse.lookup y) → News g L' h₁ own → Below A base (env :: outer) g → h₀.StaysIn g → ((∀ p ∈ own, p.1 < L') ∧ Seen own news g) →
      wpC (model prog w) (A.deeper (envX qual scope L' f cdv cl)) (execs body (envX qual scope L' f cdv cl))
        (fun fl s' => LeaveK h₀ L m g (fun r s' => Kept h₀ L own news s'.heap → R r s') (match fl with | .ret v => v | _ => .none) s') (fun _ _ => False) { s with heap := h₁, toks := s.toks + binds.length })
    (hcell : ∀ x ∈ scope.names, x.2 ≠ .cell) (hco : scope.isCoroutine = false := by rfl) (hgen : scope.isGenerator = false := by rfl) (hk : scope.kind = .function := by rfl) : codeC (model prog w) A (.call (.ref f) args) R s := by
  have No : News h₀ L s.heap own := fun p hp => N p (hs p hp)
  obtain ⟨FG, BG, st, lv⟩ := groundX (R := R) B F No hA hf hke
  refine codeC_fun (fd := fnX name qual params body scope cl dV kV doc pm an cdv ct) (body := body) hroom ho hd hco hgen rfl hcd (hbind _ _ _ _ ?_)
  refine wpAny_newFunctionEnv hcell hloc (fun h₁ hns hsb => ?_) hk
  have hk₁ : ∀ b o, s.heap.get? b = some o → h₁.get? b = some o := fun b o e => hsb.extBut b o (Nat.ne_of_lt (Heap.lt_size e)) (Heap.get?_push_of_some _ e)
  refine ⟨(hlim.keeps F.keep).fresh _ hsb, codeC_func (wpC_mono (h _ s.heap.objs.size h₁ FG ⟨hns, fun b o e => hk₁ b o (of_hideAll _ e), Nat.le_of_eq (hideAll_size _ _)⟩
    (fun p hp => ⟨hk₁ _ _ (No p hp).1, Nat.ne_of_lt (Heap.lt_size (No p hp).1), hideAll_none _ (List.mem_map_of_mem hp)⟩) BG st ⟨fun p hp => Heap.lt_size (No p hp).1, fun p hp q => hideAll_get _ (N p hp).1 q⟩) (fun fl s' hl => lv _ _ ?_) fun _ _ y => y)⟩
  obtain ⟨L', m', news', F', N', k⟩ := hl
  exact ⟨L', m', news', F', N', fun a b => k a b (kept_of N rfl F')⟩
end
end Mine
end
section
open PySem PySem.W PyProof.Rows PySem.Calls
set_option maxRecDepth 100000
namespace Mine
section
variable {prog : Program} {w : World} {A A₀ : Around} {E : Value → Shared → Prop} {s : Shared} {K : Frag} {L : Addr} {h₀ base : Heap} {m mg mb : Str → Option Value} {news : List (Addr × Obj)} {p : Program} {loose : List Str} {mean : ExcName → Option Value} {Q : Value → Shared → Prop}
/-- entering a plain def: the arguments paired with their names, no raised value to carry on -/
theorem enterP {ns : List Str} {vs : List Value} {env : Env} {outer : List Env} {name qual : Str} {params : Arguments} {body : List Stmt} {scope : Scope} {dV kV doc pm cdv ct oc : Value} {an od : Option Addr} {osl : Array (Option Value)} {f : Addr}
    (B : Below A₀ base outer h₀) (F : Fr h₀ L s.heap m) (X₀ : K.In h₀) (N : News h₀ L s.heap news) (T : Top p loose mean mg mb h₀) (hA : A.frames = some (env :: outer)) (hf : env.frame = some L) (hke : env.scope.kind = .function)
    (ho : K.lookup f = some ⟨oc, od, .func (fnOf name qual params body scope dV kV doc pm an cdv ct), osl⟩) (hcd : codeIn K cdv qual = true) (hroom : A.depth < recursionLimit)
    (hbind : bindArgs (fnOf name qual params body scope dV kV doc pm an cdv ct) ⟨vs, []⟩ = pure (ns.zip vs)) (hloc : ∀ y ∈ ns.zip vs, scope.names.lookup y.1 = some .local)
    (h : ∀ g L' h₁ tk, Fr h₀ L g m → Fr g L' h₁ (fun y => (ns.zip vs).reverse.lookup y) → News g L' h₁ news → Below A base (env :: outer) g → K.In g → Top p loose mean mg mb g →
      wpAny (model prog w) (A.deeper (envOf qual scope L' f cdv)) (execs body (envOf qual scope L' f cdv))
        (fun fl s' => LeaveK h₀ L m g (fun r s'' => match r with | .ok (.ret v) => Q v s'' | .ok _ => False | .error e => E e s'') (match fl with | .ret v => v | _ => .none) s') (fun _ _ => False) { s with heap := h₁, toks := tk })
    (hco : scope.isCoroutine = false) (hgen : scope.isGenerator = false) (hk : scope.kind = .function) (hcell : ∀ x ∈ scope.names, x.2 ≠ .cell) : wpAny (model prog w) A (call (.ref f) vs) Q E s :=
  wpAny_call (code_def B F X₀ N T hA hf hke ho hcd hroom (BindsTo.of_eq hbind) hloc (fun g L' h₁ a b c d e f => no_exc (h g L' h₁ _ a b c d e f)) hco hgen hk hcell)
/-- the same where names are shared with inner defs -/
theorem enterC {ns : List Str} {vs : List Value} {env : Env} {outer : List Env} {name qual : Str} {params : Arguments} {body : List Stmt} {scope : Scope} {dV kV doc pm cdv ct oc : Value} {an od : Option Addr} {osl : Array (Option Value)} {f : Addr}
    (B : Below A₀ base outer h₀) (F : Fr h₀ L s.heap m) (X₀ : K.In h₀) (N : News h₀ L s.heap news) (T : Top p loose mean mg mb h₀) (hA : A.frames = some (env :: outer)) (hf : env.frame = some L) (hke : env.scope.kind = .function)
    (ho : K.lookup f = some ⟨oc, od, .func (fnOf name qual params body scope dV kV doc pm an cdv ct), osl⟩) (hcd : codeIn K cdv qual = true) (hroom : A.depth < recursionLimit)
    (hbind : bindArgs (fnOf name qual params body scope dV kV doc pm an cdv ct) ⟨vs, []⟩ = pure (ns.zip vs)) (hkind : ((ns.zip vs).all fun y => scope.names.lookup y.1 == some .local || scope.names.lookup y.1 == some .cell) = true)
    (hnd : ((cellsFrom 0 scope.names []).map (·.1)).Nodup)
    (h : ∀ g L' h₁ tk cells, Fr h₀ L g m → Fr g L' h₁ (bindL (envOfC qual scope L' f cdv).kindOf (ns.zip vs) fun _ => none) → News g L' h₁ (cells ++ news) →
      CellsAre (bindC (envOfC qual scope L' f cdv).kindOf (ns.zip vs) fun _ => none) (cellsFrom (L' + 1) scope.names []) cells → Below A base (env :: outer) g → K.In g → Top p loose mean mg mb g → (∀ p ∈ news, p.1 < L') →
      wpAny (model prog w) (A.deeper (envOfC qual scope L' f cdv)) (execs body (envOfC qual scope L' f cdv))
        (fun fl s' => LeaveK h₀ L m g (fun r s'' => match r with | .ok (.ret v) => Q v s'' | .ok _ => False | .error e => E e s'') (match fl with | .ret v => v | _ => .none) s') (fun _ _ => False) { s with heap := h₁, toks := tk })
    (hco : scope.isCoroutine = false) (hgen : scope.isGenerator = false) (hk : scope.kind = .function) : wpAny (model prog w) A (call (.ref f) vs) Q E s :=
  wpAny_call (code_defC B F X₀ N T hA hf hke ho hcd hroom (BindsTo.of_eq hbind) hkind hnd (fun g L' h₁ tk c a b d e f g' h' i => no_exc (h g L' h₁ tk c a b d e f g' h' i)) hco hgen hk)
/-- the same for an inner def that lies in the ledger -/
theorem enterN {ns : List Str} {vs : List Value} {env : Env} {outer : List Env} {name qual : Str} {params : Arguments} {body : List Stmt} {scope : Scope} {cl : List (Str × Addr)} {dV doc pm ctv : Value} {c' : Addr} {f : Addr}
    (B : Below A₀ base outer h₀) (F : Fr h₀ L s.heap m) (X₀ : K.In h₀) (N : News h₀ L s.heap news) (T : Top p loose mean mg mb h₀) (hA : A.frames = some (env :: outer)) (hf : env.frame = some L) (hke : env.scope.kind = .function)
    (ho : (f, kdv_obj name qual params (.stmts body) scope cl dV doc pm c' ctv) ∈ news) (hcd : s.heap.CodeRec (.ref c') qual) (hroom : A.depth < recursionLimit)
    (hbind : bindArgs (kdv_fn name qual params (.stmts body) scope cl dV doc pm (.ref c') ctv) ⟨vs, []⟩ = pure (ns.zip vs)) (hloc : ∀ y ∈ ns.zip vs, scope.names.lookup y.1 = some .local)
    (h : ∀ g L' h₁ tk, Fr h₀ L g m → Fr g L' h₁ (fun y => (ns.zip vs).reverse.lookup y) → News g L' h₁ news → Below A base (env :: outer) g → K.In g → Top p loose mean mg mb g →
      wpAny (model prog w) (A.deeper (envX qual scope L' f (.ref c') cl)) (execs body (envX qual scope L' f (.ref c') cl))
        (fun fl s' => LeaveK h₀ L m g (fun r s'' => match r with | .ok (.ret v) => Q v s'' | .ok _ => False | .error e => E e s'') (match fl with | .ret v => v | _ => .none) s') (fun _ _ => False) { s with heap := h₁, toks := tk })
    (hco : scope.isCoroutine = false) (hgen : scope.isGenerator = false) (hk : scope.kind = .function) (hcell : ∀ x ∈ scope.names, x.2 ≠ .cell) : wpAny (model prog w) A (call (.ref f) vs) Q E s :=
  wpAny_call (kdv_code B F X₀ N T hA hf hke ho hcd hroom (BindsTo.of_eq hbind) hloc (fun g L' h₁ a b c d e f => no_exc (h g L' h₁ _ a b c d e f)) hco hgen hk hcell)
end
end Mine
end
section
open PySem PySem.W PyProof.Rows PySem.Calls
set_option maxRecDepth 100000
namespace Mine
theorem execs_append (l2 : List Stmt) (env : Env) : ∀ l1 : List Stmt, execs (l1 ++ l2) env = (execs l1 env >>= fun f => match f with | .next => execs l2 env | f => pure f)
  | [] => rfl
  | st :: l1 => by
    rw [List.cons_append, execs_cons, execs_cons, bind_assoc]
    refine congrArg _ (funext fun f => ?_)
    cases f with
    | next => exact execs_append l2 env l1
    | brk => rfl
    | cont => rfl
    | ret v => rfl
section
variable {prog : Program} {w : World} {A : Around} {E : Value → Shared → Prop} {s : Shared} {env : Env}
theorem execs_split {M : Model} {l1 l2 : List Stmt} {Q : Flow → Shared → Prop}
    (h : wpC M A (execs l1 env) (fun f s' => match f with | .next => wpC M A (execs l2 env) Q E s' | f => Q f s') E s) : wpC M A (execs (l1 ++ l2) env) Q E s := by
  rw [execs_append]
  refine wpC_bind (wpC_mono h (fun f s' q => ?_) fun _ _ q => q)
  cases f with
  | next => exact q
  | brk => exact wpC_pure q
  | cont => exact wpC_pure q
  | ret v => exact wpC_pure q
theorem execs_first {M : Model} {st : Stmt} {rest : List Stmt} {Q : Flow → Shared → Prop}
    (h : wpC M A (exec st env) (fun f s' => match f with | .next => wpC M A (execs rest env) Q E s' | f => Q f s') E s) : wpC M A (execs (st :: rest) env) Q E s := by
  rw [execs_cons]
  refine wpC_bind (wpC_mono h (fun f s' q => ?_) fun _ _ q => q)
  cases f with
  | next => exact q
  | brk => exact wpC_pure q
  | cont => exact wpC_pure q
  | ret v => exact wpC_pure q
/-- a for, its loop on stacks that hold no buffer -/
theorem for_C {M : Model} {target iter : Expr} {body orelse : List Stmt} {pos : Pos} {Q : Flow → Shared → Prop}
    (h : wpAny M A (eval iter env) (fun x s₁ => wpAny M A (pyIter x) (fun it s₂ => codeC M A (.forLoop target it body orelse env) (fun r s' => match r with | .ok f => Q f s' | .error _ => False) s₂) E s₁) E s)
    (hs : ∀ x, foldedSetIterable iter env x = pure x := by intro _; rfl) : wpC M A (exec (.For target iter body orelse pos) env) Q E s := by
  rw [exec_For]
  refine wpC_step (wpAny_standAt (wpC_step (wpAny_mono h (fun x s₁ h₁ => ?_) fun _ _ q => q)))
  refine wpC_step (wpAny_of_eq (hs x) (wpC_step (wpAny_standAt (wpC_step (wpAny_holding (wpAny_mono h₁ (fun it s₂ h₂ => ?_) fun _ _ q => q))))))
  unfold runOwn
  refine wpC_onRaise (wpC_run (h := none) (codeC_mono h₂ fun r s' q => ?_))
  cases r with
  | ok f => exact q
  | error e => exact q.elim
/-- one turn of it -/
theorem turn_C {target : Expr} {it : Value} {body : List Stmt} {R : Result → Shared → Prop}
    (h : wpAny (model prog w) A (pyNext it) (fun r s₁ => match r with
      | none => R (.ok .next) s₁
      | some v => wpAny (model prog w) A (assign target env v) (fun _ s₂ => wpC (model prog w) A (execs body env) (fun f s₃ => match f with
          | .next | .cont => codeC (model prog w) A (.forLoop target it body [] env) R s₃
          | .brk => R (.ok .next) s₃
          | .ret v => R (.ok (.ret v)) s₃) (fun _ _ => False) s₂) (fun _ _ => False) s₁) (fun _ _ => False) s)
    (ht : ∀ v, letOwnedTupleGo target it v = pure () := by intro _; rfl) : codeC (model prog w) A (.forLoop target it body [] env) R s := by
  refine codeC_of_tree rfl ?_
  rw [Around.under_of_weight (by rfl)]
  show wpC _ _ ((forTurn target it body [] env).onRaise (fun x => do noteFrame x env; theTreesLotGoes x)) _ _ s
  refine wpC_onRaise ?_
  simp only [forTurn]
  refine wpC_step (wpAny_standAt (wpC_step (wpAny_onRaise (wpAny_mono h (fun r s₁ h₁ => ?_) fun _ _ q => q.elim))))
  cases r with
  | none => exact wpC_pure ⟨rfl, codeC_of (codeAny_block (wpAny_execs_nil h₁))⟩
  | some v =>
    refine wpC_step (wpAny_of_eq (ht v) ?_)
    refine wpC_step (wpAny_mono h₁ (fun _ s₂ h₂ => wpC_bind (wpC_mono h₂ (fun f s₃ h₃ => ?_) fun _ _ q => q.elim)) fun _ _ q => q.elim)
    cases f with
    | next => exact wpC_pure ⟨rfl, h₃⟩
    | cont => exact wpC_pure ⟨rfl, h₃⟩
    | brk => exact wpC_pure h₃
    | ret v => exact wpC_pure h₃
end
/-- a list's iterator -/
def IterObj (o : Obj) (l : Addr) (i : Nat) : Prop := o.cls = .type "list_iterator" ∧ o.data = .fields #[.ref l, .int i 0]
section
variable {prog : Program} {w : World} {A : Around} {E : Value → Shared → Prop} {s : Shared} {h₀ : Heap} {L l I : Addr} {m : Str → Option Value} {news : List (Addr × Obj)} {items : Array Value} {n i : Nat} {o : Obj}
theorem iter_N {Q : Value → Shared → Prop} (F : Fr h₀ L s.heap m) (N : News h₀ L s.heap news) (ml : (l, listOf items n) ∈ news)
    (h : ∀ I o h', IterObj o l 0 → Fr h₀ L h' m → News h₀ L h' ((I, o) :: news) → (∀ p ∈ news, p.1 < I) → Q (.ref I) { s with heap := h' }) : wpAny (model prog w) A (pyIter (.ref l)) Q E s :=
  wpAny_pyIter_list ⟨_, (N _ ml).1, rfl, _, rfl⟩ (h _ _ _ ⟨rfl, rfl⟩ (F.push _) (N.push F _) fun p hp => Heap.lt_size (N p hp).1)
theorem next_some {x : Value} {Q : Option Value → Shared → Prop} (F : Fr h₀ L s.heap m) (N : News h₀ L s.heap ((I, o) :: news)) (hI : ∀ p ∈ news, p.1 < I) (ho : IterObj o l i) (ml : (l, listOf items n) ∈ news) (hx : items[i]? = some x)
    (h : ∀ o' h', IterObj o' l (i + 1) → Fr h₀ L h' m → News h₀ L h' ((I, o') :: news) → Q (some x) { s with heap := h' }) : wpAny (model prog w) A (pyNext (.ref I)) Q E s := by
  have hm := N _ (.head _)
  refine wpAny_pyNext_list_item ⟨o, hm.1, ho.1, ho.2⟩ ⟨_, (N _ (.tail _ ml)).1, rfl, _, rfl⟩ hx fun h' hit hs => ?_
  obtain ⟨o', e1, e2, e3⟩ := hit
  refine h o' h' ⟨e2, e3⟩ ⟨F.ns.sameBut hs (Ne.symm hm.2.1), fun b ob e => (hs.2 b fun q => ?_).trans (F.keep b ob e), F.above⟩ (News.setAt (own := []) N (fun _ h => nomatch h) (fun p hp => Nat.ne_of_lt (hI p hp)) hs e1)
  rw [q, hm.2.2] at e; cases e
theorem next_none {Q : Option Value → Shared → Prop} (hh : A.handled = none) (F : Fr h₀ L s.heap m) (N : News h₀ L s.heap ((I, o) :: news)) (hI : ∀ p ∈ news, p.1 < I) (ho : IterObj o l i) (ml : (l, listOf items n) ∈ news) (hx : items[i]? = none)
    (h : ∀ h', Fr h₀ L h' m → News h₀ L h' news → Q none { s with heap := h' }) : wpAny (model prog w) A (pyNext (.ref I)) Q E s := by
  have hm := N _ (.head _)
  refine wpAny_pyNext_list_end hh ⟨o, hm.1, ho.1, ho.2⟩ ⟨_, (N _ (.tail _ ml)).1, rfl, _, rfl⟩ hx fun h' hs => ?_
  refine h h' ⟨F.ns.extBut hs (Ne.symm hm.2.1), fun b ob e => hs b ob (fun q => ?_) (F.keep b ob e), F.above⟩ fun p hp => ⟨hs _ _ (Nat.ne_of_lt (hI p hp)) (N p (.tail _ hp)).1, (N p (.tail _ hp)).2⟩
  rw [q, hm.2.2] at e; cases e
theorem news_sub {news' : List (Addr × Obj)} (N : News h₀ L s.heap news) (hs : ∀ p ∈ news', p ∈ news) : News h₀ L s.heap news' := fun p hp => N p (hs p hp)
end
end Mine
end
section
open PySem PySem.W PyProof.Rows PySem.Calls
set_option maxRecDepth 100000
namespace Mine
section
variable {prog : Program} {w : World} {A : Around} {E : Value → Shared → Prop} {s : Shared} {env : Env}
/-- a for, whatever its target -/
theorem for_A {M : Model} {target iter : Expr} {body : List Stmt} {pos : Pos} {Q : Flow → Shared → Prop}
    (h : wpAny M A (eval iter env) (fun x s₁ => wpAny M A (pyIter x) (fun it s₂ => codeAny M A (.forLoop target it body [] env) (fun r s' => match r with | .ok f => Q f s' | .error _ => False) s₂) E s₁) E s)
    (hs : ∀ x, foldedSetIterable iter env x = pure x := by intro _; rfl) : wpAny M A (exec (.For target iter body [] pos) env) Q E s := by
  refine wpAny_For (wpAny_mono h (fun x s₁ h₁ => wpAny_mono h₁ (fun it s₂ h₂ => codeAny_mono h₂ fun r s' q => ?_) fun _ _ q => q) fun _ _ q => q) hs
  cases r with
  | ok f => exact q
  | error e => exact q.elim
theorem turn_A {target : Expr} {it : Value} {body : List Stmt} {R : Result → Shared → Prop}
    (h : wpAny (model prog w) A (pyNext it) (fun r s₁ => match r with
      | none => R (.ok .next) s₁
      | some v => wpAny (model prog w) A (assign target env v) (fun _ s₂ => wpAny (model prog w) A (execs body env) (fun f s₃ => match f with
          | .next | .cont => codeAny (model prog w) A (.forLoop target it body [] env) R s₃
          | .brk => R (.ok .next) s₃
          | .ret v => R (.ok (.ret v)) s₃) (fun _ _ => False) s₂) (fun _ _ => False) s₁) (fun _ _ => False) s)
    (ht : ∀ v, letOwnedTupleGo target it v = pure () := by intro _; rfl) : codeAny (model prog w) A (.forLoop target it body [] env) R s := by
  refine codeAny_of_tree ?_
  rw [Around.under_of_weight (by rfl)]
  show wpAny _ _ ((forTurn target it body [] env).onRaise (fun x => do noteFrame x env; theTreesLotGoes x)) _ _ s
  refine wpAny_onRaise ?_
  simp only [forTurn]
  refine wpAny_bind (wpAny_standAt (wpAny_bind (wpAny_onRaise (wpAny_mono h (fun r s₁ h₁ => ?_) fun _ _ q => q.elim))))
  cases r with
  | none => exact wpAny_pure ⟨rfl, codeAny_block (wpAny_execs_nil h₁)⟩
  | some v =>
    refine wpAny_bind (wpAny_of_eq (ht v) ?_)
    refine wpAny_bind (wpAny_mono h₁ (fun _ s₂ h₂ => wpAny_bind (wpAny_mono h₂ (fun f s₃ h₃ => ?_) fun _ _ q => q.elim)) fun _ _ q => q.elim)
    cases f with
    | next => exact wpAny_pure ⟨rfl, h₃⟩
    | cont => exact wpAny_pure ⟨rfl, h₃⟩
    | brk => exact wpAny_pure h₃
    | ret v => exact wpAny_pure h₃
/-- a turn's end: the invariant stands, the measure is less -/
def Turned (J : Nat → Shared → Prop) (n : Nat) (s : Shared) : Prop := ∃ m, m < n ∧ J m s
/-- a for by an invariant and a measure -/
theorem loop_A {target : Expr} {it : Value} {body : List Stmt} {R : Result → Shared → Prop} (J : Nat → Shared → Prop)
    (turn : ∀ n s, J n s → wpAny (model prog w) A (pyNext it) (fun r s₁ => match r with
      | none => R (.ok .next) s₁
      | some v => wpAny (model prog w) A (assign target env v) (fun _ s₂ => wpAny (model prog w) A (execs body env) (fun f s₃ => match f with
          | .next | .cont => Turned J n s₃
          | .brk => R (.ok .next) s₃
          | .ret v => R (.ok (.ret v)) s₃) (fun _ _ => False) s₂) (fun _ _ => False) s₁) (fun _ _ => False) s)
    (ht : ∀ v, letOwnedTupleGo target it v = pure () := by intro _; rfl) : ∀ n s, J n s → codeAny (model prog w) A (.forLoop target it body [] env) R s := by
  intro n
  induction n using Nat.strongRecOn with
  | ind n ih =>
    intro s hJ
    refine turn_A (wpAny_mono (turn n s hJ) (fun r s₁ h₁ => ?_) fun _ _ q => q) ht
    cases r with
    | none => exact h₁
    | some v =>
      refine wpAny_mono h₁ (fun _ s₂ h₂ => wpAny_mono h₂ (fun f s₃ h₃ => ?_) fun _ _ q => q) fun _ _ q => q
      cases f with
      | next => obtain ⟨j, hj, q⟩ := h₃; exact ih j hj _ q
      | cont => obtain ⟨j, hj, q⟩ := h₃; exact ih j hj _ q
      | brk => exact h₃
      | ret v => exact h₃
end
section
variable {prog : Program} {w : World} {A : Around} {E : Value → Shared → Prop} {s : Shared} {env : Env} {h₀ : Heap} {L I : Addr} {m : Str → Option Value} {news news' : List (Addr × Obj)} {x left : Int}
theorem rnext_some {Q : Option Value → Shared → Prop} (F : Fr h₀ L s.heap m) (N : News h₀ L s.heap news) (U : Upd I (itR x left) (itR (x + 1) (left - 1)) news news') (hl : 0 < left)
    (h : ∀ h' t, Fr h₀ L h' m → News h₀ L h' news' → Q (some (.int x t)) { s with heap := h', toks := s.toks + 1 }) : wpAny (model prog w) A (pyNext (.ref I)) Q E s := by
  obtain ⟨pre, post, rfl, rfl, a, c⟩ := U.split
  have z := N (I, itR x left) (List.mem_append.mpr (.inr (.head _)))
  exact wpAny_pyNext_range_item z.1 hl fun h' hit hs => h h' _ (F.change hs z.2.1 z.2.2) (N.setAt a c hs hit)
theorem rnext_lit {x' left' : Int} {Q : Option Value → Shared → Prop} (F : Fr h₀ L s.heap m) (N : News h₀ L s.heap news) (U : Upd I (itR x left) (itR x' left') news news') (hl : 0 < left) (e1 : x + 1 = x') (e2 : left - 1 = left')
    (h : ∀ h' t, Fr h₀ L h' m → News h₀ L h' news' → Q (some (.int x t)) { s with heap := h', toks := s.toks + 1 }) : wpAny (model prog w) A (pyNext (.ref I)) Q E s := by
  subst e1; subst e2
  exact rnext_some F N U hl h
theorem rnext_none {Q : Option Value → Shared → Prop} (hh : A.handled = none) (F : Fr h₀ L s.heap m) (N : News h₀ L s.heap news) {pre post : List (Addr × Obj)} (e : news = pre ++ (I, itR x left) :: post) (a : ∀ p ∈ pre, p.1 ≠ I) (c : ∀ p ∈ post, p.1 ≠ I) (hl : left ≤ 0)
    (h : ∀ h', Fr h₀ L h' m → News h₀ L h' (pre ++ post) → Q none { s with heap := h' }) : wpAny (model prog w) A (pyNext (.ref I)) Q E s := by
  subst e
  have z := N (I, itR x left) (List.mem_append.mpr (.inr (.head _)))
  refine wpAny_pyNext_range_end hh z.1 hl fun h' hs => h h' ⟨F.ns.extBut hs (Ne.symm z.2.1), fun b ob e => hs b ob (fun q => ?_) (F.keep b ob e), F.above⟩ fun p hp => ?_
  · rw [q, z.2.2] at e; cases e
  · rcases List.mem_append.mp hp with hp | hp
    · exact ⟨hs _ _ (a p hp) (N p (List.mem_append.mpr (.inl hp))).1, (N p (List.mem_append.mpr (.inl hp))).2⟩
    · exact ⟨hs _ _ (c p hp) (N p (List.mem_append.mpr (.inr (.tail _ hp)))).1, (N p (List.mem_append.mpr (.inr (.tail _ hp)))).2⟩
theorem rnext_drop {Q : Option Value → Shared → Prop} (hh : A.handled = none) (F : Fr h₀ L s.heap m) (N : News h₀ L s.heap news) (hm : (I, itR x left) ∈ news) (hl : left ≤ 0) (c : ∀ p ∈ news', p ∈ news) (d : ∀ p ∈ news', p.1 ≠ I)
    (h : ∀ h', Fr h₀ L h' m → News h₀ L h' news' → Q none { s with heap := h' }) : wpAny (model prog w) A (pyNext (.ref I)) Q E s := by
  have z := N (I, itR x left) hm
  refine wpAny_pyNext_range_end hh z.1 hl fun h' hs => h h' ⟨F.ns.extBut hs (Ne.symm z.2.1), fun b ob e => hs b ob (fun q => ?_) (F.keep b ob e), F.above⟩ fun p hp => ⟨hs _ _ (d p hp) (N p (c p hp)).1, (N p (c p hp)).2⟩
  rw [q, z.2.2] at e; cases e
theorem news_tail {h : Heap} {q : Addr × Obj} (N : News h₀ L h (q :: news)) : News h₀ L h news := fun p hp => N p (.tail _ hp)
/-- the iterator of a range of step 1 that starts a for -/
theorem riter_N {r : Addr} {a b n : Int} {t u v : Tok} {Q : Value → Shared → Prop} (F : Fr h₀ L s.heap m) (N : News h₀ L s.heap news) (hr : IsRange s.heap r a b 1 t u v) (hsm : Builtin.Range.small a b 1 = true) (hn : Builtin.Range.rangeSize a b 1 = n)
    (h : ∀ I h', Fr h₀ L h' m → News h₀ L h' ((I, itR a n) :: news) → (∀ p ∈ news, p.1 < I) → Q (.ref I) { s with heap := h' }) : wpAny (model prog w) A (pyIter (.ref r)) Q E s := by
  refine wpAny_pyIter_range hr hsm ?_
  rw [hn]
  exact h _ _ (F.push _) (N.push F _) fun p hp => Heap.lt_size (N p hp).1
end
end Mine
end
section
open PySem PySem.W PyProof.Rows PySem.Calls
set_option maxRecDepth 100000
namespace Mine
namespace Ba
theorem mro : mroOf (.type "bytearray") = pure [.type "bytearray", .type "object"] := by rw [mroOf_type]; kernel_rfl
theorem lookup_new : typeLookup (.type "bytearray") "__new__" = pure (some (.builtin "bytearray.__new__")) := by rw [typeLookup_type, builtinLookup_eq_fast]; kernel_rfl
theorem slot_init : Slot "bytearray" "__init__" "bytearray.__init__" :=
  .of (owner := "bytearray") (n := "__init__") (by rw [typeLookup_type, builtinLookup_eq_fast]; kernel_rfl) (by decide +kernel) (by decide +kernel) (by decide +kernel)
    (by first | exact .inl (by decide +kernel) | exact .inr (by decide +kernel)) (by rw [isSubtype_type]; kernel_rfl)
theorem sub_self : isSubtype (.type "bytearray") (.type "bytearray") = pure true := by rw [isSubtype_type]; kernel_rfl
theorem called : TypeCalled "bytearray" "bytearray.__new__" "bytearray.__init__" :=
  ⟨by decide +kernel, by decide +kernel, ⟨_, _, mro⟩, madeBy_type mro lookup_new (by decide +kernel), by decide +kernel, sub_self, slot_init⟩
theorem typeCall (a : Value) : checkTypeCall "bytearray" ⟨[a], []⟩ = pure () := by kernel_rfl
theorem newCall (a : Value) : checkBuiltinCall "bytearray.__new__" ⟨[.type "bytearray", a], []⟩ = pure () := by kernel_rfl
theorem entry_new : entryFor table "bytearray.__new__" = some Builtin.«list.__new__» := entryFor_alias (id' := "list.__new__") (by kernel_rfl) rfl (by decide +kernel) (by kernel_rfl)
theorem entry_init : entryFor table "bytearray.__init__" = some Builtin.«bytearray.__init__» := by first | exact entryFor_of_tree (by kernel_rfl) | exact entryFor_of_fast (by kernel_rfl)
theorem args_init (s a : Value) : argsOk "bytearray.__init__" ⟨[s, a], []⟩ := by unfold argsOk; kernel_rfl
theorem look_release : typeLookup (.type "bytearray") "__release_buffer__" = pure (some (.builtin "bytearray.__release_buffer__")) := by rw [typeLookup_type, builtinLookup_eq_fast]; kernel_rfl
end Ba
section
variable {prog : Program} {w : World} {A : Around} {E : Value → Shared → Prop} {s : Shared}
theorem free_builtin {id : String} {args : Args} (h : holders.contains id = false) : free (.builtin id args) = true := by simp only [free, h, Bool.not_false]
theorem codeC_builtin {id : String} {args : Args} {b : Builtin} {R : Result → Shared → Prop} (hf : holders.contains id = false) (hb : entryFor table id = some b)
    (h : wpC (model prog w) (A.under (.builtin id args)) (b args) (fun fin s' => match fin with | .done f => R (.ok f) s' | .again c' => c'.quiet = true ∧ codeC (model prog w) A c' R s') (fun e s' => R (.error e) s') s) :
    codeC (model prog w) A (.builtin id args) R s := by
  refine codeC_of_tree (free_builtin hf) ?_
  show wpC _ _ (match entryFor table id with | some b => b args | none => unsupported ((withoutEnding? id "#data").getD id)) _ _ s
  rw [hb]; exact h
/-- a byte array's object -/
abbrev baObj (b : Array UInt8) : Obj := { cls := .type "bytearray", data := .bytearray b }
theorem wp_write {M : Model} {S : Addr} {b : Array UInt8} {f : Array UInt8 → Array UInt8} {Q : Unit → Shared → Prop} (ho : s.heap.get? S = some (baObj b)) (hz : (f b).size ≤ 1000)
    (h : Q () { s with heap := s.heap.update S (Obj.mapBytearray f) }) : wpAny M A (Builtin.Bytes.write (.ref S) f) Q E s := by
  show wpAny M A (updateBytearray S f) Q E s
  unfold updateBytearray
  refine wpAny_bind (wpAny_load ho ?_)
  refine wpAny_bind (wpAny_update ho ?_)
  refine wpAny_lookBehind (o := baObj (f b)) (Heap.get?_update_self _ ho rfl) ?_ h
  show (if (f b).size > sizeLine then some "bytearray:memory" else none) = none
  rw [sizeLine_eq]
  exact if_neg (by omega)
set_option maxHeartbeats 2000000 in
theorem own_release_ba {M : Model} {S : Addr} {Q : Bool → Shared → Prop} (hT : s.TypeIs (.ref S) "bytearray") (h : Q false s) : wpAny M A (Builtin.Bytes.ownRelease (.ref S)) Q E s := by
  unfold Builtin.Bytes.ownRelease Builtin.Bytes.slotIsOwn
  refine wpAny_bind (wpAny_bind (wpAny_specialOf hT Ba.look_release ?_))
  show wpAny _ _ (if (!("bytearray.__release_buffer__" : String).endsWith ("." ++ "__release_buffer__")) = true then _ else _) _ _ _
  rw [if_neg (by decide +kernel)]
  show wpAny _ _ (isInstance (.ref S) (.type (("bytearray.__release_buffer__" : String).dropRight (("__release_buffer__" : String).length + 1)))) _ _ _
  rw [show (("bytearray.__release_buffer__" : String).dropRight (("__release_buffer__" : String).length + 1)) = "bytearray" from by decide +kernel]
  exact wpAny_isInstance hT Ba.sub_self (wpAny_pure h)
set_option maxHeartbeats 2000000 in
theorem code_ba_new (a : Value) {Q₁ : Value → Shared → Prop}
    (h : Q₁ (.ref s.heap.objs.size) { s with heap := s.heap.push (baObj #[]) }) :
    codeAny (model prog w) A (.call (.builtin "bytearray.__new__") ⟨[.type "bytearray", a], []⟩) (wants Q₁ E) s := by
  refine codeAny_of_tree ?_
  show wpAny _ A.in1 (do checkBuiltinCall "bytearray.__new__" ⟨[.type "bytearray", a], []⟩; again (.builtin "bytearray.__new__" ⟨[.type "bytearray", a], []⟩)) _ _ s
  refine wpAny_bind (wpAny_of_eq (Ba.newCall a) (wpAny_pure ⟨plainId_quiet Ba.called.plain _, codeAny_builtin_stack Ba.entry_new rfl fun p st => ?_⟩))
  rw [Around.under_plainId Ba.called.plain _]
  have hsub := Ba.sub_self
  have hown : ("bytearray.__new__".splitOn ".__new__").headD "" = "bytearray" := by rw [split_bytearray]; rfl
  obtain ⟨hp, g, d, tk, os⟩ := s
  simp only [hown]
  wp_walk
  exact h
theorem dite_no {c : Prop} [Decidable c] {t : c → Bool} {e : ¬ c → Bool} (hc : ¬ c) (h : ¬ (e hc = true)) : ¬ (dite c t e = true) := by rw [dif_neg hc]; exact h
theorem not_held {id x : String} (e : (!holders.contains id) = true) (h : holders.contains x = true) : id ≠ x := fun q => by rw [q, h] at e; cases e
/-- no code of a stack that holds no buffer holds this one -/
theorem exported_no {M : Model} {v : Value} {Q : Bool → Shared → Prop} (h : Q false s) : wpC M A (Builtin.Bytes.exported v) Q E s := by
  unfold Builtin.Bytes.exported
  refine wpC_bind (wpC_stack fun st hst => wpC_pure ?_)
  rw [List.any_eq_false.mpr ?_]
  · exact h
  · rintro ⟨c, p⟩ hq
    have e := hst _ hq
    cases c
    case builtin id args =>
      have e' : (!holders.contains id) = true := e
      delta Builtin.Bytes.exported.match_1
      refine dite_no (c := id = "bytearray.__contains__") (not_held e' (by decide +kernel)) ?_
      refine dite_no (c := id = "bytearray.__mod__") (not_held e' (by decide +kernel)) ?_
      refine dite_no (c := id = "bytearray.__rmod__") (not_held e' (by decide +kernel)) ?_
      refine dite_no (c := id = "_struct.pack_into.held") (not_held e' (by decide +kernel)) ?_
      refine dite_no (c := id = "bytearray.find.held") (not_held e' (by decide +kernel)) ?_
      obtain ⟨pos, kw⟩ := args
      cases pos with
      | nil => exact Bool.false_ne_true
      | cons u r =>
        have e2 : Builtin.Bytes.decodersThatHold.contains id = false := by
          cases hc : Builtin.Bytes.decodersThatHold.contains id with
          | false => rfl
          | true =>
            have : holders.contains id = true := by
              unfold holders
              rw [List.contains_iff_mem] at hc ⊢
              exact List.mem_append_right _ hc
            rw [this] at e'
            cases e'
        show ¬ ((Builtin.Bytes.sameRef u v && Builtin.Bytes.decodersThatHold.contains id) = true)
        rw [e2, Bool.and_false]
        exact Bool.false_ne_true
    all_goals exact Bool.false_ne_true
end
end Mine
end
section
open PySem PySem.W PyProof.Rows PySem.Calls
set_option maxRecDepth 100000
namespace Mine
theorem ba_bind (v : Value) : Builtin.Bytes.bindOptional "bytearray.__init__" "bytearray" ["source", "encoding", "errors"] [v] [] = pure [some v, none, none] := by kernel_rfl
theorem ba_codec (a b c : String) : Builtin.Bytes.checkCodecArg a b c none = pure () := rfl
section
variable {prog : Program} {w : World} {A : Around} {E : Value → Shared → Prop} {s : Shared}
theorem wpC_neg {α : Type} {M : Model} {c : Prop} [Decidable c] {t e : Sem α} {Q : α → Shared → Prop} (hc : ¬ c) (h : wpC M A e Q E s) : wpC M A (if c then t else e) Q E s := by rw [if_neg hc]; exact h
theorem any_neg {α : Type} {M : Model} {c : Prop} [Decidable c] {t e : Sem α} {Q : α → Shared → Prop} (hc : ¬ c) (h : wpAny M A e Q E s) : wpAny M A (if c then t else e) Q E s := by rw [if_neg hc]; exact h
theorem any_pos {α : Type} {M : Model} {c : Prop} [Decidable c] {t e : Sem α} {Q : α → Shared → Prop} (hc : c) (h : wpAny M A t Q E s) : wpAny M A (if c then t else e) Q E s := by rw [if_pos hc]; exact h
theorem any_rule {α : Type} {M : Model} {x : String} {f : Unit → Sem α} {Q : α → Shared → Prop} (h : wpAny M A (f ()) Q E s) : wpAny M A (rule x >>= f) Q E s := wpAny_bind (wpAny_rule h)
theorem any_eq {α β : Type} {M : Model} {t : Sem α} {a : α} {f : α → Sem β} {Q : β → Shared → Prop} (e : t = pure a) (h : wpAny M A (f a) Q E s) : wpAny M A (t >>= f) Q E s := wpAny_bind (wpAny_of_eq e h)
set_option maxHeartbeats 2000000 in
theorem init_C {S : Addr} {n : Int} {t : Tok} {Q : PySem.Fin → Shared → Prop} (ho : s.heap.get? S = some (baObj #[])) (h0 : 0 ≤ n) (h1 : n ≤ 1000)
    (h : ∀ h', h'.get? S = some (baObj (Array.replicate n.toNat 0)) → Heap.SameBut S s.heap h' → Q (.done (.ret .none)) { s with heap := h' }) :
    wpC (model prog w) A (Builtin.«bytearray.__init__» ⟨[.ref S, .int n t], []⟩) Q E s := by
  have hT : s.TypeIs (.ref S) "bytearray" := ⟨_, ho, rfl⟩
  unfold Builtin.«bytearray.__init__»
  refine wpC_step (own_release_ba hT ?_)
  refine wpC_neg Bool.false_ne_true ?_
  refine wpC_step (wpAny_of_eq (ba_bind _) ?_)
  refine wpC_step (wpAny_of_eq (ba_codec _ _ _) ?_)
  refine wpC_step (wpAny_of_eq (ba_codec _ _ _) ?_)
  refine wpC_bind ?_
  show wpC _ _ (Builtin.Bytes.exported (.ref S) >>= fun b => _) _ _ _
  refine wpC_bind (exported_no (wpC_of ?_))
  show wpAny _ _ (Builtin.Bytes.exportsOf (.ref S) >>= fun k => pure (decide (k > 0))) _ _ _
  refine wpAny_bind ?_
  show wpAny _ _ (load S >>= fun o => _) _ _ _
  refine wpAny_bind (wpAny_load ho (wpAny_pure (wpAny_pure ?_)))
  refine wpC_neg (by decide) (wpC_of ?_)
  refine wpAny_bind (wp_write ho (by simp) ?_)
  have ho' : (s.heap.update S (Obj.mapBytearray fun _ => #[])).get? S = some (baObj #[]) := Heap.get?_update_self (Obj.mapBytearray fun _ => #[]) ho rfl
  have hs' : Heap.SameBut S s.heap (s.heap.update S (Obj.mapBytearray fun _ => #[])) := Heap.SameBut.update ..
  refine any_eq (show asStr? (.int n t) = pure none from rfl) ?_
  refine any_neg Bool.false_ne_true ?_
  refine wpAny_bind (any_neg Bool.false_ne_true (any_neg Bool.false_ne_true (wpAny_pure ?_)))
  refine any_eq (show specialOf (.int n t) "__index__" = pure (some (.builtin "int.__index__")) from F.slot_int_index.lookup) ?_
  refine any_pos rfl ?_
  refine any_eq (show (asIndex (.int n t)).attempt = pure (.ok n) from rfl) ?_
  have e1 : Builtin.Bytes.fitsIndex n = true := by unfold Builtin.Bytes.fitsIndex; simp; omega
  have e2 : (n == 2 ^ 63 - 1) = false := by rw [beq_eq_false_iff_ne]; omega
  have e3 : Builtin.Bytes.tooLong n.toNat = false := by unfold Builtin.Bytes.tooLong; rw [sizeLine_eq]; exact decide_eq_false (by omega)
  refine any_neg (by rw [e1]; exact Bool.false_ne_true) ?_
  refine any_neg (by omega) ?_
  refine any_neg (by rw [e2]; exact Bool.false_ne_true) ?_
  refine any_neg (by rw [e3]; exact Bool.false_ne_true) ?_
  refine any_rule ?_
  by_cases hn : n > 0
  · refine any_pos hn ?_
    refine wpAny_bind (wp_write ho' (by simp; omega) (wpAny_pure ?_))
    exact h _ (Heap.get?_update_self (Obj.mapBytearray fun _ => Array.replicate n.toNat 0) ho' rfl) (hs'.trans (Heap.SameBut.update ..))
  · refine any_neg hn ?_
    refine wpAny_pure (h _ ?_ hs')
    rw [ho', show n.toNat = 0 by omega]
    rfl
set_option maxHeartbeats 2000000 in
theorem new_ba {n : Int} {t : Tok} {Q : Value → Shared → Prop} (h0 : 0 ≤ n) (h1 : n ≤ 1000)
    (h : ∀ h', h'.get? s.heap.objs.size = some (baObj (Array.replicate n.toNat 0)) → (∀ b o, s.heap.get? b = some o → h'.get? b = some o) → Q (.ref s.heap.objs.size) { s with heap := h' }) :
    wpC (model prog w) A (call (.type "bytearray") [.int n t]) Q E s := by
  have hm := Ba.mro
  have hmade := Ba.called.made
  have hct := Ba.typeCall (.int n t)
  have h2 := Ba.called.canCreate
  have h3 := Ba.called.notType
  refine wpC_call (codeC_of_tree rfl ?_)
  show wpC _ _ (callAny (.type "bytearray") _) _ _ _
  refine wpC_pure ⟨Code.quiet_builtin _ (by decide +kernel), codeC_builtin (by decide +kernel) F.entry_type_call ?_⟩
  rw [Around.under_plain (weight_type_call_type "bytearray" _ []) rfl]
  unfold Builtin.«type.__call__»
  simp only [hm, hmade, hct, h2, h3, pure_bind, List.isEmpty_cons, Bool.false_eq_true, if_false]
  refine wpC_step (wpAny_holding (wpAny_call (codeAny_mono (code_ba_new (E := E) (.int n t) (Q₁ := fun v s' => v = .ref s.heap.objs.size ∧ s' = { s with heap := s.heap.push (baObj #[]) }) ⟨rfl, rfl⟩) fun r s' hr => ?_)))
  cases r with
  | error e => exact hr
  | ok fl =>
    cases fl with
    | ret obj =>
      obtain ⟨rfl, rfl⟩ := hr
      have ho : (s.heap.push (baObj #[])).get? s.heap.objs.size = some (baObj #[]) := Heap.get?_push_size _ rfl
      have hT : ({ s with heap := s.heap.push (baObj #[]) } : Shared).TypeIs (.ref s.heap.objs.size) "bytearray" := ⟨_, ho, rfl⟩
      refine wpC_step (wpAny_isInstance hT Ba.sub_self ?_)
      simp only [Bool.not_true, Bool.false_eq_true, if_false]
      refine wpC_bind (wpC_holding ?_)
      unfold callSpecial?
      refine wpC_step (wpAny_specialOf hT Ba.slot_init.lookup ?_)
      refine wpC_holding (wpC_step (wpAny_of_eq (Ba.slot_init.bind _) ?_))
      refine wpC_bind (wpC_call (codeC_of_tree rfl ?_))
      show wpC _ _ (do checkBuiltinCall "bytearray.__init__" ⟨[.ref s.heap.objs.size, .int n t], []⟩; again (.builtin "bytearray.__init__" ⟨[.ref s.heap.objs.size, .int n t], []⟩)) _ _ _
      refine wpC_step (Ba.slot_init.check _ _ _ _ _ _ _ _ hT (Ba.args_init _ _) (wpC_pure ⟨plainId_quiet Ba.slot_init.plain _, codeC_builtin (by decide +kernel) Ba.entry_init ?_⟩))
      refine init_C ho h0 h1 fun h' hS hs => ?_
      refine wpC_pure ?_
      exact wpC_pure (h h' hS fun b o e => (hs.2 b (Nat.ne_of_lt (Heap.lt_size e))).trans (Heap.get?_push_of_some _ e))
    | _ => exact hr.elim
theorem new_ba_N {h₀ : Heap} {L : Addr} {m : Str → Option Value} {news : List (Addr × Obj)} {n : Int} {t : Tok} {Q : Value → Shared → Prop} (F : Fr h₀ L s.heap m) (N : News h₀ L s.heap news) (h0 : 0 ≤ n) (h1 : n ≤ 1000)
    (h : ∀ S h', Fr h₀ L h' m → News h₀ L h' ((S, baObj (Array.replicate n.toNat 0)) :: news) → (∀ p ∈ news, p.1 < S) → Q (.ref S) { s with heap := h' }) :
    wpC (model prog w) A (call (.type "bytearray") [.int n t]) Q E s := by
  refine new_ba h0 h1 fun h' hS hk => h _ h' (F.keeps hk) (fun p hp => ?_) fun p hp => Heap.lt_size (N p hp).1
  rcases List.mem_cons.mp hp with rfl | hp
  · refine ⟨hS, Nat.ne_of_gt F.ns.lt, Heap.get?_none_of_le (Nat.le_trans F.above (Nat.le_of_lt F.ns.lt))⟩
  · exact ⟨hk _ _ (N p hp).1, (N p hp).2⟩
end
end Mine
end
section
open PySem PySem.W PyProof.Rows PySem.Calls
set_option maxRecDepth 100000
namespace Mine
section
variable {M : Model} {A : Around} {E : Value → Shared → Prop} {s : Shared} {env : Env} {K : Frag}
theorem assign_C {x : Str} {pos' pos : Pos} {value : Expr} {Q : Flow → Shared → Prop}
    (h : wpC M A (eval value env) (fun v s₁ => wpAny M A (storeName env x v) (fun _ => Q .next) E s₁) E s)
    (hs : swapsWith value (some (.Name x pos')) pos.line env = pure false := by rfl) : wpC M A (exec (.Assign [.Name x pos'] value pos) env) Q E s := by
  rw [exec_Assign_Name env x pos' value pos hs]
  refine wpC_step (wpAny_standAt (wpC_bind (wpC_mono h (fun v s₁ h₁ => ?_) fun _ _ q => q)))
  exact wpC_step (wpAny_standAt (wpC_step (wpAny_bindName (wpAny_mono h₁ (fun _ _ q => wpC_pure q) fun _ _ q => q))))
theorem evalCall_C {x : Str} {np pos : Pos} {args : List Expr} {Q : Value → Shared → Prop}
    (h : wpAny M A (eval (.Name x np) env) (fun f s₁ => wpC M A (callWith pos f [] (backTo pos (starEach args env)) []) Q E s₁) E s) : wpC M A (eval (.Call (.Name x np) args [] pos) env) Q E s := by
  show wpC M A (do callWith pos (← eval (.Name x np) env) [] (backTo pos (starEach args env)) (backToKw pos (keywordEach [] env))) Q E s
  exact wpC_step h
theorem callWith_C {f : Value} {k : Keeper} {pos : Pos} {x : Sem Value} {rest : List (Bool × Sem Value)} {Q : Value → Shared → Prop} {P : Heap → Prop} (hk : k = .frame ∨ k = .machine) (hl : ∀ h, P h → Looks M h (keeperOf f) k)
    (hp : rest.any (·.1) = false) (hn : rest.length < 20)
    (h : wpAny M A (spliced ((false, x) :: rest)) (fun vs s₁ => P s₁.heap ∧ wpC M A (call f vs) Q E s₁) E s) : wpC M A (callWith pos f [] ((false, x) :: rest) []) Q E s := by
  unfold callWith
  refine wpC_step (wpAny_holding (evalArgs_plain (wpAny_mono h (fun vs s₁ h₁ => wpC_step (wpAny_standAt ?_)) fun _ _ q => q)))
  have tail : wpC M A (call f vs >>= fun r => holding [r] point >>= fun _ => pure r) Q E s₁ :=
    wpC_bind (wpC_mono h₁.2 (fun r s₂ hr => wpC_step (wpAny_holding (wpAny_point (wpC_pure hr)))) fun _ _ q => q)
  have hs : (((false, x) :: rest).any (·.1) || ([] : List (Option Str × Sem Value)).any (·.1.isNone)) = false := by
    show ((false || rest.any (·.1)) || false) = false
    rw [hp]; rfl
  simp only [hs]
  refine wpC_step ((hl _ h₁.1).here ?_)
  rcases hk with rfl | rfl
  · dsimp only
    rw [if_neg (by simp only [List.length_cons, List.length_nil]; omega)]
    refine wpC_bind ?_
    unfold callMarked
    exact wpC_keep (wpC_mono h₁.2 (fun r s₂ hr => wpC_step (wpAny_holding (wpAny_point (wpC_pure hr)))) fun _ _ q => q)
  · exact tail
theorem callFn_C {f : Value} {k : Keeper} {pos : Pos} {e : Expr} {rest : List Expr} {Q : Value → Shared → Prop} {P : Heap → Prop} (hk : k = .frame ∨ k = .machine) (hl : ∀ h, P h → Looks M h (keeperOf f) k)
    (h : wpAny M A (spliced (backTo pos (starEach (e :: rest) env))) (fun vs s₁ => P s₁.heap ∧ wpC M A (call f vs) Q E s₁) E s)
    (he : starEach (e :: rest) env = (false, eval e env) :: starEach rest env := by rfl) (hp : (backTo pos (starEach rest env)).any (·.1) = false := by rfl) (hn : (backTo pos (starEach rest env)).length < 20 := by exact Nat.le_of_ble_eq_true rfl) :
    wpC M A (callWith pos f [] (backTo pos (starEach (e :: rest) env)) []) Q E s := by
  have hb : backTo pos (starEach (e :: rest) env) = (false, eval e env) :: backTo pos (starEach rest env) := by rw [he]; rfl
  rw [hb] at h ⊢
  exact callWith_C hk hl hp hn h
theorem looks_fn {f : Addr} (hf : fnIn K f = true) : ∀ h, K.In h → Looks M h (keeperOf (.ref f)) .frame := fun h X => by
  unfold fnIn at hf
  split at hf
  · rename_i e
    exact (Looks.ld (part := none) (X _ _ e)).andThen .now
  · cases hf
theorem looks_type {T : String} : ∀ h : Heap, True → Looks M h (keeperOf (.type T)) .machine := fun _ _ => Looks.of_pure rfl
theorem callDef_C {f : Addr} {pos : Pos} {e : Expr} {rest : List Expr} {Q : Value → Shared → Prop} {h₀ : Heap} (_X : K.In h₀) (hf : fnIn K f = true)
    (h : wpAny M A (spliced (backTo pos (starEach (e :: rest) env))) (fun vs s₁ => K.In s₁.heap ∧ wpC M A (call (.ref f) vs) Q E s₁) E s)
    (he : starEach (e :: rest) env = (false, eval e env) :: starEach rest env := by rfl) (hp : (backTo pos (starEach rest env)).any (·.1) = false := by rfl) (hn : (backTo pos (starEach rest env)).length < 20 := by exact Nat.le_of_ble_eq_true rfl) :
    wpC M A (callWith pos (.ref f) [] (backTo pos (starEach (e :: rest) env)) []) Q E s := callFn_C (.inl rfl) (looks_fn hf) h he hp hn
theorem callType_C {T : String} {pos : Pos} {e : Expr} {rest : List Expr} {Q : Value → Shared → Prop}
    (h : wpAny M A (spliced (backTo pos (starEach (e :: rest) env))) (fun vs s₁ => wpC M A (call (.type T) vs) Q E s₁) E s)
    (he : starEach (e :: rest) env = (false, eval e env) :: starEach rest env := by rfl) (hp : (backTo pos (starEach rest env)).any (·.1) = false := by rfl) (hn : (backTo pos (starEach rest env)).length < 20 := by exact Nat.le_of_ble_eq_true rfl) :
    wpC M A (callWith pos (.type T) [] (backTo pos (starEach (e :: rest) env)) []) Q E s := callFn_C (P := fun _ => True) (.inr rfl) looks_type (wpAny_mono h (fun _ _ q => ⟨trivial, q⟩) fun _ _ q => q) he hp hn
end
section
variable {prog : Program} {w : World} {A : Around} {E : Value → Shared → Prop} {s : Shared}
theorem len_b {b : Array UInt8} {t : Tok} {k : Int} {Q : Value → Shared → Prop} (hz : b.size ≤ 1000) (e : (b.size : Int) = k) (h : Q (.int k (s.toks + 1)) { s with toks := s.toks + 1 + 1 }) : wpAny (model prog w) A (call (.builtin "len") [.bytes b t]) Q E s :=
  KBw.len_K (ks := KBw.bInts b) rfl (by rw [KBw.ints_length]; omega) (by rw [KBw.ints_length, e]; exact h)
end
end Mine
end
section
open PySem PySem.W PyProof.Rows PySem.Calls
set_option maxRecDepth 100000
namespace Mine
namespace Ba
theorem slot_set : Slot "bytearray" "__setitem__" "bytearray.__setitem__" :=
  .of (owner := "bytearray") (n := "__setitem__") (by rw [typeLookup_type, builtinLookup_eq_fast]; kernel_rfl) (by decide +kernel) (by decide +kernel) (by decide +kernel)
    (by first | exact .inl (by decide +kernel) | exact .inr (by decide +kernel)) (by rw [isSubtype_type]; kernel_rfl)
theorem entry_set : entryFor table "bytearray.__setitem__" = some Builtin.«bytearray.__setitem__» := by first | exact entryFor_of_tree (by kernel_rfl) | exact entryFor_of_fast (by kernel_rfl)
theorem args_set (a b c : Value) : argsOk "bytearray.__setitem__" ⟨[a, b, c], []⟩ := by unfold argsOk; kernel_rfl
theorem noBytes : typeLookup (.type "bytearray") "__bytes__" = pure none := by rw [typeLookup_type, builtinLookup_eq_fast]; kernel_rfl
theorem noIndex : typeLookup (.type "bytearray") "__index__" = pure none := by rw [typeLookup_type, builtinLookup_eq_fast]; kernel_rfl
theorem look_buffer : typeLookup (.type "bytearray") "__buffer__" = pure (some (.builtin "bytearray.__buffer__")) := by rw [typeLookup_type, builtinLookup_eq_fast]; kernel_rfl
end Ba
section
variable {prog : Program} {w : World} {A : Around} {E : Value → Shared → Prop} {s : Shared}
theorem wp_payload {M : Model} {S : Addr} {b : Array UInt8} {Q : Array UInt8 → Shared → Prop} (ho : s.heap.get? S = some (baObj b)) (h : Q b s) : wpAny M A (Builtin.Bytes.payload (.ref S)) Q E s := by
  unfold Builtin.Bytes.payload Builtin.Bytes.payload?
  refine wpAny_bind (wpAny_bind (wpAny_load ho ?_))
  exact wpAny_pure (wpAny_pure h)
theorem wp_subscript {M : Model} {k : Int} {t : Tok} {Q : Option Int → Shared → Prop} (h0 : 0 ≤ k) (h1 : k < 1000) (h : Q (some k) s) : wpAny M A (Builtin.Bytes.subscript? (.int k t)) Q E s := by
  unfold Builtin.Bytes.subscript?
  refine wpAny_bind (wpAny_of_eq (show specialOf (.int k t) "__index__" = pure (some (.builtin "int.__index__")) from F.slot_int_index.lookup) ?_)
  refine bm_if_false rfl ?_
  refine wpAny_bind (wpAny_of_eq (rfl : asIndex (.int k t) = pure k) ?_)
  have e : Builtin.Bytes.fitsIndex k = true := by unfold Builtin.Bytes.fitsIndex; simp; omega
  rw [e]
  exact bm_if_false rfl (wpAny_pure h)
theorem wp_byteValue {M : Model} {k : Int} {t : Tok} {Q : UInt8 → Shared → Prop} (h0 : 0 ≤ k) (h1 : k < 256) (h : Q k.toNat.toUInt8 s) : wpAny M A (Builtin.Bytes.byteValue (.int k t)) Q E s := by
  unfold Builtin.Bytes.byteValue
  refine wpAny_bind (wpAny_of_eq (rfl : asIndex (.int k t) = pure k) ?_)
  refine bm_if_false (by simp only [Bool.or_eq_false_iff, decide_eq_false_iff_not]; omega) (wpAny_pure h)
set_option maxHeartbeats 2000000 in
theorem set_ba {S : Addr} {b : Array UInt8} {k x : Int} {t u : Tok} {Q : Unit → Shared → Prop} (ho : s.heap.get? S = some (baObj b)) (h0 : 0 ≤ k) (h1 : k < b.size) (hz : b.size ≤ 900) (hx0 : 0 ≤ x) (hx1 : x < 256)
    (h : Q () { s with heap := s.heap.update S (Obj.mapBytearray (·.setIfInBounds k.toNat x.toNat.toUInt8)) }) : wpAny (model prog w) A (setItem (.ref S) (.int k t) (.int x u)) Q E s := by
  have hT : s.TypeIs (.ref S) "bytearray" := ⟨_, ho, rfl⟩
  unfold setItem
  try with_reducible refine wpAny_holding ?_
  first | refine wpAny_bind (wpAny_pure ?_) | skip
  refine wpAny_bind (wpAny_sequenceKey hT (by decide) ?_)
  refine wpAny_bind (wpAny_callSpecial?_slot (name := Str.ofString "__setitem__") hT Ba.slot_set
    (wpAny_call_entry Ba.slot_set hT Ba.entry_set ?_ (Ba.args_set _ _ _)))
  unfold Builtin.«bytearray.__setitem__»
  refine bm_if_false rfl ?_
  show wpAny _ _ (Builtin.Bytes.subscript? (.int k t) >>= _) _ _ s
  refine wpAny_bind (wp_subscript h0 (by omega) ?_)
  dsimp only
  refine wpAny_bind (wp_byteValue hx0 hx1 ?_)
  refine wpAny_bind (wp_payload ho ?_)
  have e : seqIndex? k b.size = some k.toNat := by
    unfold seqIndex?
    simp
    omega
  rw [e]
  dsimp only
  refine wpAny_bind (wp_write ho (by simp; omega) ?_)
  show wpAny _ _ (ret .none) _ _ _
  unfold ret
  exact wpAny_pure ⟨.none, rfl, wpAny_pure h⟩
theorem set_ba_N {h₀ : Heap} {L S : Addr} {m : Str → Option Value} {news news' : List (Addr × Obj)} {b : Array UInt8} {k x : Int} {t u : Tok} {Q : Unit → Shared → Prop} (F : Fr h₀ L s.heap m) (N : News h₀ L s.heap news)
    (U : Upd S (baObj b) (baObj (b.setIfInBounds k.toNat x.toNat.toUInt8)) news news') (h0 : 0 ≤ k) (h1 : k < b.size) (hz : b.size ≤ 900) (hx0 : 0 ≤ x) (hx1 : x < 256)
    (h : ∀ h', Fr h₀ L h' m → News h₀ L h' news' → Q () { s with heap := h' }) : wpAny (model prog w) A (setItem (.ref S) (.int k t) (.int x u)) Q E s := by
  obtain ⟨pre, post, rfl, rfl, a, c⟩ := U.split
  have z := N (S, baObj b) (List.mem_append.mpr (.inr (.head _)))
  refine set_ba z.1 h0 h1 hz hx0 hx1 (h _ (F.change (Heap.SameBut.update ..) z.2.1 z.2.2) (N.setAt a c (Heap.SameBut.update ..) ?_))
  exact Heap.get?_update_self (Obj.mapBytearray (·.setIfInBounds k.toNat x.toNat.toUInt8)) z.1 rfl
theorem set_ba_B {h₀ : Heap} {L S : Addr} {m : Str → Option Value} {news news' : List (Addr × Obj)} {b : Array UInt8} {k : Int} {y : UInt8} {t u : Tok} {Q : Unit → Shared → Prop} (F : Fr h₀ L s.heap m) (N : News h₀ L s.heap news)
    (U : Upd S (baObj b) (baObj (b.setIfInBounds k.toNat y)) news news') (h0 : 0 ≤ k) (h1 : k < b.size) (hz : b.size ≤ 900)
    (h : ∀ h', Fr h₀ L h' m → News h₀ L h' news' → Q () { s with heap := h' }) : wpAny (model prog w) A (setItem (.ref S) (.int k t) (.int (y.toNat : Int) u)) Q E s := by
  refine set_ba_N F N ?_ h0 h1 hz (Int.natCast_nonneg _) (Int.ofNat_lt.mpr (UInt8.toNat_lt y)) h
  have e : ((y.toNat : Int)).toNat.toUInt8 = y := by simp
  rw [e]
  exact U
theorem k_mem_get {h₀ h : Heap} {L d : Addr} {o : Obj} {news : List (Addr × Obj)} (N : News h₀ L h news) (hm : (d, o) ∈ news) : h.get? d = some o := (N _ hm).1
theorem own_slot_ba {M : Model} {S : Addr} {Q : Bool → Shared → Prop} (hT : s.TypeIs (.ref S) "bytearray") (h : Q true s) : wpAny M A (Builtin.Bytes.slotIsOwn (.ref S) "__buffer__") Q E s := by
  unfold Builtin.Bytes.slotIsOwn
  refine wpAny_bind (wpAny_specialOf hT Ba.look_buffer ?_)
  show wpAny _ _ (if (!("bytearray.__buffer__" : String).endsWith ("." ++ "__buffer__")) = true then _ else _) _ _ _
  rw [if_neg (by decide +kernel)]
  show wpAny _ _ (isInstance (.ref S) (.type (("bytearray.__buffer__" : String).dropRight (("__buffer__" : String).length + 1)))) _ _ _
  rw [show (("bytearray.__buffer__" : String).dropRight (("__buffer__" : String).length + 1)) = "bytearray" from by decide +kernel]
  exact wpAny_isInstance hT Ba.sub_self h
set_option maxHeartbeats 2000000 in
theorem bytes_ba {S : Addr} {b : Array UInt8} {Q : Value → Shared → Prop} (ho : s.heap.get? S = some (baObj b)) (hz : b.size ≤ 900)
    (hQ : ∀ t k, Q (.bytes b t) { s with toks := k }) : wpAny (model prog w) A (call (.type "bytes") [.ref S]) Q E s := by
  refine callType_codes (Q₁ := fun obj s₁ => s₁.TypeIs obj "bytes" ∧ Q obj s₁) F.bm_called (F.bm_typeCall _) F.entry_object_init
    ?_ fun obj s₁ h₁ => ⟨h₁.1, F.args_object_init_2 obj _, object_init_meets F.bm_called.init.lookup F.bm_called.made (by decide) prog w A.in1 _ s₁ ⟨h₁.1, rfl, h₁.2⟩⟩
  refine codeAny_of_tree ?_
  show wpAny _ _ (do checkBuiltinCall "bytes.__new__" ⟨[.type "bytes", .ref S], []⟩; again (.builtin "bytes.__new__" ⟨[.type "bytes", .ref S], []⟩)) _ _ s
  refine wpAny_bind (wpAny_of_eq (F.bm_newCall _) (wpAny_pure ⟨plainId_quiet F.bm_plain _, codeAny_builtin F.bm_entry ?_⟩))
  rw [Around.under_plainId F.bm_plain _]
  have hT : s.TypeIs (.ref S) "bytearray" := ⟨_, ho, rfl⟩
  unfold Builtin.«bytes.__new__»
  refine wpAny_bind (wpAny_of_eq (a := true) rfl ?_)
  refine bm_if_false rfl ?_
  refine wpAny_bind (wpAny_of_eq F.bm_sub ?_)
  refine bm_if_false rfl ?_
  refine wpAny_bind (wpAny_of_eq (F.bm_bind _) ?_)
  refine wpAny_bind (wpAny_of_eq (a := ()) rfl ?_)
  refine wpAny_bind (wpAny_of_eq (a := ()) rfl ?_)
  refine bm_if_false rfl ?_
  refine wpAny_bind (wpAny_specialOf hT Ba.noBytes ?_)
  refine wpAny_bind (wpAny_bind ?_)
  show wpAny _ _ (load S >>= _) _ _ _
  refine wpAny_bind (wpAny_load ho ?_)
  refine wpAny_pure (wpAny_pure ?_)
  refine bm_if_false rfl ?_
  refine wpAny_bind (wpAny_specialOf hT Ba.noIndex ?_)
  refine bm_if_true rfl ?_
  first
    | show wpAny _ _ (Builtin.Bytes.buffer? "bytes.__new__" (.ref S) true >>= _) _ _ _
    | (refine wpAny_bind ?_; show wpAny _ _ (Builtin.Bytes.buffer? "bytes.__new__" (.ref S) true >>= _) _ _ _)
  refine wpAny_bind ?_
  unfold Builtin.Bytes.buffer?
  refine wpAny_bind (wpAny_specialOf hT Ba.look_buffer ?_)
  dsimp only
  refine wpAny_bind (own_slot_ba hT ?_)
  refine bm_if_false rfl ?_
  refine wpAny_bind (wpAny_specialOf hT Ba.look_buffer ?_)
  refine wpAny_bind (own_release_ba hT ?_)
  refine bm_if_false rfl ?_
  refine wpAny_bind (wp_payload ho ?_)
  refine wpAny_pure ?_
  refine wpAny_bind (wpAny_rule ?_)
  refine wpAny_bind (wpAny_mkBytes ?_ (by rw [sizeLine_eq]; omega))
  show wpAny _ _ (if (Value.type "bytes" == Value.type "bytes") = true then _ else _) _ _ _
  refine bm_if_true (by decide) ?_
  first
    | exact wpAny_pure ⟨PySem.W.typeIs_bytes _ _ _, hQ _ _⟩
    | exact wpAny_bind (wpAny_pure (wpAny_pure ⟨PySem.W.typeIs_bytes _ _ _, hQ _ _⟩))
end
end Mine
end
section
open PySem PySem.W PyProof.Rows PySem.Calls
set_option maxRecDepth 100000
namespace Mine
section
variable {prog : Program} {w : World} {A : Around} {E : Value → Shared → Prop} {s : Shared}
theorem eqBool_bytes {x y : Array UInt8} {t u : Tok} {Q : Bool → Shared → Prop} (h : Q (x.toList == y.toList) s) : wpAny (model prog w) A (eqBool (.bytes x t) (.bytes y u)) Q E s := by
  unfold eqBool
  show wpAny _ _ (if (Value.bytes x t == Value.bytes y u) = true then _ else _) Q E s
  by_cases hab : (Value.bytes x t == Value.bytes y u) = true
  · rw [if_pos hab]
    have e : x = y := by have := eq_of_beq hab; injection this
    subst e
    exact wpAny_bind (wpAny_rule (wpAny_pure (by simpa using h)))
  · rw [if_neg hab]
    exact wpAny_bind (eq_bytes (wpAny_truthy_bool h))
theorem eqGives_bytes (a b : Array UInt8) (t u : Tok) : MeetsSeq.EqGives (.bytes a t) (.bytes b u) (a.toList == b.toList) := fun _ _ _ _ _ _ h => eqBool_bytes h
def isBytes (x : List UInt8) : Value → Bool
  | .bytes y _ => y.toList == x
  | _ => false
def AllBytes : List Value → Prop
  | [] => True
  | v :: r => (∃ b t, v = .bytes b t) ∧ AllBytes r
theorem AllBytes.eq {x : Array UInt8} {t : Tok} : ∀ {vs : List Value}, AllBytes vs → ∀ y ∈ vs, MeetsSeq.EqGives y (.bytes x t) (isBytes x.toList y)
  | _ :: _, h, y, hy => by
    rcases List.mem_cons.mp hy with rfl | hy
    · obtain ⟨b, u, rfl⟩ := h.1
      exact eqGives_bytes b x u t
    · exact AllBytes.eq h.2 y hy
variable {h₀ : Heap} {L a b : Addr} {m : Str → Option Value} {news : List (Addr × Obj)} {xs ys : List Value} {na nb : Nat} {Q : Value → Shared → Prop} {x : Array UInt8} {t : Tok} {c : Bool}
theorem ne_len (N : News h₀ L s.heap news) (ma : (a, listOf xs.toArray na) ∈ news) (mb : (b, listOf ys.toArray nb) ∈ news) (hl : (xs.length != ys.length) = true) (hu : A.units < cLine) (h : Q (.bool true) s) :
    wpAny (model prog w) A (compareOp .NotEq (.ref a) (.ref b)) Q E s :=
  cmp_ofNotEq (SeqAt.RcNeAt.lists_lengths (News.isList N ma) (News.isList N mb) (by simpa using hl) hu _ _ _ _ h)
theorem in_bytes (N : News h₀ L s.heap news) (ma : (a, listOf xs.toArray na) ∈ news) (hb : AllBytes xs) (e : xs.any (isBytes x.toList) = c) (h : Q (.bool c) s) :
    wpAny (model prog w) A (compareOp .In (.bytes x t) (.ref a)) Q E s :=
  SeqInW.in_listW (isBytes x.toList) (fun y hy => hb.eq y (by simpa using hy)) (News.isList N ma) (by rw [List.any_toArray, e]; exact h)
theorem notIn_bytes (N : News h₀ L s.heap news) (ma : (a, listOf xs.toArray na) ∈ news) (hb : AllBytes xs) (e : xs.any (isBytes x.toList) = c) (h : Q (.bool (!c)) s) :
    wpAny (model prog w) A (compareOp .NotIn (.bytes x t) (.ref a)) Q E s :=
  SeqInW.notIn_listW (isBytes x.toList) (fun y hy => hb.eq y (by simpa using hy)) (News.isList N ma) (by rw [List.any_toArray, e]; exact h)
end
end Mine
end
section
open PySem PySem.W PyProof.Rows
set_option maxRecDepth 100000
set_option maxHeartbeats 8000000
namespace Mine
section
variable {prog : Program} {w : World} {A : Around} {E : Value → Shared → Prop} {s : Shared}
theorem call_bits {a k : Int} {t : Tok} {Q : Value → Shared → Prop} (e : ((Builtin.Int.intBits a : Nat) : Int) = k) (h : Q (.int k s.toks) { s with toks := s.toks + 1 }) :
    wpAny (model prog w) A (call (.builtin "int.bit_length") [.int a t]) Q E s := call_int_bit_length (by rw [e]; exact h)
end
section
variable {prog : Program} {w : World} {A : Around} {E : Value → Shared → Prop} {s : Shared}
/-- the kit's rule; the new tuple lies behind all that stood -/
theorem divmod_M {h₀ : Heap} {L : Addr} {m : Str → Option Value} {news : List (Addr × Obj)} {a b : Int} {t u : Tok} {Q : Value → Shared → Prop} (F : Fr h₀ L s.heap m) (N : News h₀ L s.heap news) (hb : b ≠ 0) (hp : Builtin.divisionGoesByPylong a b = false)
    (h : ∀ D h' tk tq tr, Fr h₀ L h' m → News h₀ L h' ((D, { cls := .type "tuple", data := .seq #[.int (a.fdiv b) tq, .int (a.fmod b) tr] }) :: news) → (∀ x o, s.heap.get? x = some o → @LT.lt Nat _ x D) → Q (.ref D) { s with toks := tk, heap := h' }) :
    wpAny (model prog w) A (call (.builtin "divmod") [.int a t, .int b u]) Q E s := divmod_N F N hb (fun h' F' N' => h _ h' _ _ _ F' N' fun _ _ e => Heap.lt_size e) (.inl hp)
theorem Seen.lt {news : List (Addr × Obj)} {g h : Heap} {D : Addr} (G : Seen [] news g) (k : ∀ b o, g.get? b = some o → h.get? b = some o) (l : ∀ x o, h.get? x = some o → @LT.lt Nat _ x D) : ∀ p ∈ news, @LT.lt Nat _ p.1 D := fun p hp => l _ _ (k _ _ (G p hp (fun q => nomatch q)))
end
set_option hygiene false in
set_option compiler.extract_closed false in
local macro_rules | `(tactic| walk_at $s:str) => match s.getString with
  | "call builtin:int.bit_length" | "call builtin:divmod" => `(tactic| (k_here; refine Held.on ?_))
  | "execs cons" => `(tactic| (k_here; first | (refine gen_toks ?_; intro tk9; (try k_fold)) | k_fold))
  | "eval BinOp" | "eval Call" => `(tactic| (k_here; k_fold))
  | _ => Lean.Macro.throwUnsupported
theorem div_call {w : World} {p : Program} {loose : List Str} {mean : ExcName → Option Value} {mg mb : Str → Option Value}
   {dp un : Nat} {gd : Option (List Code)} {cn : Str} {cs : Scope} {a : Addr} {ccd : Value} {cl : List (Str × Addr)} {outer : List Env} {A₀ : Around} {base h₀ : Heap} {L : Addr} {m : Str → Option Value} {news : List (Addr × Obj)} {s : Shared}
   {Q E : Value → Shared → Prop} {x q r : Int} {t u v : Tok}
   (B : Below A₀ base outer h₀) (F : Fr h₀ L s.heap m) (X : (hd.heap_39 w.params).In h₀) (N : News h₀ L s.heap news) (T : Top p loose mean mg mb h₀) (hk : cs.kind = .function)
   (hx0 : 0 ≤ x) (hx1 : x < 64) (eq : x.fdiv 4 = q) (er : x.fmod 4 = r) (hd : dp + 2 < recursionLimit) (hu : un + 16 < cLine)
   (ret : ∀ D h' tk' tq tr, Fr h₀ L h' m → News h₀ L h' ((D, { cls := .type "tuple", data := .seq #[.int q tq, .int r tr] }) :: news) → (∀ p ∈ news, @LT.lt Nat _ p.1 D) → Q (.ref D) { s with heap := h', toks := tk' }) :
   wpAny (model PySem.Challenge.rw_gg0005_01.row.prog w) (ktrTop dp un gd cn cs L a ccd cl outer) (call (.ref 28) [.int x t, .int 4 u, .int 3 v]) Q E s := by
  obtain ⟨k, hk1, hk2⟩ : ∃ k : Int, ((Builtin.Int.intBits x : Nat) : Int) = k ∧ k ≤ 6 := ⟨_, rfl, by
    have : ∀ y : Fin 64, Builtin.Int.intBits ((y.val : Nat) : Int) ≤ 6 := by decide +kernel
    have := this ⟨x.toNat, by omega⟩
    rw [show (((⟨x.toNat, by omega⟩ : Fin 64).val : Nat) : Int) = x by show ((x.toNat : Nat) : Int) = x; omega] at this
    omega⟩
  w_top off
  revert X; k_fill; intro X
  refine wpAny_call ?_
  refine own_plain (own := []) (binds := [(Str.ofString "a", .int x t), (Str.ofString "b", .int 4 u), (Str.ofString "n", .int 3 v)]) B F N (fun _ h => nomatch h) T.nolimit rfl rfl hk ((X.keeps F.keep) _ _ (by k_is)) rfl (codeRec_of (X.keeps F.keep) (by k_is)) (by ktr_room) (BindsTo.of_eq rfl) (locs rfl) ?_ (by decide)
  intro g' L' h' FG' F' N' B' st' l'
  have X' := X.keeps st'
  have T' := T.keeps st'
  refine no_exc ?_
  try dsimp only
  k_steps
  refine Held.off (call_bits (by with_reducible assumption) ?_)
  k_steps
  rename Fr g' L' _ _ => kF8
  refine Held.off (divmod_M (by assumption) (by assumption) (by decide) ?hp ?_)
  case hp => first | exact PyProof.noPylong_of_log2 (by decide +kernel) | exact PyProof.noPylong_small (by omega)
  intro D h2 tk2 tq tr F2 N2 l2
  replace l2 := Seen.lt l'.2 kF8.keep l2
  k_steps
  subst eq er
  refine' ret _ _ _ _ _ (by assumption) ?N l2
  case N => exact Kept.with (by assumption) (fun _ _ q => by simp at q) (by assumption)
end Mine
end
section
open PySem PySem.W PyProof.Rows PySem.Calls
set_option maxRecDepth 100000
set_option maxHeartbeats 4000000
namespace Mine
set_option hygiene false in
set_option compiler.extract_closed false in
local macro_rules | `(tactic| walk_at "never 0 PW_Sw") => `(tactic| fail)
set_option hygiene false in
set_option compiler.extract_closed false in
local macro_rules | `(tactic| walk_at $s:str) => match s.getString with
  | "call builtin:len" => `(tactic| (k_here; with_reducible refine heldLenB ?_))
  | "setItem ref int" => `(tactic| (k_here; with_reducible refine heldSet ?_))
  | "call type:bytes" => `(tactic| (k_here; with_reducible refine heldBytes ?_))
  | "execs cons" | "eval BinOp" | "eval Call" => `(tactic| (k_here; k_fold))
  | _ => Lean.Macro.throwUnsupported
theorem swap6 {w : World} {p : Program} {loose : List Str} {mean : ExcName → Option Value} {mg mb : Str → Option Value}
   {gd : Option (List Code)} {cn : Str} {cs : Scope} {a : Addr} {ccd : Value} {cl : List (Str × Addr)} {outer : List Env} {A₀ : Around} {base h₀ : Heap} {L : Addr} {m : Str → Option Value} {news : List (Addr × Obj)} {s : Shared}
   {Q E : Value → Shared → Prop} {b0 b1 b2 b3 b4 b5 : UInt8} {t u : Tok} 
   (B : Below A₀ base outer h₀) (F : Fr h₀ L s.heap m) (X : (hd.heap_39 w.params).In h₀) (N : News h₀ L s.heap news) (T : Top p loose mean mg mb h₀) (hk : cs.kind = .function)
   (ret : ∀ h' tk' t', Fr h₀ L h' m → News h₀ L h' news → Q (.bytes [b5, b4, b3, b2, b1, b0].toArray t') { s with heap := h', toks := tk' }) :
   wpC (model PySem.Challenge.rw_gg0005_01.row.prog w) (ktrTop (1 + claimMargin + 1) 7 gd cn cs L a ccd cl outer) (call (.ref 21) [.bytes [b0, b1, b2, b3, b4, b5].toArray t, .int 6 u]) Q E s := by
  w_top off
  revert X; k_fill; intro X
  refine wpC_call ?_
  refine own_def (own := []) (binds := [(Str.ofString "data", .bytes [b0, b1, b2, b3, b4, b5].toArray t), (Str.ofString "width", .int 6 u)]) B F N (fun _ h => nomatch h) T.nolimit rfl rfl hk ((X.keeps F.keep) _ _ (by k_is)) rfl (codeRec_of (X.keeps F.keep) (by k_is)) (by k_room) (BindsTo.of_eq rfl) (locs rfl) ?_ (by decide)
  intro g' L' h' FG' F' N' B' st' l'
  have X' := X.keeps st'
  have T' := T.keeps st'
  try dsimp only
  refine execs_first (assign_C (evalCall_C ?_))
  k_steps
  repeat' ((with_reducible refine Held.off ?_); (first
      | ((with_reducible show wpAny _ _ (setItem _ _ _) _ _ _); (refine' set_ba_B ?k1 ?k2 ?k3 ?k4 ?k5 ?k6 ?_; (case k1 => k_asm); (case k2 => k_asm); (case k3 => k_upd); (case k4 => decide); (case k5 => simp); (case k6 => simp)); intro h' F' N'; (try k_sweep))
      | ((with_reducible show wpAny _ _ (call (Value.builtin "len") [Value.bytes _ _]) _ _ _); (refine' len_b ?k1 ?k2 ?_; (case k1 => exact Nat.le_of_ble_eq_true rfl); (case k2 => first | exact (show _ = (6 : Int) from rfl) | exact (show _ = (8 : Int) from rfl))))
      | ((with_reducible show wpAny _ _ (call (Value.type "bytes") [Value.ref _]) _ _ _); (refine' bytes_ba (k_mem_get ?k1 ?k2) ?k3 ?_; (case k1 => k_asm); (case k2 => k_mem); (case k3 => simp)); intro t' k')); k_steps)
  refine callType_C ?_
  k_steps
  repeat' ((with_reducible refine Held.off ?_); (first
      | ((with_reducible show wpAny _ _ (setItem _ _ _) _ _ _); (refine' set_ba_B ?k1 ?k2 ?k3 ?k4 ?k5 ?k6 ?_; (case k1 => k_asm); (case k2 => k_asm); (case k3 => k_upd); (case k4 => decide); (case k5 => simp); (case k6 => simp)); intro h' F' N'; (try k_sweep))
      | ((with_reducible show wpAny _ _ (call (Value.builtin "len") [Value.bytes _ _]) _ _ _); (refine' len_b ?k1 ?k2 ?_; (case k1 => exact Nat.le_of_ble_eq_true rfl); (case k2 => first | exact (show _ = (6 : Int) from rfl) | exact (show _ = (8 : Int) from rfl))))
      | ((with_reducible show wpAny _ _ (call (Value.type "bytes") [Value.ref _]) _ _ _); (refine' bytes_ba (k_mem_get ?k1 ?k2) ?k3 ?_; (case k1 => k_asm); (case k2 => k_mem); (case k3 => simp)); intro t' k')); k_steps)
  refine new_ba_N (by assumption) (by assumption) (by decide) (by decide) ?_
  intro S h' F' N' lS
  clear lS
  k_steps
  repeat' ((with_reducible refine Held.off ?_); (first
      | ((with_reducible show wpAny _ _ (setItem _ _ _) _ _ _); (refine' set_ba_B ?k1 ?k2 ?k3 ?k4 ?k5 ?k6 ?_; (case k1 => k_asm); (case k2 => k_asm); (case k3 => k_upd); (case k4 => decide); (case k5 => simp); (case k6 => simp)); intro h' F' N'; (try k_sweep))
      | ((with_reducible show wpAny _ _ (call (Value.builtin "len") [Value.bytes _ _]) _ _ _); (refine' len_b ?k1 ?k2 ?_; (case k1 => exact Nat.le_of_ble_eq_true rfl); (case k2 => first | exact (show _ = (6 : Int) from rfl) | exact (show _ = (8 : Int) from rfl))))
      | ((with_reducible show wpAny _ _ (call (Value.type "bytes") [Value.ref _]) _ _ _); (refine' bytes_ba (k_mem_get ?k1 ?k2) ?k3 ?_; (case k1 => k_asm); (case k2 => k_mem); (case k3 => simp)); intro t' k')); k_steps)
  refine wpC_of ?_
  k_fold
  k_steps
  repeat' ((with_reducible refine Held.off ?_); (first
      | ((with_reducible show wpAny _ _ (setItem _ _ _) _ _ _); (refine' set_ba_B ?k1 ?k2 ?k3 ?k4 ?k5 ?k6 ?_; (case k1 => k_asm); (case k2 => k_asm); (case k3 => k_upd); (case k4 => decide); (case k5 => simp); (case k6 => simp)); intro h' F' N'; (try k_sweep))
      | ((with_reducible show wpAny _ _ (call (Value.builtin "len") [Value.bytes _ _]) _ _ _); (refine' len_b ?k1 ?k2 ?_; (case k1 => exact Nat.le_of_ble_eq_true rfl); (case k2 => first | exact (show _ = (6 : Int) from rfl) | exact (show _ = (8 : Int) from rfl))))
      | ((with_reducible show wpAny _ _ (call (Value.type "bytes") [Value.ref _]) _ _ _); (refine' bytes_ba (k_mem_get ?k1 ?k2) ?k3 ?_; (case k1 => k_asm); (case k2 => k_mem); (case k3 => simp)); intro t' k')); k_steps)
  exact ret _ _ _ (by assumption) (Kept.none (by assumption))
theorem swap8 {w : World} {p : Program} {loose : List Str} {mean : ExcName → Option Value} {mg mb : Str → Option Value}
   {gd : Option (List Code)} {cn : Str} {cs : Scope} {a : Addr} {ccd : Value} {cl : List (Str × Addr)} {outer : List Env} {A₀ : Around} {base h₀ : Heap} {L : Addr} {m : Str → Option Value} {news : List (Addr × Obj)} {s : Shared}
   {Q E : Value → Shared → Prop} {b0 b1 b2 b3 b4 b5 b6 b7 : UInt8} {t u : Tok} 
   (B : Below A₀ base outer h₀) (F : Fr h₀ L s.heap m) (X : (hd.heap_39 w.params).In h₀) (N : News h₀ L s.heap news) (T : Top p loose mean mg mb h₀) (hk : cs.kind = .function)
   (ret : ∀ h' tk' t', Fr h₀ L h' m → News h₀ L h' news → Q (.bytes [b7, b6, b5, b4, b3, b2, b1, b0].toArray t') { s with heap := h', toks := tk' }) :
   wpC (model PySem.Challenge.rw_gg0005_01.row.prog w) (ktrTop (1 + claimMargin + 1) 7 gd cn cs L a ccd cl outer) (call (.ref 21) [.bytes [b0, b1, b2, b3, b4, b5, b6, b7].toArray t, .int 8 u]) Q E s := by
  w_top off
  revert X; k_fill; intro X
  refine wpC_call ?_
  refine own_def (own := []) (binds := [(Str.ofString "data", .bytes [b0, b1, b2, b3, b4, b5, b6, b7].toArray t), (Str.ofString "width", .int 8 u)]) B F N (fun _ h => nomatch h) T.nolimit rfl rfl hk ((X.keeps F.keep) _ _ (by k_is)) rfl (codeRec_of (X.keeps F.keep) (by k_is)) (by k_room) (BindsTo.of_eq rfl) (locs rfl) ?_ (by decide)
  intro g' L' h' FG' F' N' B' st' l'
  have X' := X.keeps st'
  have T' := T.keeps st'
  try dsimp only
  refine execs_first (assign_C (evalCall_C ?_))
  k_steps
  repeat' ((with_reducible refine Held.off ?_); (first
      | ((with_reducible show wpAny _ _ (setItem _ _ _) _ _ _); (refine' set_ba_B ?k1 ?k2 ?k3 ?k4 ?k5 ?k6 ?_; (case k1 => k_asm); (case k2 => k_asm); (case k3 => k_upd); (case k4 => decide); (case k5 => simp); (case k6 => simp)); intro h' F' N'; (try k_sweep))
      | ((with_reducible show wpAny _ _ (call (Value.builtin "len") [Value.bytes _ _]) _ _ _); (refine' len_b ?k1 ?k2 ?_; (case k1 => exact Nat.le_of_ble_eq_true rfl); (case k2 => first | exact (show _ = (6 : Int) from rfl) | exact (show _ = (8 : Int) from rfl))))
      | ((with_reducible show wpAny _ _ (call (Value.type "bytes") [Value.ref _]) _ _ _); (refine' bytes_ba (k_mem_get ?k1 ?k2) ?k3 ?_; (case k1 => k_asm); (case k2 => k_mem); (case k3 => simp)); intro t' k')); k_steps)
  refine callType_C ?_
  k_steps
  repeat' ((with_reducible refine Held.off ?_); (first
      | ((with_reducible show wpAny _ _ (setItem _ _ _) _ _ _); (refine' set_ba_B ?k1 ?k2 ?k3 ?k4 ?k5 ?k6 ?_; (case k1 => k_asm); (case k2 => k_asm); (case k3 => k_upd); (case k4 => decide); (case k5 => simp); (case k6 => simp)); intro h' F' N'; (try k_sweep))
      | ((with_reducible show wpAny _ _ (call (Value.builtin "len") [Value.bytes _ _]) _ _ _); (refine' len_b ?k1 ?k2 ?_; (case k1 => exact Nat.le_of_ble_eq_true rfl); (case k2 => first | exact (show _ = (6 : Int) from rfl) | exact (show _ = (8 : Int) from rfl))))
      | ((with_reducible show wpAny _ _ (call (Value.type "bytes") [Value.ref _]) _ _ _); (refine' bytes_ba (k_mem_get ?k1 ?k2) ?k3 ?_; (case k1 => k_asm); (case k2 => k_mem); (case k3 => simp)); intro t' k')); k_steps)
  refine new_ba_N (by assumption) (by assumption) (by decide) (by decide) ?_
  intro S h' F' N' lS
  clear lS
  k_steps
  repeat' ((with_reducible refine Held.off ?_); (first
      | ((with_reducible show wpAny _ _ (setItem _ _ _) _ _ _); (refine' set_ba_B ?k1 ?k2 ?k3 ?k4 ?k5 ?k6 ?_; (case k1 => k_asm); (case k2 => k_asm); (case k3 => k_upd); (case k4 => decide); (case k5 => simp); (case k6 => simp)); intro h' F' N'; (try k_sweep))
      | ((with_reducible show wpAny _ _ (call (Value.builtin "len") [Value.bytes _ _]) _ _ _); (refine' len_b ?k1 ?k2 ?_; (case k1 => exact Nat.le_of_ble_eq_true rfl); (case k2 => first | exact (show _ = (6 : Int) from rfl) | exact (show _ = (8 : Int) from rfl))))
      | ((with_reducible show wpAny _ _ (call (Value.type "bytes") [Value.ref _]) _ _ _); (refine' bytes_ba (k_mem_get ?k1 ?k2) ?k3 ?_; (case k1 => k_asm); (case k2 => k_mem); (case k3 => simp)); intro t' k')); k_steps)
  refine wpC_of ?_
  k_fold
  k_steps
  repeat' ((with_reducible refine Held.off ?_); (first
      | ((with_reducible show wpAny _ _ (setItem _ _ _) _ _ _); (refine' set_ba_B ?k1 ?k2 ?k3 ?k4 ?k5 ?k6 ?_; (case k1 => k_asm); (case k2 => k_asm); (case k3 => k_upd); (case k4 => decide); (case k5 => simp); (case k6 => simp)); intro h' F' N'; (try k_sweep))
      | ((with_reducible show wpAny _ _ (call (Value.builtin "len") [Value.bytes _ _]) _ _ _); (refine' len_b ?k1 ?k2 ?_; (case k1 => exact Nat.le_of_ble_eq_true rfl); (case k2 => first | exact (show _ = (6 : Int) from rfl) | exact (show _ = (8 : Int) from rfl))))
      | ((with_reducible show wpAny _ _ (call (Value.type "bytes") [Value.ref _]) _ _ _); (refine' bytes_ba (k_mem_get ?k1 ?k2) ?k3 ?_; (case k1 => k_asm); (case k2 => k_mem); (case k3 => simp)); intro t' k')); k_steps)
  exact ret _ _ _ (by assumption) (Kept.none (by assumption))
end Mine
end
section
open PySem PySem.W PyProof.Rows PySem.Calls
set_option maxRecDepth 100000
set_option maxHeartbeats 4000000
namespace Mine
abbrev plc (bs : List UInt8) (n k : Int) : List Int := List.foldl (fun l' k' => if ((bs.getD k'.toNat 0).toNat : Int) = k then l' ++ [k'] else l') [] (rangeKs 0 (n - 0).toNat)
def okk (bs : List UInt8) (k : Int) : Bool := (plc bs bs.length k).length == 2 && (plc bs bs.length k).getD 1 0 - (plc bs bs.length k).getD 0 0 - 1 == k
theorem okk_no1 {bs : List UInt8} {n k : Int} {ys : List Value} (h : ys.length = (plc bs n k).length) (a : (ys.length : Int) ≠ 2) (hn : n = bs.length) : okk bs k = false := by
  subst hn
  have e : ((plc bs bs.length k).length == 2) = false := by rw [beq_eq_false_iff_ne, ← h]; omega
  rw [okk, e, Bool.false_and]
theorem okk_no2 {bs : List UInt8} {n k : Int} (a : (plc bs n k).getD (Int.toNat 1) 0 - (plc bs n k).getD (Int.toNat 0) 0 - 1 ≠ k) (hn : n = bs.length) : okk bs k = false := by
  subst hn
  have e : ((plc bs bs.length k).getD 1 0 - (plc bs bs.length k).getD 0 0 - 1 == k) = false := by rw [beq_eq_false_iff_ne]; exact a
  rw [okk, e, Bool.and_false]
theorem okk_yes {bs : List UInt8} {n k : Int} {ys : List Value} (h : ys.length = (plc bs n k).length) (a : (ys.length : Int) = 2) (b : (plc bs n k).getD (Int.toNat 1) 0 - (plc bs n k).getD (Int.toNat 0) 0 - 1 = k) (hn : n = bs.length) : okk bs k = true := by
  subst hn
  have e1 : ((plc bs bs.length k).length == 2) = true := by rw [beq_iff_eq, ← h]; omega
  have e2 : ((plc bs bs.length k).getD 1 0 - (plc bs bs.length k).getD 0 0 - 1 == k) = true := by rw [beq_iff_eq]; exact b
  rw [okk, e1, e2]; rfl
def goodB (bs : List UInt8) (k : Nat) : Bool := (List.range k).all fun j => okk bs ((j : Int) + 1)
theorem good_no {bs : List UInt8} {k : Nat} {x : Int} (h : okk bs x = false) (h1 : 1 ≤ x) (h2 : x ≤ k) : false = goodB bs k := by
  cases e : goodB bs k with
  | false => rfl
  | true =>
    have := List.all_eq_true.mp e (x - 1).toNat (List.mem_range.mpr (by omega))
    rw [show (((x - 1).toNat : Nat) : Int) + 1 = x by omega] at this
    rw [h] at this; cases this
theorem good_yes {bs : List UInt8} {k : Nat} (h : ∀ j : Int, 1 ≤ j → j ≤ k → okk bs j = true) : true = goodB bs k :=
  (List.all_eq_true.mpr fun j hj => h _ (by omega) (by have := List.mem_range.mp hj; omega)).symm
theorem good_range {k : Nat} (h1 : 1 ≤ k) (h4 : k ≤ 4) : Builtin.Range.small 1 ((k : Int) + 1) 1 = true ∧ Builtin.Range.rangeSize 1 ((k : Int) + 1) 1 = (k : Int) := by
  have : k = 1 ∨ k = 2 ∨ k = 3 ∨ k = 4 := by omega
  rcases this with rfl | rfl | rfl | rfl <;> decide
set_option hygiene false in
set_option compiler.extract_closed false in
local macro_rules | `(tactic| walk_at $s:str) => match s.getString with
  | "call builtin:len" => `(tactic| (k_here; with_reducible refine heldLenR ?_))
  | "execs cons" => `(tactic| (k_here; first | (refine gen_toks ?_; intro tk9; (try k_fold)) | k_fold))
  | "eval BinOp" | "eval Call" => `(tactic| (k_here; k_fold))
  | _ => Lean.Macro.throwUnsupported
theorem good_call {w : World} {p : Program} {loose : List Str} {mean : ExcName → Option Value} {mg mb : Str → Option Value}
   {gd : Option (List Code)} {cn : Str} {cs : Scope} {a : Addr} {ccd : Value} {cl : List (Str × Addr)} {outer : List Env} {A₀ : Around} {base h₀ : Heap} {L : Addr} {m : Str → Option Value} {news : List (Addr × Obj)} {s : Shared}
   {Q E : Value → Shared → Prop} {bs : List UInt8} {k : Nat} {t u : Tok}
   (B : Below A₀ base outer h₀) (F : Fr h₀ L s.heap m) (X : (hd.heap_39 w.params).In h₀) (N : News h₀ L s.heap news) (T : Top p loose mean mg mb h₀) (hk : cs.kind = .function) (hlen : bs.length ≤ 100) (hk1 : 1 ≤ k) (hk4 : k ≤ 4)
   (ret : ∀ h' tk' r, Fr h₀ L h' m → News h₀ L h' news → r = goodB bs k → Q (.bool r) { s with heap := h', toks := tk' }) :
   wpAny (model PySem.Challenge.rw_gg0005_01.row.prog w) (ktrTop (1 + claimMargin + 1) 7 gd cn cs L a ccd cl outer) (call (.ref 68) [.bytes bs.toArray t, .int (k : Int) u]) Q E s := by
  w_top off
  revert X; k_fill; intro X
  refine wpAny_call ?_
  refine own_cells (own := []) B F N (fun _ h => nomatch h) T.nolimit rfl rfl hk ((X.keeps F.keep) _ _ (by k_is)) rfl (codeRec_of (X.keeps F.keep) (by k_is)) (by k_room) (BindsTo.of_eq rfl) (kindsX (by rfl)) (by decide) ?_
  intro g' L' h' tk' cells FG' F' N' C' B' st' l'
  have X' := X.keeps st'
  have T' := T.keeps st'
  k_cells C'
  rename_i o1 o2 d1 d2
  simp only [List.cons_append, List.nil_append] at N'
  dsimp only
  refine wpAny_execs_cons (for_A ?_)
  k_steps
  repeat' ((with_reducible refine Held.off ?_); (first
      | ((refine' KM.len_K ?k1 ?k2 ?k3 ?k4 ?_; (case k1 => k_asm); (case k2 => k_mem); (case k3 => exact List.size_toArray ..); (case k4 => (simp only [List.size_toArray] at *; omega))))); k_steps)
  refine riter_N (by assumption) (by assumption) (by assumption) (good_range hk1 hk4).1 (good_range hk1 hk4).2 ?_
  intro I h3 F3 N3 lI
  k_lt lI
  refine loop_A (fun n s' => ∃ h tk m o1, s' = { s with heap := h, toks := tk } ∧ Fr g' L' h m ∧ News g' L' h [(I, itR ((k : Int) + 1 - (n : Nat)) (n : Nat)), (L' + 1 + 1, o1), (L' + 1, o2)] ∧ (∃ v, o1.data = .cell v) ∧ n ≤ k ∧ (∀ j : Int, 1 ≤ j → j < (k : Int) + 1 - (n : Nat) → okk bs j = true)) ?_ (fun _ => rfl) k _ ⟨_, _, _, o1, rfl, F3, ?_, ⟨_, d1⟩, Nat.le_refl _, fun j h1 h2 => absurd h2 (by omega)⟩
  · rintro n s1 ⟨h1, tk1, m1, o1, rfl, F1, N1, ⟨v1, d1⟩, hn, hok⟩
    clear F3 N3
    cases n with
    | zero =>
      refine rnext_drop (news' := []) rfl F1 N1 (by k_mem) (by decide) (fun _ h => nomatch h) (fun _ h => nomatch h) ?_
      intro h' F' N'
      dsimp only
      k_steps
      repeat' ((with_reducible refine Held.off ?_); (first
          | ((refine' KM.len_K ?k1 ?k2 ?k3 ?k4 ?_; (case k1 => k_asm); (case k2 => k_mem); (case k3 => exact List.size_toArray ..); (case k4 => (simp only [List.size_toArray] at *; omega))))); k_steps)
      exact ret _ _ _ (by assumption) (Kept.none (by assumption)) (good_yes fun j a b => hok j a (by omega))
    | succ n =>
      obtain ⟨x, hx⟩ : ∃ x : Int, x = (k : Int) + 1 - ((n + 1 : Nat) : Int) := ⟨_, rfl⟩
      rw [← hx] at N1 hok
      refine rnext_lit (x' := x + 1) (left' := (n : Nat)) F1 N1 (by k_upd) (by omega) rfl (by omega) ?_
      intro h' t F' N'
      dsimp only
      k_steps
      repeat' ((with_reducible refine Held.off ?_); (first
          | ((refine' KM.len_K ?k1 ?k2 ?k3 ?k4 ?_; (case k1 => k_asm); (case k2 => k_mem); (case k3 => exact List.size_toArray ..); (case k4 => (simp only [List.size_toArray] at *; omega))))); k_steps)
      · exact ret _ _ _ (by assumption) (Kept.none (by assumption)) (good_no (okk_no1 (by with_reducible assumption) (by with_reducible assumption) (by first | rfl | simp)) (by omega) (by omega))
      · exact ret _ _ _ (by assumption) (Kept.none (by assumption)) (good_no (okk_no2 (by with_reducible assumption) (by first | rfl | simp)) (by omega) (by omega))
      · have y : okk bs x = true := okk_yes (by with_reducible assumption) (by with_reducible assumption) (by with_reducible assumption) (by first | rfl | simp)
        show Turned _ _ _
        refine ⟨n, Nat.lt_succ_self _, _, _, _, ?o1, rfl, by assumption, ?N, ?d, by omega, fun j ja jb => ?J⟩
        case N =>
          rw [show (k : Int) + 1 - (n : Nat) = x + 1 by omega]
          exact news_tail (by assumption)
        case d => exact ⟨_, by assumption⟩
        by_cases e : j = x
        · exact e ▸ y
        · exact hok j ja (by omega)
  · rw [show (k : Int) + 1 - ((k : Nat) : Int) = 1 by omega]
    exact N3
end Mine
end
section
open PySem PySem.W PyProof.Rows PySem.Calls
set_option maxRecDepth 100000
set_option maxHeartbeats 4000000
namespace Mine
set_option hygiene false in
set_option compiler.extract_closed false in
local macro_rules | `(tactic| walk_at "never 0 PW_Rw") => `(tactic| fail)
set_option hygiene false in
set_option compiler.extract_closed false in
local macro_rules | `(tactic| walk_at "never 1 PW_Rw") => `(tactic| fail)
def put (row : List Int) (i k : Nat) : List Int := row.take i ++ [(k : Int)] ++ (row.drop (i + 1)).take k ++ [(k : Int)] ++ row.drop (i + k + 2)
def lawRows : Nat → List Int → List (List Int)
  | 0, row => [row]
  | k + 1, row => (List.range (row.length - (k + 1) - 1)).flatMap fun i =>
      if row.getD i 0 = 0 ∧ row.getD (i + (k + 1) + 1) 0 = 0 then lawRows k (put row i (k + 1)) else []
inductive BytesAre : List Value → List (List Int) → Prop
  | nil : BytesAre [] []
  | cons {vs : List Value} {rs : List (List Int)} (r : List Int) (t : Tok) : BytesAre vs rs → BytesAre (.bytes (byteArr r) t :: vs) (r :: rs)
def RowsTell (w : World) (kind : Nat) : Prop := ∀ {p : Program} {loose : List Str} {mean : ExcName → Option Value} {mg mb : Str → Option Value}
   {dp un : Nat} {gd : Option (List Code)} {cn : Str} {cs : Scope} {a : Addr} {ccd : Value} {cl : List (Str × Addr)} {outer : List Env} {A₀ : Around} {base h₀ : Heap} {L : Addr} {m : Str → Option Value} {news : List (Addr × Obj)} {s : Shared}
   {Q E : Value → Shared → Prop} {l : Addr} {vs : List Value} {n : Nat} {ki : Int} {row : List Int} {t : Tok},
   Below A₀ base outer h₀ → Fr h₀ L s.heap m → (hd.heap_39 w.params).In h₀ → News h₀ L s.heap news → Top p loose mean mg mb h₀ → cs.kind = .function →
   (l, listOf vs.toArray n) ∈ news → IntsAre vs row → (∀ x ∈ row, 0 ≤ x ∧ x < 256) → row.length ≤ 8 → (kind : Int) = ki → kind ≤ 4 → dp + kind + 1 < recursionLimit → un + 8 * kind + 8 < cLine →
   (∀ r h' tk' vs' n', Fr h₀ L h' m → News h₀ L h' ((r, listOf vs'.toArray n') :: news) → (∀ q ∈ news, q.1 ≠ r) → BytesAre vs' (lawRows kind row) → Q (.ref r) { s with heap := h', toks := tk' }) →
   wpAny (model PySem.Challenge.rw_gg0005_01.row.prog w) (ktrTop dp un gd cn cs L a ccd cl outer) (call (.ref 75) [.ref l, .int ki t]) Q E s
theorem rows_zero (w : World) : RowsTell w 0 := by
  intro p loose mean mg mb dp un gd cn cs a ccd cl outer A₀ base h₀ L m news s Q E l vs n ki row t B F X N T hk hl hi hb hlen e hk1 hdp hun ret
  subst e
  w_top off
  revert X; k_fill; intro X
  refine wpAny_call ?_
  refine own_plain (own := [(l, listOf vs.toArray n)]) B F N (fun _ h => by rcases List.mem_singleton.mp h with rfl; exact hl) T.nolimit rfl rfl hk ((X.keeps F.keep) _ _ (by k_is)) rfl (codeRec_of (X.keeps F.keep) (by k_is)) (by ktr_room) (BindsTo.of_eq rfl) (locs rfl) ?_ (by decide)
  intro g' L' h' FG' F' N' B' st' l'
  have X' := X.keeps st'
  have T' := T.keeps st'
  dsimp only
  k_steps
  refine ret _ _ _ ?vs ?n (by assumption) ?N (l'.2.ne (News.none_at (h₀ := g') (by assumption) (.head _)) ?o) ?Y
  case N => exact Kept.with (by assumption) (own_mem N (fun _ h => by rcases List.mem_singleton.mp h with rfl; exact hl)) (by assumption)
  case o => intro p hp; rcases List.mem_singleton.mp hp with rfl; exact Nat.ne_of_lt (by assumption)
  case Y => exact BytesAre.cons row _ .nil
theorem rows_use {w : World} {kind : Nat} (C : RowsTell w kind) {p : Program} {loose : List Str} {mean : ExcName → Option Value} {mg mb : Str → Option Value}
   {dp un : Nat} {gd : Option (List Code)} {cn : Str} {cs : Scope} {a : Addr} {ccd : Value} {cl : List (Str × Addr)} {outer : List Env} {A₀ : Around} {base h₀ : Heap} {L : Addr} {m : Str → Option Value} {news : List (Addr × Obj)} {s : Shared}
   {Q E : Value → Shared → Prop} {l : Addr} {vs : List Value} {n : Nat} {ki : Int} {row : List Int} {t : Tok}
   (B : Below A₀ base outer h₀) (F : Fr h₀ L s.heap m) (X : (hd.heap_39 w.params).In h₀) (N : News h₀ L s.heap news) (T : Top p loose mean mg mb h₀) (hk : cs.kind = .function)
   (hl : (l, listOf vs.toArray n) ∈ news) (hi : IntsAre vs row) (hb : ∀ x ∈ row, 0 ≤ x ∧ x < 256) (hlen : row.length ≤ 8) (hkind : (kind : Int) = ki) (hk1 : kind ≤ 4) (hd : dp + kind + 1 < recursionLimit) (hu : un + 8 * kind + 8 < cLine)
   (ret : ∀ r h' tk' vs' n', Fr h₀ L h' m → News h₀ L h' ((r, listOf vs'.toArray n') :: news) → (∀ q ∈ news, q.1 ≠ r) → BytesAre vs' (lawRows kind row) → Q (.ref r) { s with heap := h', toks := tk' }) :
   wpAny (model PySem.Challenge.rw_gg0005_01.row.prog w) (ktrTop dp un gd cn cs L a ccd cl outer) (call (.ref 75) [.ref l, .int ki t]) Q E s := C B F X N T hk hl hi hb hlen hkind hk1 hd hu ret
theorem fr_cong {h₀ h : Heap} {L : Addr} {m m' : Str → Option Value} (F : Fr h₀ L h m) (e : ∀ z, m z = m' z) : Fr h₀ L h m' := (funext e : m = m') ▸ F
def rowsStep (k : Nat) (row : List Int) (i : Nat) : List (List Int) := if row.getD i 0 = 0 ∧ row.getD (i + (k + 1) + 1) 0 = 0 then lawRows k (put row i (k + 1)) else []
def rowsVars (kv : Option Value) (fnd l : Addr) (ki : Int) (t : Tok) (z : Str) : Option Value := if z = Str.ofString "k" then kv else if z = Str.ofString "found" then some (.ref fnd) else if z = Str.ofString "row" then some (.ref l) else if z = Str.ofString "kind" then some (.int ki t) else none
theorem add_ints {prog : Program} {w : World} {A : Around} {E : Value → Shared → Prop} {s : Shared} {h₀ : Heap} {L a b : Addr} {m : Str → Option Value} {news : List (Addr × Obj)} {vs ws : List Value} {ns ms : List Int} {na nb : Nat} {Q : Value → Shared → Prop}
    (F : Fr h₀ L s.heap m) (N : News h₀ L s.heap news) (ma : (a, listOf vs.toArray na) ∈ news) (mb : (b, listOf ws.toArray nb) ∈ news) (hi : IntsAre vs ns) (hj : IntsAre ws ms) (hz : ns.length + ms.length ≤ 16777216)
    (h : ∀ D us h', Fr h₀ L h' m → News h₀ L h' ((D, listOf (List.toArray us) 0) :: news) → (∀ p ∈ news, p.1 < D) → IntsAre us (ns ++ ms) → Q (.ref D) { s with heap := h' }) : wpAny (model prog w) A (binaryOp .Add (.ref a) (.ref b)) Q E s :=
  kmk_add_ints F N (News.isList N ma) (News.isList N mb) hi hj h (by rw [sizeLine_eq]; exact hz)
theorem flatMap_len {α β : Type} (f : α → List β) (b : Nat) : ∀ l : List α, (∀ x ∈ l, (f x).length ≤ b) → (l.flatMap f).length ≤ l.length * b
  | [], _ => Nat.zero_le _
  | x :: l, h => by
    rw [List.flatMap_cons, List.length_append, List.length_cons, Nat.succ_mul, Nat.add_comm]
    exact Nat.add_le_add (flatMap_len f b l fun y hy => h y (.tail _ hy)) (h x (.head _))
theorem put_length {row : List Int} {i k : Nat} (h : i + k + 1 < row.length) : (put row i k).length = row.length := by
  simp only [put, List.length_append, List.length_take, List.length_drop, List.length_cons, List.length_nil]
  omega
theorem put_mem {row : List Int} {i k : Nat} (hk : k ≤ 4) (hb : ∀ x ∈ row, 0 ≤ x ∧ x < 256) : ∀ x ∈ put row i k, 0 ≤ x ∧ x < 256 := by
  intro x hx
  simp only [put, List.mem_append, List.mem_singleton] at hx
  rcases hx with (((hx | hx) | hx) | hx) | hx
  · exact hb x (List.mem_of_mem_take hx)
  · omega
  · exact hb x (List.mem_of_mem_drop (List.mem_of_mem_take hx))
  · omega
  · exact hb x (List.mem_of_mem_drop hx)
theorem lawRows_len : ∀ (k : Nat) (row : List Int), row.length ≤ 8 → (lawRows k row).length ≤ 8 ^ k
  | 0, _, _ => Nat.le_refl _
  | k + 1, row, h => by
    have := flatMap_len (fun i => if row.getD i 0 = 0 ∧ row.getD (i + (k + 1) + 1) 0 = 0 then lawRows k (put row i (k + 1)) else []) (8 ^ k) (List.range (row.length - (k + 1) - 1)) fun i hi => by
      have hi := List.mem_range.mp hi
      split
      · exact lawRows_len k _ (by rw [put_length (by omega)]; exact h)
      · exact Nat.zero_le _
    rw [List.length_range] at this
    refine Nat.le_trans this ?_
    rw [Nat.pow_succ, Nat.mul_comm]
    exact Nat.mul_le_mul_left _ (by omega)
theorem rowsStep_len {k : Nat} {row : List Int} (hk : k ≤ 3) (h : row.length ≤ 8) (n : Nat) (hn : n ≤ row.length - (k + 1) - 1) : ((List.range n).flatMap (rowsStep k row)).length ≤ 4096 := by
  have := flatMap_len (rowsStep k row) (8 ^ k) (List.range n) fun i hi => by
    have hi := List.mem_range.mp hi
    unfold rowsStep
    split
    · exact lawRows_len k _ (by rw [put_length (by omega)]; exact h)
    · exact Nat.zero_le _
  rw [List.length_range] at this
  have e : 8 ^ k ≤ 8 ^ 3 := Nat.pow_le_pow_right (by decide) hk
  have : n * 8 ^ k ≤ 8 * 8 ^ 3 := Nat.mul_le_mul (by omega) e
  omega
theorem BytesAre.len {vs : List Value} {rs : List (List Int)} (h : BytesAre vs rs) : vs.length = rs.length := by
  induction h with
  | nil => rfl
  | cons r t _ ih => rw [List.length_cons, List.length_cons, ih]
theorem BytesAre.append {vs ws : List Value} {rs qs : List (List Int)} (h : BytesAre vs rs) (j : BytesAre ws qs) : BytesAre (vs ++ ws) (rs ++ qs) := by
  induction h with
  | nil => exact j
  | cons r t _ ih => exact .cons r t ih
theorem range_snoc (f : Nat → List (List Int)) {T n i : Nat} (hi : i = T - (n + 1)) (hn : n + 1 ≤ T) : (List.range (T - n)).flatMap f = (List.range (T - (n + 1))).flatMap f ++ f i := by
  rw [show T - n = (T - (n + 1)) + 1 by omega, List.range_succ, List.flatMap_append, List.flatMap_singleton, hi]
theorem put_is {row : List Int} {i k : Nat} {ki : Int} (e : (k : Int) = ki) (h : i + k + 1 < row.length) : List.take (i : Int).toNat row ++ [ki] ++ List.take (min ((i : Int) + ki + 1).toNat row.length - ((i : Int) + 1).toNat) (List.drop ((i : Int) + 1).toNat row) ++ [ki] ++ List.drop ((i : Int) + ki + 2).toNat row = put row i k := by
  subst e
  unfold put
  rw [show ((i : Int)).toNat = i by omega, show ((i : Int) + 1).toNat = i + 1 by omega, show min ((i : Int) + (k : Int) + 1).toNat row.length - (i + 1) = k by omega, show ((i : Int) + (k : Int) + 2).toNat = i + k + 2 by omega]
theorem step_no1 {row : List Int} {i k : Nat} (h : row.getD (i : Int).toNat 0 ≠ 0) : rowsStep k row i = [] := if_neg fun q => h q.1
theorem step_no2 {row : List Int} {i k : Nat} {ki : Int} (h : row.getD ((i : Int) + ki + 1).toNat 0 ≠ 0) (e : ((k + 1 : Nat) : Int) = ki) : rowsStep k row i = [] := if_neg fun q => h (by rw [show ((i : Int) + ki + 1).toNat = i + (k + 1) + 1 by omega]; exact q.2)
theorem step_yes {row : List Int} {i k : Nat} {ki : Int} (h : row.getD (i : Int).toNat 0 = 0) (h2 : row.getD ((i : Int) + ki + 1).toNat 0 = 0) (e : ((k + 1 : Nat) : Int) = ki) : rowsStep k row i = lawRows k (put row i (k + 1)) :=
  if_pos ⟨h, by rw [show ((i : Int) + ki + 1).toNat = i + (k + 1) + 1 by omega] at h2; exact h2⟩
theorem news3 {h₀ h : Heap} {L : Addr} {news : List (Addr × Obj)} {a b c : Addr × Obj} (N : News h₀ L h news) (ha : a ∈ news) (hb : b ∈ news) (hc : c ∈ news) : News h₀ L h [a, b, c] := fun p hp => by
  rcases List.mem_cons.mp hp with rfl | hp
  · exact N _ ha
  rcases List.mem_cons.mp hp with rfl | hp
  · exact N _ hb
  rcases List.mem_cons.mp hp with rfl | hp
  · exact N _ hc
  · cases hp
theorem rowsVars_k {kv kv' : Option Value} {fnd l : Addr} {ki : Int} {t : Tok} (z : Str) : (if z = Str.ofString "k" then kv' else rowsVars kv fnd l ki t z) = rowsVars kv' fnd l ki t z := by
  unfold rowsVars
  by_cases e : z = Str.ofString "k"
  · rw [if_pos e, if_pos e]
  · rw [if_neg e, if_neg e, if_neg e]
theorem rowsVars_found {kv kv' : Option Value} {fnd D l : Addr} {ki : Int} {t : Tok} (z : Str) : (if z = Str.ofString "found" then some (Value.ref D) else if z = Str.ofString "k" then kv' else rowsVars kv fnd l ki t z) = rowsVars kv' D l ki t z := by
  by_cases f : z = Str.ofString "found"
  · subst f; rfl
  · rw [if_neg f, rowsVars_k]
    unfold rowsVars
    rw [if_neg f, if_neg f]
theorem add_bytes {prog : Program} {w : World} {A : Around} {E : Value → Shared → Prop} {s : Shared} {h₀ : Heap} {L a b : Addr} {m : Str → Option Value} {news : List (Addr × Obj)} {vs ws : List Value} {rs qs : List (List Int)} {na nb : Nat} {Q : Value → Shared → Prop}
    (F : Fr h₀ L s.heap m) (N : News h₀ L s.heap news) (ma : (a, listOf vs.toArray na) ∈ news) (mb : (b, listOf ws.toArray nb) ∈ news) (hi : BytesAre vs rs) (hj : BytesAre ws qs) (hz : rs.length + qs.length ≤ 16777216)
    (h : ∀ D h', Fr h₀ L h' m → News h₀ L h' ((D, listOf (vs ++ ws).toArray 0) :: news) → (∀ p ∈ news, p.1 < D) → BytesAre (vs ++ ws) (rs ++ qs) → Q (.ref D) { s with heap := h' }) : wpAny (model prog w) A (binaryOp .Add (.ref a) (.ref b)) Q E s :=
  kmk_add_lit F N (News.isList N ma) (News.isList N mb) rfl (fun D h' F' N' l => h D h' F' N' l (hi.append hj)) (by show vs.length + ws.length ≤ sizeLine; rw [sizeLine_eq, hi.len, hj.len]; exact hz)
set_option hygiene false in
set_option compiler.extract_closed false in
local macro_rules | `(tactic| walk_at $s:str) => match s.getString with
  | "exec For Name Call cons nil" => `(tactic| (k_here; k_dflt (refine for_A ?_)))
  | "binaryOp Add ref ref" => `(tactic| (k_here; with_reducible refine heldAdd ?_))
  | "call ref" => `(tactic| (with_reducible refine held75 ?_))
  | "subscriptTail Name Slice ref ref" => `(tactic| (k_here; with_reducible refine heldSlice ?_))
  | "execs cons" => `(tactic| (k_here; first | (refine gen_toks ?_; intro tk9; (try k_fold)) | k_fold))
  | "eval BinOp" | "eval Call" => `(tactic| (k_here; k_fold))
  | _ => Lean.Macro.throwUnsupported
theorem rows_succ (w : World) (k : Nat) (ih : RowsTell w k) (hk9 : k + 1 ≤ 4) : RowsTell w (k + 1) := by
  intro p loose mean mg mb dp un gd cn cs a ccd cl outer A₀ base h₀ L m news s Q E l vs nn ki row t B F X N T hk hl hi hb hlen e hk1 hdp hun ret
  w_top off
  revert X ih; k_fill; intro ih X
  refine wpAny_call ?_
  refine own_plain (own := [(l, listOf vs.toArray nn)]) B F N (fun _ h => by rcases List.mem_singleton.mp h with rfl; exact hl) T.nolimit rfl rfl hk ((X.keeps F.keep) _ _ (by k_is)) rfl (codeRec_of (X.keeps F.keep) (by k_is)) (by ktr_room) (BindsTo.of_eq rfl) (locs rfl) ?_ (by decide)
  intro g' L' h' FG' F' N' B' st' l'
  have X' := X.keeps st'
  have T' := T.keeps st'
  dsimp only
  k_steps
  repeat' ((with_reducible refine Held.off ?_); (first
      | ((with_reducible show wpAny _ _ (binaryOp _ (Value.ref _) (Value.ref _)) _ _ _); (refine' add_ints ?wF ?wN ?wa ?wb ?wi ?wj ?wz ?_; (case wF => k_asm); (case wN => k_asm); (case wa => k_mem); (case wb => k_mem); (case wi => l_ints); (case wj => l_ints); (case wz => (simp only [List.length_append, List.length_take, List.length_drop, List.length_cons, List.length_nil]; omega))); intro D' ws' h' F' N' l1 hI'; (try k_lt l1); (try k_sweep))
      | ((with_reducible show wpAny _ _ (subscriptTail _ (PySem.Expr.Slice _ _ none _) (Value.ref _) (Value.ref _)) _ _ _); k_dflt (refine' kmk_slice_ints ?wF ?wN ?wl ?wp ?wq ?wi ?wm ?wc ?_ ?ws ?wt ?wz; (case wF => k_asm); (case wN => k_asm); (case wl => kmk_list); (case wp => kmk_part); (case wq => kmk_part); (case wi => l_ints); (case wm => first | with_reducible exact kmk_from (by assumption) (by omega) | with_reducible exact kmk_upto (by assumption) (by omega) | with_reducible exact kmk_run (by assumption) (by omega) (by omega)); (case wc => kmk_len); (case ws => with_unfolding_all rfl); (case wt => kmk_pure); (case wz => kmk_size)); intro D' ws' h' F' N' l1 hI' hC' hL'; (try k_lt l1); (try k_sweep))); k_steps)
  · exfalso; omega
  rename_i a1 a2 a3 a4
  refine riter_N (n := ((row.length - (k + 1) - 1 : Nat) : Int)) (by assumption) (by assumption) (by assumption) (small_one (by omega) (by omega) (by omega) (by omega)) ?rs ?_
  case rs => rw [rangeSize_one]; split <;> omega
  intro I h3 F3 N3 lI
  k_lt lI
  refine loop_A (fun n s' => ∃ h tk fnd vs' n' kv, s' = { s with heap := h, toks := tk } ∧ Fr g' L' h (rowsVars kv fnd l ki t) ∧ News g' L' h [(I, itR (((row.length - (k + 1) - 1 : Nat) : Int) - (n : Nat)) (n : Nat)), (fnd, listOf vs'.toArray n'), (l, listOf vs.toArray nn)] ∧ n ≤ row.length - (k + 1) - 1 ∧ BytesAre vs' ((List.range (row.length - (k + 1) - 1 - n)).flatMap (rowsStep k row)) ∧ (@Ne Nat fnd I ∧ @Ne Nat l I ∧ @Ne Nat fnd l)) ?_ (fun _ => rfl) (row.length - (k + 1) - 1) _ ⟨_, _, ?fnd, [], 0, none, rfl, ?FF, ?N, Nat.le_refl _, ?BY, ?n1, ?n2, ?n3⟩
  case N =>
    rw [show ((row.length - (k + 1) - 1 : Nat) : Int) - ((row.length - (k + 1) - 1 : Nat) : Int) = 0 by omega]
    exact N3
  case BY =>
    rw [Nat.sub_self]
    exact .nil
  case n1 => omega
  case n2 => omega
  case n3 => omega
  case FF =>
    refine fr_cong F3 ?_
    intro z
    unfold rowsVars
    by_cases e1 : z = Str.ofString "k"
    · subst e1; rfl
    rw [if_neg e1]
    by_cases e2 : z = Str.ofString "found"
    · subst e2; rfl
    rw [if_neg e2, if_neg e2]
    by_cases e3 : z = Str.ofString "row"
    · subst e3; rfl
    rw [if_neg e3]
    by_cases e4 : z = Str.ofString "kind"
    · subst e4; rfl
    rw [if_neg e4]
    show List.lookup z [(Str.ofString "kind", _), (Str.ofString "row", _)] = none
    simp only [List.lookup, beq_eq_false_iff_ne.mpr e3, beq_eq_false_iff_ne.mpr e4]
  rintro n s1 ⟨h1, tk1, fnd, vs1, n1, kv, rfl, F1, N1, hn, by1, ne1, ne2, ne3⟩
  clear F3 N3
  cases n with
  | zero =>
    refine rnext_drop (news' := [(fnd, listOf vs1.toArray n1), (l, listOf vs.toArray nn)]) rfl F1 N1 (by k_mem) (by decide) (fun p hp => List.Mem.tail _ hp) (by k_all) ?_
    intro h' F' N'
    dsimp only
    k_steps
    repeat' ((with_reducible refine Held.off ?_); (first
        | ((with_reducible show wpAny _ _ (binaryOp _ (Value.ref _) (Value.ref _)) _ _ _); (refine' add_ints ?wF ?wN ?wa ?wb ?wi ?wj ?wz ?_; (case wF => k_asm); (case wN => k_asm); (case wa => k_mem); (case wb => k_mem); (case wi => l_ints); (case wj => l_ints); (case wz => (simp only [List.length_append, List.length_take, List.length_drop, List.length_cons, List.length_nil]; omega))); intro D' ws' h' F' N' l1 hI'; (try k_lt l1); (try k_sweep))
        | ((with_reducible show wpAny _ _ (subscriptTail _ (PySem.Expr.Slice _ _ none _) (Value.ref _) (Value.ref _)) _ _ _); k_dflt (refine' kmk_slice_ints ?wF ?wN ?wl ?wp ?wq ?wi ?wm ?wc ?_ ?ws ?wt ?wz; (case wF => k_asm); (case wN => k_asm); (case wl => kmk_list); (case wp => kmk_part); (case wq => kmk_part); (case wi => l_ints); (case wm => first | with_reducible exact kmk_from (by assumption) (by omega) | with_reducible exact kmk_upto (by assumption) (by omega) | with_reducible exact kmk_run (by assumption) (by omega) (by omega)); (case wc => kmk_len); (case ws => with_unfolding_all rfl); (case wt => kmk_pure); (case wz => kmk_size)); intro D' ws' h' F' N' l1 hI' hC' hL'; (try k_lt l1); (try k_sweep))); k_steps)
    refine ret _ _ _ _ _ (by assumption) (Kept.with (by assumption) (own_mem N (fun _ h => by rcases List.mem_singleton.mp h with rfl; exact hl)) (by assumption)) (l'.2.ne (News.none_at (h₀ := g') N1 (.tail _ (.head _))) ?o) by1
    intro p hp; rcases List.mem_singleton.mp hp with rfl; exact Ne.symm ne3
  | succ n =>
    obtain ⟨i, hi9⟩ : ∃ i : Nat, i = row.length - (k + 1) - 1 - (n + 1) := ⟨_, rfl⟩
    have hix : ((row.length - (k + 1) - 1 : Nat) : Int) - ((n + 1 : Nat) : Int) = (i : Int) := by omega
    have hib : i + (k + 1) + 1 < row.length := by omega
    rw [hix] at N1
    refine rnext_lit (x' := (i : Int) + 1) (left' := (n : Nat)) F1 N1 (by k_upd) (by omega) rfl (by omega) ?_
    intro h' t F' N'
    dsimp only
    have hput := put_is (row := row) (i := i) (k := k + 1) e (by omega)
    k_steps
    repeat' ((with_reducible refine Held.off ?_); (first
        | ((with_reducible show wpAny _ _ (binaryOp _ (Value.ref _) (Value.ref _)) _ _ _); (refine' add_ints ?wF ?wN ?wa ?wb ?wi ?wj ?wz ?_; (case wF => k_asm); (case wN => k_asm); (case wa => k_mem); (case wb => k_mem); (case wi => l_ints); (case wj => l_ints); (case wz => (simp only [List.length_append, List.length_take, List.length_drop, List.length_cons, List.length_nil]; omega))); intro D' ws' h' F' N' l1 hI'; (try k_lt l1); (try k_sweep))
        | ((with_reducible show wpAny _ _ (subscriptTail _ (PySem.Expr.Slice _ _ none _) (Value.ref _) (Value.ref _)) _ _ _); k_dflt (refine' kmk_slice_ints ?wF ?wN ?wl ?wp ?wq ?wi ?wm ?wc ?_ ?ws ?wt ?wz; (case wF => k_asm); (case wN => k_asm); (case wl => kmk_list); (case wp => kmk_part); (case wq => kmk_part); (case wi => l_ints); (case wm => first | with_reducible exact kmk_from (by assumption) (by omega) | with_reducible exact kmk_upto (by assumption) (by omega) | with_reducible exact kmk_run (by assumption) (by omega) (by omega)); (case wc => kmk_len); (case ws => with_unfolding_all rfl); (case wt => kmk_pure); (case wz => kmk_size)); intro D' ws' h' F' N' l1 hI' hC' hL'; (try k_lt l1); (try k_sweep))); k_steps)
    · refine (?_ : wpAny _ _ _ _ _ _)
      refine rows_use (row := put row i (k + 1)) ih (by k_asm) (by k_asm) (by k_asm) (by k_asm) (by k_asm) rfl (by k_mem) (by rw [← hput]; assumption) (put_mem (by omega) hb) (by rw [put_length (by omega)]; exact hlen) (by omega) (by omega) (by ktr_room) (by ktr_units) ?_
      intro r' h' tk' vs' n' F' N' o' by2
      refine add_bytes (by assumption) (by assumption) (by k_mem) (by k_mem) by1 by2 ?z ?_
      case z =>
        have e1 := rowsStep_len (k := k) (by omega) hlen (row.length - (k + 1) - 1 - (n + 1)) (by omega)
        have e2 := lawRows_len k (put row i (k + 1)) (by rw [put_length (by omega)]; exact hlen)
        have e3 : 8 ^ k ≤ 8 ^ 3 := Nat.pow_le_pow_right (by decide) (by omega)
        omega
      intro D' h' F' N' l1 by3
      k_lt l1
      k_steps
      repeat' ((with_reducible refine Held.off ?_); (first
          | ((with_reducible show wpAny _ _ (binaryOp _ (Value.ref _) (Value.ref _)) _ _ _); (refine' add_ints ?wF ?wN ?wa ?wb ?wi ?wj ?wz ?_; (case wF => k_asm); (case wN => k_asm); (case wa => k_mem); (case wb => k_mem); (case wi => l_ints); (case wj => l_ints); (case wz => (simp only [List.length_append, List.length_take, List.length_drop, List.length_cons, List.length_nil]; omega))); intro D' ws' h' F' N' l1 hI'; (try k_lt l1); (try k_sweep))
          | ((with_reducible show wpAny _ _ (subscriptTail _ (PySem.Expr.Slice _ _ none _) (Value.ref _) (Value.ref _)) _ _ _); k_dflt (refine' kmk_slice_ints ?wF ?wN ?wl ?wp ?wq ?wi ?wm ?wc ?_ ?ws ?wt ?wz; (case wF => k_asm); (case wN => k_asm); (case wl => kmk_list); (case wp => kmk_part); (case wq => kmk_part); (case wi => l_ints); (case wm => first | with_reducible exact kmk_from (by assumption) (by omega) | with_reducible exact kmk_upto (by assumption) (by omega) | with_reducible exact kmk_run (by assumption) (by omega) (by omega)); (case wc => kmk_len); (case ws => with_unfolding_all rfl); (case wt => kmk_pure); (case wz => kmk_size)); intro D' ws' h' F' N' l1 hI' hC' hL'; (try k_lt l1); (try k_sweep))); k_steps)
      show Turned _ _ _
      refine ⟨n, Nat.lt_succ_self _, _, _, ?fnd_1, ?vs_1, ?n'_1, some (.int (i : Int) t), rfl, ?FF_1, ?N_1, by omega, ?BY_1, ?n1_1, ?n2_1, ?n3_1⟩
      case N_1 =>
        rw [show ((row.length - (k + 1) - 1 : Nat) : Int) - (n : Nat) = (i : Int) + 1 by omega]
        exact news3 (by assumption) (by k_mem) (by k_mem) (by k_mem)
      case FF_1 =>
        refine' fr_cong ?fa_1 ?fb_1
        case fa_1 => assumption
        case fb_1 => exact fun z => rowsVars_found z
      case BY_1 =>
        rw [range_snoc _ hi9 (by omega), step_yes (by assumption) (by assumption) e]
        exact by3
      case n1_1 => omega
      case n2_1 => omega
      case n3_1 => omega
    · show Turned _ _ _
      refine ⟨n, Nat.lt_succ_self _, _, _, fnd, vs1, n1, some (.int (i : Int) t), rfl, ?FF_2, ?N_2, by omega, ?BY_2, ne1, ne2, ne3⟩
      case FF_2 =>
        refine' fr_cong ?fa_2 ?fb_2
        case fa_2 => assumption
        case fb_2 => exact fun z => rowsVars_k z
      case N_2 =>
        rw [show ((row.length - (k + 1) - 1 : Nat) : Int) - (n : Nat) = (i : Int) + 1 by omega]
        assumption
      case BY_2 =>
        rw [range_snoc _ hi9 (by omega), step_no2 (by assumption) e, List.append_nil]
        exact by1
    · show Turned _ _ _
      refine ⟨n, Nat.lt_succ_self _, _, _, fnd, vs1, n1, some (.int (i : Int) t), rfl, ?FF_3, ?N_3, by omega, ?BY_3, ne1, ne2, ne3⟩
      case FF_3 =>
        refine' fr_cong ?fa_3 ?fb_3
        case fa_3 => assumption
        case fb_3 => exact fun z => rowsVars_k z
      case N_3 =>
        rw [show ((row.length - (k + 1) - 1 : Nat) : Int) - (n : Nat) = (i : Int) + 1 by omega]
        assumption
      case BY_3 =>
        rw [range_snoc _ hi9 (by omega), step_no1 (by assumption), List.append_nil]
        exact by1
theorem rows_all (w : World) : ∀ k : Nat, k ≤ 4 → RowsTell w k
  | 0, _ => rows_zero w
  | k + 1, h => rows_succ w k (rows_all w k (Nat.le_of_succ_le h)) h
end Mine
end
section
open PySem PySem.W PyProof.Rows
set_option maxRecDepth 100000
set_option maxHeartbeats 8000000
namespace Mine
theorem bits_small {x : Int} (h0 : 1 ≤ x) (h1 : x ≤ 7) : ∃ k : Int, ((Builtin.Int.intBits x : Nat) : Int) = k ∧ 1 ≤ k ∧ k ≤ 3 := ⟨_, rfl, by
  have : x = 1 ∨ x = 2 ∨ x = 3 ∨ x = 4 ∨ x = 5 ∨ x = 6 ∨ x = 7 := by omega
  rcases this with rfl | rfl | rfl | rfl | rfl | rfl | rfl <;> decide +kernel⟩
section
variable {prog : Program} {w : World} {A : Around} {E : Value → Shared → Prop} {s : Shared}
theorem call_bitsE {a k : Int} {t : Tok} {Q : Value → Shared → Prop} (e : ((Builtin.Int.intBits a : Nat) : Int) = k) (h : Q (.int k s.toks) { s with toks := s.toks + 1 }) :
    wpAny (model prog w) A (call (.builtin "int.bit_length") [.int a t]) Q E s := call_int_bit_length (by rw [e]; exact h)
theorem fdiv3 {x z : Int} {t u : Tok} {Q : Value → Shared → Prop} (h0 : 0 ≤ x) (h1 : x ≤ 100) (e : x / 3 = z) (h : Q (.int z s.toks) { s with toks := s.toks + 1 }) :
    wpAny (model prog w) A (binaryOp .FloorDiv (.int x t) (.int 3 u)) Q E s := by
  have ex : x.fdiv 3 = z := by rw [Int.fdiv_eq_ediv_of_nonneg _ (by decide)]; exact e
  exact floordiv_int (by decide) (by rw [ex]; exact h) (Or.inl (PyProof.noPylong_of_log2 (by decide +kernel)))
theorem truthy_yes {x : Int} {t : Tok} {Q : Bool → Shared → Prop} (hx : x ≠ 0) (h : Q true s) : wpAny (model prog w) A (truthy (.int x t)) Q E s := truthy_int (by rw [show (x != 0) = true by simpa using hx]; exact h)
end
def InnerCode (o : Obj) (q : Str) : Prop := ∃ vs t, o.data = .fields vs ∧ vs[1]? = some (.str q t)
/-- the ledger after a call of int_divmod: its tuple, the inner defs' codes, the tables -/
abbrev afterDm (D c1 c2 : Addr) (o1 o2 : Obj) (q r : Int) (tq tr : Tok) : List (Addr × Obj) :=
  [(D, { cls := .type "tuple", data := .seq #[.int q tq, .int r tr] }), (c1, o1), (c2, o2), (44, tabObj (#[] ++ #[rawInt ((54 : Nat) : Int), rawInt ((4 : Nat) : Int), .ref c1])), (37, tabObj (#[] ++ #[rawInt ((39 : Nat) : Int), rawInt ((4 : Nat) : Int), .ref c2]))]
theorem none_of {h₀ h' : Heap} {L r : Addr} {o : Obj} {news : List (Addr × Obj)} (N : News h₀ L h' news) (hm : (r, o) ∈ news) : h₀.get? r = .none := (N _ hm).2.2
theorem ne2 {r : Addr} {a b : Addr} {oa ob : Obj} (h1 : @Ne Nat a r) (h2 : @Ne Nat b r) : ∀ p ∈ [(a, oa), (b, ob)], p.1 ≠ r := fun p hp => by
  simp only [List.mem_cons, List.not_mem_nil, or_false] at hp
  rcases hp with rfl | rfl
  · exact h1
  · exact h2
theorem news5 {h₀ h : Heap} {L : Addr} {news : List (Addr × Obj)} {a b c d e : Addr × Obj} (N : News h₀ L h news) (ha : a ∈ news) (hb : b ∈ news) (hc : c ∈ news) (hd : d ∈ news) (he : e ∈ news) : News h₀ L h [a, b, c, d, e] := fun p hp => by
  simp only [List.mem_cons, List.not_mem_nil, or_false] at hp
  rcases hp with rfl | rfl | rfl | rfl | rfl
  · exact N _ ha
  · exact N _ hb
  · exact N _ hc
  · exact N _ hd
  · exact N _ he
abbrev tab44 (c : Addr) : Obj := tabObj (#[] ++ #[rawInt ((54 : Nat) : Int), rawInt ((4 : Nat) : Int), .ref c])
abbrev tab37 (c : Addr) : Obj := tabObj (#[] ++ #[rawInt ((39 : Nat) : Int), rawInt ((4 : Nat) : Int), .ref c])
abbrev ownDm (c1 c2 : Addr) (o1 o2 : Obj) : List (Addr × Obj) := [(44, tab44 c1), (37, tab37 c2), (c1, o1), (c2, o2)]
theorem bits_two {x : Int} (hx : x = 10 ∨ x = 24 ∨ x = 44) : ∃ k : Int, ((Builtin.Int.intBits x : Nat) : Int) = k ∧ 4 ≤ k ∧ k ≤ 6 := ⟨_, rfl, by
  rcases hx with rfl | rfl | rfl <;> decide +kernel⟩
set_option hygiene false in
set_option compiler.extract_closed false in
local macro_rules | `(tactic| walk_at $s:str) => match s.getString with
  | "call builtin:int.bit_length" | "binaryOp FloorDiv int int" | "truthy int" => `(tactic| (k_here; refine Held.on ?_))
  | "call ref" => `(tactic| (k_here; with_reducible refine heldRef ?_))
  | "execs cons" => `(tactic| (k_here; first | (refine gen_toks ?_; intro tk9; (try k_fold)) | k_fold))
  | "eval BinOp" | "eval Call" => `(tactic| (k_here; k_fold))
  | _ => Lean.Macro.throwUnsupported
theorem dm1 {w : World} {p : Program} {loose : List Str} {mean : ExcName → Option Value} {mg mb : Str → Option Value}
   {gd : Option (List Code)} {cn : Str} {cs : Scope} {a : Addr} {ccd : Value} {cl : List (Str × Addr)} {outer : List Env} {A₀ : Around} {base h₀ : Heap} {L : Addr} {m : Str → Option Value} {news : List (Addr × Obj)} {s : Shared}
   {Q E : Value → Shared → Prop} {x q r : Int} {t u : Tok}
   (B : Below A₀ base outer h₀) (F : Fr h₀ L s.heap m) (X : (hd.heap_39 w.params).In h₀) (N : News h₀ L s.heap news) (T : Top p loose mean mg mb h₀) (hk : cs.kind = .function)
   (c1 : CodeHd base 48 44) (c2 : CodeHd base 41 37) (hs : ∀ p ∈ [(44, tabObj #[]), (37, tabObj #[])], p ∈ news) (hx1 : 1 ≤ x) (hx2 : x ≤ 7) (eq : x / 4 = q) (er : x % 4 = r)
   (ret : ∀ D c1 c2 o1 o2 h' tk' tq tr q' r', Fr h₀ L h' m → News h₀ L h' (afterDm D c1 c2 o1 o2 q' r' tq tr) → q' = q → r' = r → InnerCode o1 (Str.ofString "_digits2int.<locals>.inner") → InnerCode o2 (Str.ofString "_int2digits.<locals>.inner") →
      Kept h₀ L [(44, tabObj #[]), (37, tabObj #[])] news h' → (∀ p ∈ news, @Ne Nat p.1 D) → (∀ p ∈ news, @Ne Nat p.1 c1) → (∀ p ∈ news, @Ne Nat p.1 c2) → (@LT.lt Nat _ 44 c2 ∧ @LT.lt Nat _ c2 c1 ∧ @LT.lt Nat _ c1 D) → Q (.ref D) { s with heap := h', toks := tk' }) :
   wpAny (model PySem.Challenge.rw_gg0005_01.row.prog w) (ktrTop (1 + claimMargin + 1) 7 gd cn cs L a ccd cl outer) (call (.ref 63) [.int x t, .int 4 u]) Q E s := by
  obtain ⟨k, hk1, hk2, hk3⟩ := bits_small hx1 hx2
  w_top off
  revert X; k_fill; intro X
  refine wpAny_call ?_
  refine own_plain (binds := [(Str.ofString "a", .int x t), (Str.ofString "b", .int 4 u)]) (own := [(44, tabObj #[]), (37, tabObj #[])]) B F N hs T.nolimit rfl rfl hk ((X.keeps F.keep) _ _ (by k_is)) rfl (codeRec_of (X.keeps F.keep) (by k_is)) (by ktr_room) (BindsTo.of_eq rfl) (locs rfl) ?_ (by decide)
  intro g' L' h' FG' F' N' B' st' l'
  have X' := X.keeps st'
  have T' := T.keeps st'
  refine no_exc ?_
  try dsimp only
  k_steps
  repeat' ((with_reducible refine Held.off ?_); (first
    | (with_reducible refine' call_bitsE ?e ?_; (case e => first | with_reducible assumption | exact (show _ = (3 : Int) by decide +kernel)))
    | (with_reducible refine' fdiv3 ?e0 ?e1 ?e2 ?_; (case e0 => omega); (case e1 => omega); (case e2 => first | exact (show _ = (1 : Int) by omega) | exact (show _ = (2 : Int) by omega)))
    | (with_reducible refine' truthy_yes ?e ?_; (case e => omega))
    | ((with_reducible show wpAny _ _ (call (Value.ref 28) _) _ _ _); (refine' div_call ?k1 ?k2 ?k3 ?k4 ?k5 ?k6 ?k7 ?k8 ?k9 ?k10 ?k11 ?k12 ?_; (case k1 => k_asm); (case k2 => k_asm); (case k3 => k_asm); (case k4 => k_asm); (case k5 => k_asm); (case k6 => exact rfl); (case k7 => first | (rcases ‹_ = (10 : Int) ∨ _ = (24 : Int) ∨ _ = (44 : Int)› with e | e | e <;> (rw [e]; decide +kernel)) | omega); (case k8 => first | (rcases ‹_ = (10 : Int) ∨ _ = (24 : Int) ∨ _ = (44 : Int)› with e | e | e <;> (rw [e]; decide +kernel)) | omega); (case k9 => exact rfl); (case k10 => exact rfl); (case k11 => ktr_room); (case k12 => ktr_units)); intro D' h' tk' tq' tr' F' N' o'; (k_lt o'))
    | ((with_reducible show wpAny _ _ (call (Value.ref 56) _) _ _ _); (refine' enterP (ns := [Str.ofString "a", Str.ofString "b"]) ?k1 ?k2 ?k3 ?k4 ?k5 ?kA ?kF ?kK ?k6 ?k7 ?k8 ?k9 ?kB ?_ ?c2 ?c3 ?c4 ?c5; (case kA => exact rfl); (case kF => exact rfl); (case kK => exact rfl); (case k1 => k_asm); (case k2 => k_asm); (case k3 => k_asm); (case k4 => k_asm); (case k5 => k_asm); (case k6 => k_is); (case k7 => k_is); (case k8 => k_room); (case k9 => exact rfl); (case c5 => decide); (case kB => exact locs rfl); (case c2 => exact rfl); (case c3 => exact rfl); (case c4 => exact rfl)); intro gx Lx hh9 tkx FGx Fx Nx Bx Xx Tx; (try dsimp only); (try k_lift Bx); (try k_fold))
    | ((with_reducible show wpAny _ _ (call (Value.ref 42) _) _ _ _); (refine' enterC (ns := [Str.ofString "a", Str.ofString "n"]) ?k1 ?k2 ?k3 ?k4 ?k5 ?kA ?kF ?kK ?k6 ?k7 ?k8 ?k9 ?kB ?kD ?_ ?c2 ?c3 ?c4; (case kA => exact rfl); (case kF => exact rfl); (case kK => exact rfl); (case k1 => k_asm); (case k2 => k_asm); (case k3 => k_asm); (case k4 => k_asm); (case k5 => k_asm); (case k6 => k_is); (case k7 => k_is); (case k8 => k_room); (case k9 => exact rfl); (case kB => exact rfl); (case kD => decide +kernel); (case c2 => exact rfl); (case c3 => exact rfl); (case c4 => exact rfl)); intro gx Lx hh9 tkx cellsx FGx Fx Nx Yx Bx Xx Tx l1x; (try k_lt l1x); k_cells Yx; (try simp only [List.cons_append, List.nil_append] at Nx); (try dsimp only); (try k_lift Bx); (try k_fold))
    | ((with_reducible show wpAny _ _ (call (Value.ref 49) _) _ _ _); (refine' enterC (ns := [Str.ofString "digits", Str.ofString "n"]) ?k1 ?k2 ?k3 ?k4 ?k5 ?kA ?kF ?kK ?k6 ?k7 ?k8 ?k9 ?kB ?kD ?_ ?c2 ?c3 ?c4; (case kA => exact rfl); (case kF => exact rfl); (case kK => exact rfl); (case k1 => k_asm); (case k2 => k_asm); (case k3 => k_asm); (case k4 => k_asm); (case k5 => k_asm); (case k6 => k_is); (case k7 => k_is); (case k8 => k_room); (case k9 => exact rfl); (case kB => exact rfl); (case kD => decide +kernel); (case c2 => exact rfl); (case c3 => exact rfl); (case c4 => exact rfl)); intro gx Lx hh9 tkx cellsx FGx Fx Nx Yx Bx Xx Tx l1x; (try k_lt l1x); k_cells Yx; (try simp only [List.cons_append, List.nil_append] at Nx); (try dsimp only); (try k_lift Bx); (try k_fold))
    | ((refine' enterN (ns := [Str.ofString "x", Str.ofString "L", Str.ofString "R"]) ?k1 ?k2 ?k3 ?k4 ?k5 ?kA ?kF ?kK ?k6 ?k7 ?k8 ?k9 ?kB ?_ ?c2 ?c3 ?c4 ?c5; (case kA => exact rfl); (case kF => exact rfl); (case kK => exact rfl); (case k1 => k_asm); (case k2 => k_asm); (case k3 => k_asm); (case k4 => k_asm); (case k5 => k_asm); (case k6 => k_mem); (case k7 => exact codeRec_news (by k_asm) (by k_mem) (by assumption) (by assumption)); (case k8 => k_room); (case k9 => exact rfl); (case c5 => decide); (case kB => exact locs rfl); (case c2 => exact rfl); (case c3 => exact rfl); (case c4 => exact rfl)); intro gx Lx hh9 tkx FGx Fx Nx Bx Xx Tx; (try dsimp only); (try k_lift Bx); (try k_fold))
    | ((refine' enterN (ns := [Str.ofString "L", Str.ofString "R"]) ?k1 ?k2 ?k3 ?k4 ?k5 ?kA ?kF ?kK ?k6 ?k7 ?k8 ?k9 ?kB ?_ ?c2 ?c3 ?c4 ?c5; (case kA => exact rfl); (case kF => exact rfl); (case kK => exact rfl); (case k1 => k_asm); (case k2 => k_asm); (case k3 => k_asm); (case k4 => k_asm); (case k5 => k_asm); (case k6 => k_mem); (case k7 => exact codeRec_news (by k_asm) (by k_mem) (by assumption) (by assumption)); (case k8 => k_room); (case k9 => exact rfl); (case c5 => decide); (case kB => exact locs rfl); (case c2 => exact rfl); (case c3 => exact rfl); (case c4 => exact rfl)); intro gx Lx hh9 tkx FGx Fx Nx Bx Xx Tx; (try dsimp only); (try k_lift Bx); (try k_fold))); k_steps)
  refine' ret _ ?xc1 ?xc2 ?xo1 ?xo2 _ _ ?xtq ?xtr ?xq ?xr ?xF ?xN ?xe1 ?xe2 ?xi1 ?xi2 ?xK ?xn1 ?xn2 ?xn3 ?xlt
  case xF => with_reducible assumption
  case xK => with_reducible assumption
  case xN =>
    rename News h₀ _ _ _ => kN9
    refine' news5 kN9 ?ya ?yb ?yc ?yd ?ye
    case yd => k_mem
    case ye => k_mem
    case ya => k_mem
    case yb => k_mem
    case yc => k_mem
  case xlt => omega
  case xi1 =>
    refine' ⟨_, _, ?yh1, Eq.trans (b := some (.str _ _)) ?yh2 ?yh3⟩
    case yh1 => assumption
    case yh2 => with_reducible assumption
    case yh3 => exact congrArg (fun q => some (Value.str q _)) (by kernel_rfl)
  case xi2 =>
    refine' ⟨_, _, ?zh1, Eq.trans (b := some (.str _ _)) ?zh2 ?zh3⟩
    case zh1 => assumption
    case zh2 => with_reducible assumption
    case zh3 => exact congrArg (fun q => some (Value.str q _)) (by kernel_rfl)
  case xe1 =>
    subst eq
    show ((0 : Int) * 2 ^ Int.toNat 3 + x).fdiv 4 = x / 4
    rw [Int.fdiv_eq_ediv_of_nonneg _ (by decide), show (0 : Int) * 2 ^ Int.toNat 3 + x = x by omega]
  case xe2 =>
    subst er
    rw [Int.fmod_eq_emod_of_nonneg _ (by decide), show (0 : Int) * 2 ^ Int.toNat 3 + x = x by omega]
  case xn1 =>
    rename News g' _ _ _ => gN9
    exact l'.2.ne (none_of gN9 (by k_mem)) (ne2 (by omega) (by omega))
  case xn2 =>
    rename News g' _ _ _ => gN9
    exact l'.2.ne (none_of gN9 (by k_mem)) (ne2 (by omega) (by omega))
  case xn3 =>
    rename News g' _ _ _ => gN9
    exact l'.2.ne (none_of gN9 (by k_mem)) (ne2 (by omega) (by omega))
theorem ne4 {r : Addr} {a b c d : Addr} {oa ob oc od : Obj} (h1 : @Ne Nat a r) (h2 : @Ne Nat b r) (h3 : @Ne Nat c r) (h4 : @Ne Nat d r) : ∀ p ∈ [(a, oa), (b, ob), (c, oc), (d, od)], p.1 ≠ r := fun p hp => by
  simp only [List.mem_cons, List.not_mem_nil, or_false] at hp
  rcases hp with rfl | rfl | rfl | rfl
  · exact h1
  · exact h2
  · exact h3
  · exact h4
theorem dm1F {w : World} {p : Program} {loose : List Str} {mean : ExcName → Option Value} {mg mb : Str → Option Value}
   {gd : Option (List Code)} {cn : Str} {cs : Scope} {a : Addr} {ccd : Value} {cl : List (Str × Addr)} {outer : List Env} {A₀ : Around} {base h₀ : Heap} {L : Addr} {m : Str → Option Value} {news : List (Addr × Obj)} {s : Shared}
   {Q E : Value → Shared → Prop} {x q r : Int} {t u : Tok} {c1 c2 : Addr} {o1 o2 : Obj}
   (B : Below A₀ base outer h₀) (F : Fr h₀ L s.heap m) (X : (hd.heap_39 w.params).In h₀) (N : News h₀ L s.heap news) (T : Top p loose mean mg mb h₀) (hk : cs.kind = .function)
   (b1 : CodeHd base 48 44) (b2 : CodeHd base 41 37) (i1 : InnerCode o1 (Str.ofString "_digits2int.<locals>.inner")) (i2 : InnerCode o2 (Str.ofString "_int2digits.<locals>.inner"))
   (hs : ∀ p ∈ ownDm c1 c2 o1 o2, p ∈ news) (hlt : @LT.lt Nat _ 44 c2 ∧ @LT.lt Nat _ c2 c1) (hx1 : 1 ≤ x) (hx2 : x ≤ 7) (eq : x / 4 = q) (er : x % 4 = r)
   (ret : ∀ D h' tk' tq tr q' r', Fr h₀ L h' m → News h₀ L h' ((D, { cls := .type "tuple", data := .seq #[.int q' tq, .int r' tr] }) :: news) → q' = q → r' = r → (∀ p ∈ news, @Ne Nat p.1 D) → Q (.ref D) { s with heap := h', toks := tk' }) :
   wpAny (model PySem.Challenge.rw_gg0005_01.row.prog w) (ktrTop (1 + claimMargin + 1) 7 gd cn cs L a ccd cl outer) (call (.ref 63) [.int x t, .int 4 u]) Q E s := by
  obtain ⟨k, hk1, hk2, hk3⟩ := bits_small hx1 hx2
  obtain ⟨v1, t1, i11, i12⟩ := i1
  obtain ⟨v2, t2, i21, i22⟩ := i2
  w_top off
  revert X; k_fill; intro X
  refine wpAny_call ?_
  refine own_plain (binds := [(Str.ofString "a", .int x t), (Str.ofString "b", .int 4 u)]) (own := ownDm c1 c2 o1 o2) B F N hs T.nolimit rfl rfl hk ((X.keeps F.keep) _ _ (by k_is)) rfl (codeRec_of (X.keeps F.keep) (by k_is)) (by ktr_room) (BindsTo.of_eq rfl) (locs rfl) ?_ (by decide)
  intro g' L' h' FG' F' N' B' st' l'
  have X' := X.keeps st'
  have T' := T.keeps st'
  refine no_exc ?_
  try dsimp only
  k_steps
  repeat' ((with_reducible refine Held.off ?_); (first
    | (with_reducible refine' call_bitsE ?e ?_; (case e => first | with_reducible assumption | exact (show _ = (3 : Int) by decide +kernel)))
    | (with_reducible refine' fdiv3 ?e0 ?e1 ?e2 ?_; (case e0 => omega); (case e1 => omega); (case e2 => first | exact (show _ = (1 : Int) by omega) | exact (show _ = (2 : Int) by omega)))
    | (with_reducible refine' truthy_yes ?e ?_; (case e => omega))
    | ((with_reducible show wpAny _ _ (call (Value.ref 28) _) _ _ _); (refine' div_call ?k1 ?k2 ?k3 ?k4 ?k5 ?k6 ?k7 ?k8 ?k9 ?k10 ?k11 ?k12 ?_; (case k1 => k_asm); (case k2 => k_asm); (case k3 => k_asm); (case k4 => k_asm); (case k5 => k_asm); (case k6 => exact rfl); (case k7 => first | (rcases ‹_ = (10 : Int) ∨ _ = (24 : Int) ∨ _ = (44 : Int)› with e | e | e <;> (rw [e]; decide +kernel)) | omega); (case k8 => first | (rcases ‹_ = (10 : Int) ∨ _ = (24 : Int) ∨ _ = (44 : Int)› with e | e | e <;> (rw [e]; decide +kernel)) | omega); (case k9 => exact rfl); (case k10 => exact rfl); (case k11 => ktr_room); (case k12 => ktr_units)); intro D' h' tk' tq' tr' F' N' o'; (k_lt o'))
    | ((with_reducible show wpAny _ _ (call (Value.ref 56) _) _ _ _); (refine' enterP (ns := [Str.ofString "a", Str.ofString "b"]) ?k1 ?k2 ?k3 ?k4 ?k5 ?kA ?kF ?kK ?k6 ?k7 ?k8 ?k9 ?kB ?_ ?c2 ?c3 ?c4 ?c5; (case kA => exact rfl); (case kF => exact rfl); (case kK => exact rfl); (case k1 => k_asm); (case k2 => k_asm); (case k3 => k_asm); (case k4 => k_asm); (case k5 => k_asm); (case k6 => k_is); (case k7 => k_is); (case k8 => k_room); (case k9 => exact rfl); (case c5 => decide); (case kB => exact locs rfl); (case c2 => exact rfl); (case c3 => exact rfl); (case c4 => exact rfl)); intro gx Lx hh9 tkx FGx Fx Nx Bx Xx Tx; (try dsimp only); (try k_lift Bx); (try k_fold))
    | ((with_reducible show wpAny _ _ (call (Value.ref 42) _) _ _ _); (refine' enterC (ns := [Str.ofString "a", Str.ofString "n"]) ?k1 ?k2 ?k3 ?k4 ?k5 ?kA ?kF ?kK ?k6 ?k7 ?k8 ?k9 ?kB ?kD ?_ ?c2 ?c3 ?c4; (case kA => exact rfl); (case kF => exact rfl); (case kK => exact rfl); (case k1 => k_asm); (case k2 => k_asm); (case k3 => k_asm); (case k4 => k_asm); (case k5 => k_asm); (case k6 => k_is); (case k7 => k_is); (case k8 => k_room); (case k9 => exact rfl); (case kB => exact rfl); (case kD => decide +kernel); (case c2 => exact rfl); (case c3 => exact rfl); (case c4 => exact rfl)); intro gx Lx hh9 tkx cellsx FGx Fx Nx Yx Bx Xx Tx l1x; (try k_lt l1x); k_cells Yx; (try simp only [List.cons_append, List.nil_append] at Nx); (try dsimp only); (try k_lift Bx); (try k_fold))
    | ((with_reducible show wpAny _ _ (call (Value.ref 49) _) _ _ _); (refine' enterC (ns := [Str.ofString "digits", Str.ofString "n"]) ?k1 ?k2 ?k3 ?k4 ?k5 ?kA ?kF ?kK ?k6 ?k7 ?k8 ?k9 ?kB ?kD ?_ ?c2 ?c3 ?c4; (case kA => exact rfl); (case kF => exact rfl); (case kK => exact rfl); (case k1 => k_asm); (case k2 => k_asm); (case k3 => k_asm); (case k4 => k_asm); (case k5 => k_asm); (case k6 => k_is); (case k7 => k_is); (case k8 => k_room); (case k9 => exact rfl); (case kB => exact rfl); (case kD => decide +kernel); (case c2 => exact rfl); (case c3 => exact rfl); (case c4 => exact rfl)); intro gx Lx hh9 tkx cellsx FGx Fx Nx Yx Bx Xx Tx l1x; (try k_lt l1x); k_cells Yx; (try simp only [List.cons_append, List.nil_append] at Nx); (try dsimp only); (try k_lift Bx); (try k_fold))
    | ((refine' enterN (ns := [Str.ofString "x", Str.ofString "L", Str.ofString "R"]) ?k1 ?k2 ?k3 ?k4 ?k5 ?kA ?kF ?kK ?k6 ?k7 ?k8 ?k9 ?kB ?_ ?c2 ?c3 ?c4 ?c5; (case kA => exact rfl); (case kF => exact rfl); (case kK => exact rfl); (case k1 => k_asm); (case k2 => k_asm); (case k3 => k_asm); (case k4 => k_asm); (case k5 => k_asm); (case k6 => k_mem); (case k7 => exact codeRec_news (by k_asm) (by k_mem) (by assumption) (by assumption)); (case k8 => k_room); (case k9 => exact rfl); (case c5 => decide); (case kB => exact locs rfl); (case c2 => exact rfl); (case c3 => exact rfl); (case c4 => exact rfl)); intro gx Lx hh9 tkx FGx Fx Nx Bx Xx Tx; (try dsimp only); (try k_lift Bx); (try k_fold))
    | ((refine' enterN (ns := [Str.ofString "L", Str.ofString "R"]) ?k1 ?k2 ?k3 ?k4 ?k5 ?kA ?kF ?kK ?k6 ?k7 ?k8 ?k9 ?kB ?_ ?c2 ?c3 ?c4 ?c5; (case kA => exact rfl); (case kF => exact rfl); (case kK => exact rfl); (case k1 => k_asm); (case k2 => k_asm); (case k3 => k_asm); (case k4 => k_asm); (case k5 => k_asm); (case k6 => k_mem); (case k7 => exact codeRec_news (by k_asm) (by k_mem) (by assumption) (by assumption)); (case k8 => k_room); (case k9 => exact rfl); (case c5 => decide); (case kB => exact locs rfl); (case c2 => exact rfl); (case c3 => exact rfl); (case c4 => exact rfl)); intro gx Lx hh9 tkx FGx Fx Nx Bx Xx Tx; (try dsimp only); (try k_lift Bx); (try k_fold))); k_steps)
  refine' ret _ _ _ ?xtq ?xtr ?xq ?xr ?xF ?xN ?xe1 ?xe2 ?xn
  case xF => with_reducible assumption
  case xN =>
    rename Kept h₀ _ _ _ _ => kK9
    rename News h₀ _ _ _ => kN9
    refine' kK9.with (own_mem N hs) (news5 kN9 ?ya ?yb ?yc ?yd ?ye)
    case yb => k_mem
    case yc => k_mem
    case yd => k_mem
    case ye => k_mem
    case ya => k_mem
  case xe1 =>
    subst eq
    show ((0 : Int) * 2 ^ Int.toNat 3 + x).fdiv 4 = x / 4
    rw [Int.fdiv_eq_ediv_of_nonneg _ (by decide), show (0 : Int) * 2 ^ Int.toNat 3 + x = x by omega]
  case xe2 =>
    subst er
    rw [Int.fmod_eq_emod_of_nonneg _ (by decide), show (0 : Int) * 2 ^ Int.toNat 3 + x = x by omega]
  case xn =>
    rename News g' _ _ _ => gN9
    exact l'.2.ne (none_of gN9 (by k_mem)) (ne4 (by omega) (by omega) (by omega) (by omega))
theorem dm2F {w : World} {p : Program} {loose : List Str} {mean : ExcName → Option Value} {mg mb : Str → Option Value}
   {gd : Option (List Code)} {cn : Str} {cs : Scope} {a : Addr} {ccd : Value} {cl : List (Str × Addr)} {outer : List Env} {A₀ : Around} {base h₀ : Heap} {L : Addr} {m : Str → Option Value} {news : List (Addr × Obj)} {s : Shared}
   {Q E : Value → Shared → Prop} {x q r : Int} {t u : Tok} {c1 c2 : Addr} {o1 o2 : Obj}
   (B : Below A₀ base outer h₀) (F : Fr h₀ L s.heap m) (X : (hd.heap_39 w.params).In h₀) (N : News h₀ L s.heap news) (T : Top p loose mean mg mb h₀) (hk : cs.kind = .function)
   (b1 : CodeHd base 48 44) (b2 : CodeHd base 41 37) (i1 : InnerCode o1 (Str.ofString "_digits2int.<locals>.inner")) (i2 : InnerCode o2 (Str.ofString "_int2digits.<locals>.inner"))
   (hs : ∀ p ∈ ownDm c1 c2 o1 o2, p ∈ news) (hlt : @LT.lt Nat _ 44 c2 ∧ @LT.lt Nat _ c2 c1) (hx : x = 10 ∨ x = 24 ∨ x = 44) (eq : x / 4 = q) (er : x % 4 = r)
   (ret : ∀ D h' tk' tq tr q' r', Fr h₀ L h' m → News h₀ L h' ((D, { cls := .type "tuple", data := .seq #[.int q' tq, .int r' tr] }) :: news) → q' = q → r' = r → (∀ p ∈ news, @Ne Nat p.1 D) → Q (.ref D) { s with heap := h', toks := tk' }) :
   wpAny (model PySem.Challenge.rw_gg0005_01.row.prog w) (ktrTop (1 + claimMargin + 1) 7 gd cn cs L a ccd cl outer) (call (.ref 63) [.int x t, .int 4 u]) Q E s := by
  obtain ⟨k, hk1, hk2, hk3⟩ := bits_two hx
  obtain ⟨v1, t1, i11, i12⟩ := i1
  obtain ⟨v2, t2, i21, i22⟩ := i2
  w_top off
  revert X; k_fill; intro X
  refine wpAny_call ?_
  refine own_plain (binds := [(Str.ofString "a", .int x t), (Str.ofString "b", .int 4 u)]) (own := ownDm c1 c2 o1 o2) B F N hs T.nolimit rfl rfl hk ((X.keeps F.keep) _ _ (by k_is)) rfl (codeRec_of (X.keeps F.keep) (by k_is)) (by ktr_room) (BindsTo.of_eq rfl) (locs rfl) ?_ (by decide)
  intro g' L' h' FG' F' N' B' st' l'
  have X' := X.keeps st'
  have T' := T.keeps st'
  refine no_exc ?_
  try dsimp only
  k_steps
  repeat' ((with_reducible refine Held.off ?_); (first
    | (with_reducible refine' call_bitsE ?e ?_; (case e => first | with_reducible assumption | exact (show _ = (3 : Int) by decide +kernel)))
    | (with_reducible refine' fdiv3 ?e0 ?e1 ?e2 ?_; (case e0 => omega); (case e1 => omega); (case e2 => first | exact (show _ = (1 : Int) by omega) | exact (show _ = (2 : Int) by omega)))
    | (with_reducible refine' truthy_yes ?e ?_; (case e => omega))
    | ((with_reducible show wpAny _ _ (call (Value.ref 28) _) _ _ _); (refine' div_call ?k1 ?k2 ?k3 ?k4 ?k5 ?k6 ?k7 ?k8 ?k9 ?k10 ?k11 ?k12 ?_; (case k1 => k_asm); (case k2 => k_asm); (case k3 => k_asm); (case k4 => k_asm); (case k5 => k_asm); (case k6 => exact rfl); (case k7 => first | (rcases ‹_ = (10 : Int) ∨ _ = (24 : Int) ∨ _ = (44 : Int)› with e | e | e <;> (rw [e]; decide +kernel)) | omega); (case k8 => first | (rcases ‹_ = (10 : Int) ∨ _ = (24 : Int) ∨ _ = (44 : Int)› with e | e | e <;> (rw [e]; decide +kernel)) | omega); (case k9 => exact rfl); (case k10 => exact rfl); (case k11 => ktr_room); (case k12 => ktr_units)); intro D' h' tk' tq' tr' F' N' o'; (k_lt o'))
    | ((with_reducible show wpAny _ _ (call (Value.ref 56) _) _ _ _); (refine' enterP (ns := [Str.ofString "a", Str.ofString "b"]) ?k1 ?k2 ?k3 ?k4 ?k5 ?kA ?kF ?kK ?k6 ?k7 ?k8 ?k9 ?kB ?_ ?c2 ?c3 ?c4 ?c5; (case kA => exact rfl); (case kF => exact rfl); (case kK => exact rfl); (case k1 => k_asm); (case k2 => k_asm); (case k3 => k_asm); (case k4 => k_asm); (case k5 => k_asm); (case k6 => k_is); (case k7 => k_is); (case k8 => k_room); (case k9 => exact rfl); (case c5 => decide); (case kB => exact locs rfl); (case c2 => exact rfl); (case c3 => exact rfl); (case c4 => exact rfl)); intro gx Lx hh9 tkx FGx Fx Nx Bx Xx Tx; (try dsimp only); (try k_lift Bx); (try k_fold))
    | ((with_reducible show wpAny _ _ (call (Value.ref 42) _) _ _ _); (refine' enterC (ns := [Str.ofString "a", Str.ofString "n"]) ?k1 ?k2 ?k3 ?k4 ?k5 ?kA ?kF ?kK ?k6 ?k7 ?k8 ?k9 ?kB ?kD ?_ ?c2 ?c3 ?c4; (case kA => exact rfl); (case kF => exact rfl); (case kK => exact rfl); (case k1 => k_asm); (case k2 => k_asm); (case k3 => k_asm); (case k4 => k_asm); (case k5 => k_asm); (case k6 => k_is); (case k7 => k_is); (case k8 => k_room); (case k9 => exact rfl); (case kB => exact rfl); (case kD => decide +kernel); (case c2 => exact rfl); (case c3 => exact rfl); (case c4 => exact rfl)); intro gx Lx hh9 tkx cellsx FGx Fx Nx Yx Bx Xx Tx l1x; (try k_lt l1x); k_cells Yx; (try simp only [List.cons_append, List.nil_append] at Nx); (try dsimp only); (try k_lift Bx); (try k_fold))
    | ((with_reducible show wpAny _ _ (call (Value.ref 49) _) _ _ _); (refine' enterC (ns := [Str.ofString "digits", Str.ofString "n"]) ?k1 ?k2 ?k3 ?k4 ?k5 ?kA ?kF ?kK ?k6 ?k7 ?k8 ?k9 ?kB ?kD ?_ ?c2 ?c3 ?c4; (case kA => exact rfl); (case kF => exact rfl); (case kK => exact rfl); (case k1 => k_asm); (case k2 => k_asm); (case k3 => k_asm); (case k4 => k_asm); (case k5 => k_asm); (case k6 => k_is); (case k7 => k_is); (case k8 => k_room); (case k9 => exact rfl); (case kB => exact rfl); (case kD => decide +kernel); (case c2 => exact rfl); (case c3 => exact rfl); (case c4 => exact rfl)); intro gx Lx hh9 tkx cellsx FGx Fx Nx Yx Bx Xx Tx l1x; (try k_lt l1x); k_cells Yx; (try simp only [List.cons_append, List.nil_append] at Nx); (try dsimp only); (try k_lift Bx); (try k_fold))
    | ((refine' enterN (ns := [Str.ofString "x", Str.ofString "L", Str.ofString "R"]) ?k1 ?k2 ?k3 ?k4 ?k5 ?kA ?kF ?kK ?k6 ?k7 ?k8 ?k9 ?kB ?_ ?c2 ?c3 ?c4 ?c5; (case kA => exact rfl); (case kF => exact rfl); (case kK => exact rfl); (case k1 => k_asm); (case k2 => k_asm); (case k3 => k_asm); (case k4 => k_asm); (case k5 => k_asm); (case k6 => k_mem); (case k7 => exact codeRec_news (by k_asm) (by k_mem) (by assumption) (by assumption)); (case k8 => k_room); (case k9 => exact rfl); (case c5 => decide); (case kB => exact locs rfl); (case c2 => exact rfl); (case c3 => exact rfl); (case c4 => exact rfl)); intro gx Lx hh9 tkx FGx Fx Nx Bx Xx Tx; (try dsimp only); (try k_lift Bx); (try k_fold))
    | ((refine' enterN (ns := [Str.ofString "L", Str.ofString "R"]) ?k1 ?k2 ?k3 ?k4 ?k5 ?kA ?kF ?kK ?k6 ?k7 ?k8 ?k9 ?kB ?_ ?c2 ?c3 ?c4 ?c5; (case kA => exact rfl); (case kF => exact rfl); (case kK => exact rfl); (case k1 => k_asm); (case k2 => k_asm); (case k3 => k_asm); (case k4 => k_asm); (case k5 => k_asm); (case k6 => k_mem); (case k7 => exact codeRec_news (by k_asm) (by k_mem) (by assumption) (by assumption)); (case k8 => k_room); (case k9 => exact rfl); (case c5 => decide); (case kB => exact locs rfl); (case c2 => exact rfl); (case c3 => exact rfl); (case c4 => exact rfl)); intro gx Lx hh9 tkx FGx Fx Nx Bx Xx Tx; (try dsimp only); (try k_lift Bx); (try k_fold))); k_steps)
  refine' ret _ _ _ ?xtq ?xtr ?xq ?xr ?xF ?xN ?xe1 ?xe2 ?xn
  case xF => with_reducible assumption
  case xN =>
    rename Kept h₀ _ _ _ _ => kK9
    rename News h₀ _ _ _ => kN9
    refine' kK9.with (own_mem N hs) (news5 kN9 ?ya ?yb ?yc ?yd ?ye)
    case yb => k_mem
    case yc => k_mem
    case yd => k_mem
    case ye => k_mem
    case ya => k_mem
  case xe1 =>
    subst eq
    exact hx.elim (fun e => by rw [e]; decide +kernel) fun h => h.elim (fun e => by rw [e]; decide +kernel) (fun e => by rw [e]; decide +kernel)
  case xe2 =>
    subst er
    exact hx.elim (fun e => by rw [e]; decide +kernel) fun h => h.elim (fun e => by rw [e]; decide +kernel) (fun e => by rw [e]; decide +kernel)
  case xn =>
    rename News g' _ _ _ => gN9
    exact l'.2.ne (none_of gN9 (by k_mem)) (ne4 (by omega) (by omega) (by omega) (by omega))
end Mine
end
section
open PySem PySem.W PyProof.Rows PySem.Calls
set_option maxRecDepth 100000
namespace Mine
theorem bytes_len : typeLookup (.type "bytes") "__len__" = pure (some (.builtin "bytes.__len__")) := by rw [typeLookup_type, builtinLookup_eq_fast]; kernel_rfl
section
variable {prog : Program} {w : World} {A : Around} {E : Value → Shared → Prop} {s : Shared}
theorem extend_bytes {R : Result → Shared → Prop} (hh : A.handled = none) (x : Array UInt8) (t : Tok) (S : Addr) (res : Value) (c₀ : Nat) (hS : s.heap.get? S = some { cls := .type "list", data := .seq #[] c₀ })
    (hR : ∀ h' tk acc' c', (∀ b o, b ≠ S → s.heap.get? b = some o → h'.get? b = some o) → h'.get? S = some { cls := .type "list", dict := none, data := .seq acc' c', slots := #[] } →
      ItemsOf (fun i v => ∃ c u, x[i]? = some c ∧ v = .int (c.toNat : Int) u) acc' x.size → R (.ok (.ret res)) { s with heap := h', toks := tk }) (hn : x.size ≤ sizeLine) :
    wpAny (model prog w) A.in1 (Builtin.List.listExtendWith (.ref S) (.bytes x t) res)
      (fun fin s' => match fin with | .done f => R (.ok f) s' | .again c' => c'.quiet = true ∧ codeAny (model prog w) A c' R s') (fun e s' => R (.error e) s') s := by
  have hSI : S ≠ s.heap.objs.size := Nat.ne_of_lt (Heap.lt_size hS)
  have hSf : S ∉ [s.heap.objs.size] := fun hm => hSI (List.mem_singleton.mp hm)
  unfold Builtin.List.listExtendWith
  refine wpAny_bind (wpAny_typeOf (T := "bytes") (v := .bytes x t) rfl ?_)
  have h1 : Builtin.List.listSameRef (.ref S) (.bytes x t) = false := rfl
  have h2 : (Value.type "bytes" == Value.type "list") = false := by decide
  have h3 : (Value.type "bytes" == Value.type "tuple") = false := by decide
  simp only [h1, h2, h3, Bool.or_false, Bool.false_eq_true, if_false]
  refine wpAny_bind (KBw.pyIter_bytes ?_)
  have hst : KBw.IsBytesIter (s.heap.push { cls := .type "bytes_iterator", data := .fields #[.bytes x t, .int 0 0] }) s.heap.objs.size x t 0 := ⟨_, Heap.get?_push_size _ rfl, rfl, rfl⟩
  refine wpAny_bind (wpAny_holding ?_)
  unfold Builtin.List.listLengthHint
  refine wpAny_bind (wpAny_specialOf (T := "bytes") (v := .bytes x t) rfl bytes_len ?_)
  wp_delta
  refine wpAny_bind (wpAny_isInstance (T := "bytes") (v := .bytes x t) (b := true) rfl (by rw [isSubtype_type]; kernel_rfl) ?_)
  show wpAny _ _ (typeOf (Value.bytes x t) >>= _) _ _ _
  refine wpAny_bind (wpAny_typeOf (T := "bytes") (v := .bytes x t) rfl ?_)
  refine wpAny_pure ?_
  rw [if_neg (by decide)]
  refine wpAny_pure ⟨plainId_quiet F.plain_extend_loop _, codeAny_extend_loopS (A := A) (n := x.size) (I := s.heap.objs.size) (KBw.walks (A := A.in1) hh s.heap.objs.size x t).toS hn S hSf _ x.size 0 _ _ _ rfl (Nat.zero_le _) hst (Heap.get?_push_of_some _ hS) (ItemsOf.nil _) fun s' acc' c' hm hS' hacc => ?_⟩
  rw [Moved.eq_with hm]
  refine hR s'.heap s'.toks acc' c' (fun b ob hb e => hm.heap b ob (fun hmem => ?_) (Heap.get?_push_of_some _ e)) hS' hacc
  rcases List.mem_cons.mp hmem with e' | hmem
  · exact hb e'
  · exact absurd (Heap.lt_size e) (by rw [List.mem_singleton.mp hmem]; exact Nat.lt_irrefl _)
theorem list_init_bytes {R : Result → Shared → Prop} (hh : A.handled = none) (x : Array UInt8) (t : Tok) (S : Addr) (hS : s.heap.get? S = some { cls := .type "list", data := .seq #[] })
    (hR : ∀ h' tk acc' c', (∀ b o, b ≠ S → s.heap.get? b = some o → h'.get? b = some o) → h'.get? S = some { cls := .type "list", dict := none, data := .seq acc' c', slots := #[] } →
      ItemsOf (fun i v => ∃ c u, x[i]? = some c ∧ v = .int (c.toNat : Int) u) acc' x.size → R (.ok (.ret .none)) { s with heap := h', toks := tk }) (hn : x.size ≤ sizeLine) :
    wpAny (model prog w) A.in1 (Builtin.«list.__init__» ⟨[.ref S, .bytes x t], []⟩)
      (fun fin s' => match fin with | .done f => R (.ok f) s' | .again c' => c'.quiet = true ∧ codeAny (model prog w) A c' R s') (fun e s' => R (.error e) s') s := by
  show wpAny _ _ (do let old ← Builtin.List.listItems (.ref S); Builtin.List.listUpdate (.ref S) (fun _ => #[]); letGo old.toList.reverse; Builtin.List.listExtendWith (.ref S) (.bytes x t) .none) _ _ s
  refine wpAny_bind ?_
  unfold Builtin.List.listItems
  refine wpAny_bind (wpAny_seqItems hS rfl (wpAny_pure ?_))
  show wpAny _ _ (updateSeq S (fun _ => #[]) >>= fun _ => letGo (#[] : Array Value).toList.reverse >>= fun _ => Builtin.List.listExtendWith (.ref S) (.bytes x t) .none) _ _ s
  refine wpAny_bind (wpAny_updateSeq hS rfl ?_)
  have hS₂ := Heap.get?_update_self (Obj.mapSeq (fun _ => (#[] : Array Value))) hS rfl
  have oth : ∀ b o, b ≠ S → s.heap.get? b = some o → (s.heap.update S (Obj.mapSeq (fun _ => (#[] : Array Value)))).get? b = some o :=
    fun b o hb e => (Heap.get?_update_other _ _ (Ne.symm hb)).trans e
  refine wpAny_bind (wpAny_letGo ?_)
  refine extend_bytes hh x t S .none _ hS₂ (fun h' tk acc' c' hk hS' hacc => ?_) hn
  exact hR h' tk acc' c' (fun b o hb e => hk b o hb (oth b o hb e)) hS' hacc
theorem call_list_bytes {Q : Value → Shared → Prop} (hh : A.handled = none) (x : Array UInt8) (t : Tok)
    (hQ : ∀ h' tk acc' c', (∀ b o, s.heap.get? b = some o → h'.get? b = some o) →
      h'.get? s.heap.objs.size = some { cls := .type "list", dict := none, data := .seq acc' c', slots := #[] } → ItemsOf (fun i v => ∃ c u, x[i]? = some c ∧ v = .int (c.toNat : Int) u) acc' x.size → Q (.ref s.heap.objs.size) { s with heap := h', toks := tk }) (hn : x.size ≤ sizeLine) :
    wpAny (model prog w) A (call (.type "list") [.bytes x t]) Q E s := by
  refine callType_codes (Q₁ := fun obj s₁ => obj = .ref s.heap.objs.size ∧ s₁ = { s with heap := s.heap.push { cls := .type "list", data := .seq #[] } }) F.called_list (F.typeCall_list_1 _) F.entry_list_init
    (code_list_new _ ⟨rfl, rfl⟩) fun obj s₁ h₁ => ?_
  obtain ⟨rfl, rfl⟩ := h₁
  have hS : (s.heap.push { cls := .type "list", data := .seq #[] }).get? s.heap.objs.size = some { cls := .type "list", data := .seq #[] } := Heap.get?_push_size _ rfl
  refine ⟨⟨_, hS, rfl⟩, F.args_list_init_2 _ _, list_init_bytes (A := A.in1) hh x t _ hS (fun h' tk acc' c' hk hS' hacc => ?_) hn⟩
  exact ⟨rfl, hQ h' tk acc' c' (fun b o e => hk b o (Nat.ne_of_lt (Heap.lt_size e)) (Heap.get?_push_of_some _ e)) hS' hacc⟩
end
/-- a list of the bytes' numbers -/
def NumsOf (l : List UInt8) (ys : List Value) : Prop := ys.length = l.length ∧ ∀ i : Nat, ∀ v, ys[i]? = some v → ∃ c u, l[i]? = some c ∧ v = Value.int (c.toNat : Int) u
section
variable {prog : Program} {w : World} {A : Around} {E : Value → Shared → Prop} {s : Shared} {h₀ : Heap} {L : Addr} {m : Str → Option Value} {news : List (Addr × Obj)}
theorem list_bytes_N {x : Array UInt8} {t : Tok} {Q : Value → Shared → Prop} (F : Fr h₀ L s.heap m) (N : News h₀ L s.heap news) (hh : A.handled = none) (hn : x.size ≤ 1000)
    (hQ : ∀ D h' tk ys c, Fr h₀ L h' m → News h₀ L h' ((D, listOf ys.toArray c) :: news) → (∀ p ∈ news, p.1 < D) → NumsOf x.toList ys → Q (.ref D) { s with heap := h', toks := tk }) :
    wpAny (model prog w) A (call (.type "list") [.bytes x t]) Q E s := by
  refine call_list_bytes hh x t (fun h' tk acc' c' hk hS' hacc => ?_) (by rw [sizeLine_eq]; omega)
  refine hQ s.heap.objs.size h' tk acc'.toList c' (F.keeps hk) (fun p hp => ?_) (fun p hp => Heap.lt_size (N p hp).1) ⟨by simp [hacc.1], fun i v hv => ?_⟩
  · rcases List.mem_cons.mp hp with rfl | hp
    · refine ⟨by rw [Array.toArray_toList]; exact hS', (by obtain ⟨oL, _, _, hL, _⟩ := F.ns; exact Nat.ne_of_gt (Heap.lt_size hL)), ?_⟩
      cases e : h₀.get? s.heap.objs.size with
      | none => rfl
      | some o => exact absurd (Heap.lt_size (F.keep _ _ e)) (Nat.lt_irrefl _)
    · exact ⟨hk _ _ (N p hp).1, (N p hp).2⟩
  · obtain ⟨c, u, h1, h2⟩ := hacc.2 i v (by simpa using hv)
    exact ⟨c, u, by simpa using h1, h2⟩
end
theorem NumsOf.ints : ∀ {l : List UInt8} {ys : List Value}, NumsOf l ys → IntsAre ys (l.map fun c => (c.toNat : Int))
  | [], [], _ => .nil
  | [], _ :: _, h => nomatch h.1
  | _ :: _, [], h => nomatch h.1
  | a :: l, y :: ys, h => by
    obtain ⟨c, u, e1, e2⟩ := h.2 0 y rfl
    cases e1
    subst e2
    exact .cons _ u (NumsOf.ints (l := l) (ys := ys) ⟨Nat.succ.inj h.1, fun i v hv => h.2 (i + 1) v hv⟩)
theorem ints6 {ys : List Value} {a b c d e f : Int} (h : IntsAre ys [a, b, c, d, e, f]) : ∃ t1 t2 t3 t4 t5 t6, ys = [.int a t1, .int b t2, .int c t3, .int d t4, .int e t5, .int f t6] := by
  obtain ⟨t1, _, rfl, h1⟩ := h.cons_inv
  obtain ⟨t2, _, rfl, h2⟩ := h1.cons_inv
  obtain ⟨t3, _, rfl, h3⟩ := h2.cons_inv
  obtain ⟨t4, _, rfl, h4⟩ := h3.cons_inv
  obtain ⟨t5, _, rfl, h5⟩ := h4.cons_inv
  obtain ⟨t6, _, rfl, h6⟩ := h5.cons_inv
  cases h6
  exact ⟨t1, t2, t3, t4, t5, t6, rfl⟩
theorem ints8 {ys : List Value} {a b c d e f g i : Int} (h : IntsAre ys [a, b, c, d, e, f, g, i]) : ∃ t1 t2 t3 t4 t5 t6 t7 t8, ys = [.int a t1, .int b t2, .int c t3, .int d t4, .int e t5, .int f t6, .int g t7, .int i t8] := by
  obtain ⟨t1, _, rfl, h1⟩ := h.cons_inv
  obtain ⟨t2, _, rfl, h2⟩ := h1.cons_inv
  obtain ⟨t3, t4, t5, t6, t7, t8, rfl⟩ := ints6 h2
  exact ⟨t1, t2, t3, t4, t5, t6, t7, t8, rfl⟩
theorem nums_as {l : List UInt8} {ys : List Value} {ns : List Int} (h : NumsOf l ys) (e : (l.map fun c => (c.toNat : Int)) = ns) : IntsAre ys ns := e ▸ h.ints
end Mine
end
section
open PySem PySem.W PyProof.Rows PySem.Calls
set_option maxRecDepth 100000
namespace Mine
section
variable {prog : Program} {w : World} {A : Around} {E : Value → Shared → Prop} {s : Shared} {h₀ : Heap} {L : Addr} {m : Str → Option Value} {news : List (Addr × Obj)}
theorem sum_range_N {r : Addr} {a b z : Int} {n : Nat} {t u v : Tok} {Q : Value → Shared → Prop} (F : Fr h₀ L s.heap m) (N : News h₀ L s.heap news) (hh : A.handled = none) (hr : IsRange s.heap r a b 1 t u v)
    (hs : Builtin.Range.small a b 1 = true) (hn : Builtin.Range.rangeSize a b 1 = (n : Int)) (hz : preSum (fun j => a + (j : Int) * 1) n = z)
    (h : ∀ h' t' k, Fr h₀ L h' m → News h₀ L h' news → Q (.int z t') { s with heap := h', toks := k }) : wpAny (model prog w) A (call (.builtin "sum") [.ref r]) Q E s := by
  refine call_sum_walkG (wpAny_pyIter_range hr hs ?_)
  refine ⟨s.heap.objs.size, [s.heap.objs.size], [s.heap.objs.size], n, _, _, fun j => a + (j : Int) * 1, rfl, Walks.range (A := A.in1) hh s.heap.objs.size a 1 n, ?_, ?_, ?_, ?_⟩
  · show IsRangeIter _ _ _ _ _
    rw [hn]; simpa using Heap.get?_push_size _ rfl
  · intro x hx
    rw [List.mem_singleton.mp hx]
    exact Heap.lt_size (Heap.get?_push_size _ rfl)
  · intro i v h; exact h
  · intro h' tk t' hk'
    rw [hz]
    have keep : ∀ a o, s.heap.get? a = some o → h'.get? a = some o := fun a o ha => hk' a o (fun hm => absurd (Heap.lt_size ha) (by rw [List.mem_singleton.mp hm]; exact Nat.lt_irrefl _)) (Heap.get?_push_of_some _ ha)
    exact h h' t' tk (F.keptAll keep) (N.grown keep)
theorem index_N {D : Addr} {vs : List Value} {ns : List Int} {k : Int} {n : Nat} {t : Tok} {Q : Value → Shared → Prop} (N : News h₀ L s.heap news) (hm : (D, listOf vs.toArray n) ∈ news) (hi : IntsAre vs ns) (hlay : PyData.layable0 (.list (ns.map .int)) = true) (hk : k ∈ ns)
    (h : Q (.int (ns.idxOf k : Nat) s.toks) { s with toks := s.toks + 1 }) : wpAny (model prog w) A (call (.builtin "list.index") [.ref D, .int k t]) Q E s :=
  index_list_ints (News.isList N hm) hi hlay hk h
end
def intsOf : List Value → Option (List Int)
  | [] => some []
  | .int n _ :: vs => match intsOf vs with
    | some ns => some (n :: ns)
    | none => none
  | _ => none
theorem ints_lit : ∀ {vs : List Value} {ns : List Int}, intsOf vs = some ns → IntsAre vs ns
  | [], _, h => by cases h; exact .nil
  | .int n t :: vs, ns, h => by
    unfold intsOf at h
    cases e : intsOf vs with
    | none => rw [e] at h; cases h
    | some ms => rw [e] at h; cases h; exact .cons n t (ints_lit e)
theorem mem_lt {ns : List Int} {k : Int} {m : Nat} (h1 : 1 ≤ k) (h2 : k < 1 + (m : Int)) (d : (List.range m).all (fun i => ns.contains ((i : Int) + 1)) = true) : k ∈ ns := by
  have := List.all_eq_true.mp d (k - 1).toNat (List.mem_range.mpr (by omega))
  rw [show (((k - 1).toNat : Nat) : Int) + 1 = k by omega] at this
  simpa using this
theorem mem_le {ns : List Int} {k : Int} (n : Nat) (h1 : 1 ≤ k) (h2 : k ≤ (n : Int)) (d : (List.range n).all (fun i => ns.contains ((i : Int) + 1)) = true) : k ∈ ns := by
  have := List.all_eq_true.mp d (k - 1).toNat (List.mem_range.mpr (by omega))
  rw [show (((k - 1).toNat : Nat) : Int) + 1 = k by omega] at this
  simpa using this
end Mine
end
section
open PySem PySem.W PyProof.Rows
set_option maxRecDepth 100000
namespace Mine
/-- where a row holds a kind -/
def vv (bs : List UInt8) (j : Int) : List Bool := bs.map fun b => decide ((b.toNat : Int) = j)
def okv (v : List Bool) (j : Int) : Bool :=
  let p : List Int := List.foldl (fun l' k' => if v.getD k'.toNat false = true then l' ++ [k'] else l') [] (rangeKs 0 v.length)
  p.length == 2 && p.getD 1 0 - p.getD 0 0 - 1 == j
theorem vv_getD (bs : List UInt8) {j : Int} (hj : 1 ≤ j) (i : Nat) : (vv bs j).getD i false = decide (((bs.getD i 0).toNat : Int) = j) := by
  unfold vv
  rw [List.getD_eq_getElem?_getD, List.getD_eq_getElem?_getD, List.getElem?_map]
  cases bs[i]? with
  | none =>
    show false = decide _
    rw [eq_comm, decide_eq_false_iff_not]
    show ¬ (0 : Int) = j
    omega
  | some b => rfl
theorem okk_okv (bs : List UInt8) {j : Int} (hj : 1 ≤ j) : okk bs j = okv (vv bs j) j := by
  have e : (fun (l' : List Int) (k' : Int) => if (vv bs j).getD k'.toNat false = true then l' ++ [k'] else l') = fun l' k' => if ((bs.getD k'.toNat 0).toNat : Int) = j then l' ++ [k'] else l' := by
    funext l' k'
    rw [vv_getD bs hj]
    by_cases h : ((bs.getD k'.toNat 0).toNat : Int) = j
    · rw [if_pos h, if_pos (decide_eq_true h)]
    · rw [if_neg h, if_neg (by rw [decide_eq_false h]; decide)]
  have n : (vv bs j).length = bs.length := List.length_map ..
  unfold okk okv
  rw [e, n]
  show _ = (let p := plc bs bs.length j; p.length == 2 && p.getD 1 0 - p.getD 0 0 - 1 == j)
  rfl
def allV : Nat → List (List Bool)
  | 0 => [[]]
  | n + 1 => (allV n).flatMap fun v => [true :: v, false :: v]
theorem mem_allV : ∀ v : List Bool, v ∈ allV v.length
  | [] => .head _
  | b :: v => List.mem_flatMap.mpr ⟨v, mem_allV v, by cases b <;> simp⟩
def cands (n : Nat) (j : Int) : List (List Bool) := (allV n).filter (okv · j)
def mix : List Bool → List Bool → List Bool → List UInt8
  | a :: as, b :: bs, c :: cs => (if a then 1 else if b then 2 else if c then 3 else 4) :: mix as bs cs
  | _, _, _ => []
def disj : List Bool → List Bool → Bool
  | a :: as, b :: bs => !(a && b) && disj as bs
  | _, _ => true
theorem mix_vv : ∀ {bs : List UInt8}, (∀ x ∈ bs, 1 ≤ x.toNat ∧ x.toNat ≤ 4) → mix (vv bs 1) (vv bs 2) (vv bs 3) = bs
  | [], _ => rfl
  | b :: bs, h => by
    have hb := h b (.head _)
    have ih := mix_vv (bs := bs) fun x hx => h x (.tail _ hx)
    show (if decide ((b.toNat : Int) = 1) = true then (1 : UInt8) else if decide ((b.toNat : Int) = 2) = true then 2 else if decide ((b.toNat : Int) = 3) = true then 3 else 4) :: mix (vv bs 1) (vv bs 2) (vv bs 3) = b :: bs
    rw [ih]
    congr 1
    have : b.toNat = 1 ∨ b.toNat = 2 ∨ b.toNat = 3 ∨ b.toNat = 4 := by omega
    rcases this with e | e | e | e <;> (rw [e]; exact (UInt8.toNat_inj.mp e).symm)
theorem disj_vv {i j : Int} (h : i ≠ j) : ∀ bs : List UInt8, disj (vv bs i) (vv bs j) = true
  | [] => rfl
  | b :: bs => by
    show (!(decide ((b.toNat : Int) = i) && decide ((b.toNat : Int) = j)) && disj (vv bs i) (vv bs j)) = true
    rw [disj_vv h bs, Bool.and_true]
    by_cases e : (b.toNat : Int) = i
    · rw [decide_eq_false (p := (b.toNat : Int) = j) (fun q => h (e.symm.trans q)), Bool.and_false]; rfl
    · rw [decide_eq_false e, Bool.false_and]; rfl
theorem mem_cands {bs : List UInt8} {n k : Nat} {j : Int} (hl : bs.length = n) (g : goodB bs k = true) (h1 : 1 ≤ j) (h2 : j ≤ k) : vv bs j ∈ cands n j := by
  refine List.mem_filter.mpr ⟨?_, ?_⟩
  · have := mem_allV (vv bs j)
    rwa [show (vv bs j).length = n from (List.length_map ..).trans hl] at this
  · rw [← okk_okv bs h1]
    cases e : okk bs j with
    | true => rfl
    | false => have := good_no e h1 h2; rw [g] at this; cases this
theorem chk1 : cands 2 1 = [] := by decide +kernel
theorem chk2 : (cands 4 2).all (fun v2 => (cands 4 1).all fun v1 => !disj v2 v1) = true := by decide +kernel
theorem chk3 : (cands 6 3).all (fun v3 => (cands 6 2).all fun v2 => !disj v3 v2 || (cands 6 1).all fun v1 => !(disj v3 v1 && disj v2 v1) ||
    ([3,1,2,1,3,2] == mix v1 v2 v3 || ([2,3,1,2,1,3] == mix v1 v2 v3 || false))) = true := by decide +kernel
theorem chk4 : (cands 8 4).all (fun v4 => (cands 8 3).all fun v3 => !disj v4 v3 || (cands 8 2).all fun v2 => !(disj v4 v2 && disj v3 v2) || (cands 8 1).all fun v1 => !(disj v4 v1 && (disj v3 v1 && disj v2 v1)) ||
    ([4,1,3,1,2,4,3,2] == mix v1 v2 v3 || ([2,3,4,2,1,3,1,4] == mix v1 v2 v3 || false))) = true := by decide +kernel
theorem or_of {a b : Bool} (h : (!a || b) = true) (ha : a = true) : b = true := by rw [ha] at h; exact h
theorem plain1 {bs : List UInt8} (hl : bs.length = 2) : goodB bs 1 = false := by
  cases g : goodB bs 1 with
  | false => rfl
  | true => have := mem_cands (j := 1) hl g (by decide) (by decide); rw [chk1] at this; cases this
theorem plain2 {bs : List UInt8} (hl : bs.length = 4) : goodB bs 2 = false := by
  cases g : goodB bs 2 with
  | false => rfl
  | true =>
    have h := List.all_eq_true.mp (List.all_eq_true.mp chk2 _ (mem_cands (j := 2) hl g (by decide) (by decide))) _ (mem_cands (j := 1) hl g (by decide) (by decide))
    rw [disj_vv (by decide)] at h; cases h
theorem plain3 {bs : List UInt8} (hl : bs.length = 6) (hx : ∀ x ∈ bs, 1 ≤ x.toNat ∧ x.toNat ≤ 4) : goodB bs 3 = ([3,1,2,1,3,2] == bs || ([2,3,1,2,1,3] == bs || false)) := by
  cases g : goodB bs 3 with
  | true =>
    have h := or_of (List.all_eq_true.mp (List.all_eq_true.mp chk3 _ (mem_cands (j := 3) hl g (by decide) (by decide))) _ (mem_cands (j := 2) hl g (by decide) (by decide))) (disj_vv (by decide) bs)
    have h := or_of (List.all_eq_true.mp h _ (mem_cands (j := 1) hl g (by decide) (by decide))) (by rw [disj_vv (by decide), disj_vv (by decide)]; rfl)
    rw [mix_vv hx] at h
    exact h.symm
  | false =>
    cases e : ([3,1,2,1,3,2] == bs || ([2,3,1,2,1,3] == bs || false)) with
    | false => rfl
    | true =>
      rw [Bool.or_false, Bool.or_eq_true, beq_iff_eq, beq_iff_eq] at e
      rcases e with e | e <;> (subst e; revert g; decide +kernel)
theorem plain4 {bs : List UInt8} (hl : bs.length = 8) (hx : ∀ x ∈ bs, 1 ≤ x.toNat ∧ x.toNat ≤ 4) : goodB bs 4 = ([4,1,3,1,2,4,3,2] == bs || ([2,3,4,2,1,3,1,4] == bs || false)) := by
  cases g : goodB bs 4 with
  | true =>
    have h := or_of (List.all_eq_true.mp (List.all_eq_true.mp chk4 _ (mem_cands (j := 4) hl g (by decide) (by decide))) _ (mem_cands (j := 3) hl g (by decide) (by decide))) (disj_vv (by decide) bs)
    have h := or_of (List.all_eq_true.mp h _ (mem_cands (j := 2) hl g (by decide) (by decide))) (by rw [disj_vv (by decide), disj_vv (by decide)]; rfl)
    have h := or_of (List.all_eq_true.mp h _ (mem_cands (j := 1) hl g (by decide) (by decide))) (by rw [disj_vv (by decide), disj_vv (by decide), disj_vv (by decide)]; rfl)
    rw [mix_vv hx] at h
    exact h.symm
  | false =>
    cases e : ([4,1,3,1,2,4,3,2] == bs || ([2,3,4,2,1,3,1,4] == bs || false)) with
    | false => rfl
    | true =>
      rw [Bool.or_false, Bool.or_eq_true, beq_iff_eq, beq_iff_eq] at e
      rcases e with e | e <;> (subst e; revert g; decide +kernel)
/-- the bytes that are drawn -/
theorem drawn_le {ns : List Int} {k : Int} (h1 : 1 ≤ k) (h4 : k ≤ 4) : ∀ x ∈ (ns.map fun k' => 1 + k'.fmod k).map fun n => n.toNat.toUInt8, 1 ≤ x.toNat ∧ x.toNat ≤ 4 := by
  intro x hx
  obtain ⟨n, hn, rfl⟩ := List.mem_map.mp hx
  obtain ⟨y, _, rfl⟩ := List.mem_map.mp hn
  have a := Int.emod_nonneg y (show k ≠ 0 by omega)
  have b := Int.emod_lt_of_pos y (show 0 < k by omega)
  rw [Int.fmod_eq_emod_of_nonneg _ (by omega)]
  have c : ((1 + y % k).toNat.toUInt8).toNat = (1 + y % k).toNat % 256 := by first | rfl | simp | exact UInt8.toNat_ofNat' ..
  rw [c]; omega
end Mine
end
section
open PySem PySem.W PyProof.Rows PySem.Calls
set_option maxRecDepth 100000
namespace Mine
/-- the rows that are found -/
def RowsOf (ki : Int) (vs : List Value) : Prop :=
  (ki = 1 ∧ vs = []) ∨ (ki = 2 ∧ vs = []) ∨ (ki = 3 ∧ ∃ t u, vs = [.bytes [3,1,2,1,3,2].toArray t, .bytes [2,3,1,2,1,3].toArray u]) ∨
  (ki = 4 ∧ ∃ t u, vs = [.bytes [4,1,3,1,2,4,3,2].toArray t, .bytes [2,3,4,2,1,3,1,4].toArray u])
/-- how the addresses lie -/
def Apart (L r c1 c2 : Addr) : Prop := (@LT.lt Nat _ 44 L ∧ @LT.lt Nat _ 37 L ∧ @LT.lt Nat _ 44 c2 ∧ @LT.lt Nat _ 37 c2 ∧ @LT.lt Nat _ c2 c1 ∧ @Ne Nat r 44 ∧ @Ne Nat r 37 ∧ @Ne Nat r c1 ∧ @Ne Nat r c2 ∧ @Ne Nat r (L + 1) ∧ @Ne Nat r (L + 1 + 1)) ∧
  @Ne Nat c1 (L + 1) ∧ @Ne Nat c1 (L + 1 + 1) ∧ @Ne Nat c2 (L + 1) ∧ @Ne Nat c2 (L + 1 + 1)
/-- the ledger of the law between its parts -/
abbrev lawNews (L r : Addr) (n : Nat) (vs : List Value) (c1 c2 : Addr) (o1 o2 oK oR : Obj) : List (Addr × Obj) :=
  [(r, listOf vs.toArray n), (44, tab44 c1), (37, tab37 c2), (c1, o1), (c2, o2), (L + 1 + 1, oR), (L + 1, oK)]
/-- what stands when the rows are found and the tests of their number are done -/
def Mid (sb : Shared) (h₀ : Heap) (L : Addr) (m0 : Str → Option Value) (s : Shared) : Prop := ∃ (ki : Int) (r : Addr) (n : Nat) (vs : List Value) (t : Tok) (c1 c2 : Addr) (o1 o2 oK oR : Obj) (h : Heap) (tk : Nat),
  s = { sb with heap := h, toks := tk } ∧ RowsOf ki vs ∧ Fr h₀ L h (fun y => if y = Str.ofString "rows" then some (.ref r) else m0 y) ∧ News h₀ L h (lawNews L r n vs c1 c2 o1 o2 oK oR) ∧
  oK.data = .cell (some (.int ki t)) ∧ oR.data = .cell none ∧ Apart L r c1 c2
/-- what stands when the loop over the rows is done -/
def Mid2 (sb : Shared) (h₀ : Heap) (L : Addr) (m0 : Str → Option Value) (s : Shared) : Prop := ∃ (ki : Int) (r : Addr) (n : Nat) (vs : List Value) (t : Tok) (c1 c2 : Addr) (o1 o2 oK oR : Obj) (vf vt : Option Value) (h : Heap) (tk : Nat),
  s = { sb with heap := h, toks := tk } ∧ RowsOf ki vs ∧ Fr h₀ L h (fun y => if y = Str.ofString "firsts" then vf else if y = Str.ofString "turned" then vt else if y = Str.ofString "rows" then some (.ref r) else m0 y) ∧ News h₀ L h (lawNews L r n vs c1 c2 o1 o2 oK oR) ∧
  oK.data = .cell (some (.int ki t)) ∧ Apart L r c1 c2
theorem fr_mid2 {h₀ h : Heap} {L r : Addr} {m m0 : Str → Option Value} (F : Fr h₀ L h m) (hr : m (Str.ofString "rows") = some (.ref r)) (h0 : ∀ z, z ≠ Str.ofString "firsts" → z ≠ Str.ofString "turned" → z ≠ Str.ofString "rows" → m z = m0 z) :
    Fr h₀ L h (fun y => if y = Str.ofString "firsts" then m (Str.ofString "firsts") else if y = Str.ofString "turned" then m (Str.ofString "turned") else if y = Str.ofString "rows" then some (.ref r) else m0 y) := fr_cong F fun z => by
  by_cases a : z = Str.ofString "firsts"
  · rw [if_pos a, a]
  · by_cases b : z = Str.ofString "turned"
    · rw [if_neg a, if_pos b, b]
    · by_cases c : z = Str.ofString "rows"
      · rw [if_neg a, if_neg b, if_pos c, c, hr]
      · rw [if_neg a, if_neg b, if_neg c, h0 z a b c]
theorem use8 {h₀ h' : Heap} {L : Addr} {news : List (Addr × Obj)} {G : Prop} {a b c d e f g i : Addr × Obj} (N : News h₀ L h' news) (ha : a ∈ news) (hb : b ∈ news) (hc : c ∈ news) (hd : d ∈ news) (he : e ∈ news) (hf : f ∈ news) (hg : g ∈ news) (hi : i ∈ news)
    (k : News h₀ L h' [a, b, c, d, e, f, g, i] → G) : G := k fun p hp => by
  simp only [List.mem_cons, List.not_mem_nil, or_false] at hp
  rcases hp with rfl | rfl | rfl | rfl | rfl | rfl | rfl | rfl
  · exact N _ ha
  · exact N _ hb
  · exact N _ hc
  · exact N _ hd
  · exact N _ he
  · exact N _ hf
  · exact N _ hg
  · exact N _ hi
theorem use7 {h₀ h' : Heap} {L : Addr} {news : List (Addr × Obj)} {G : Prop} {a b c d e f g : Addr × Obj} (N : News h₀ L h' news) (ha : a ∈ news) (hb : b ∈ news) (hc : c ∈ news) (hd : d ∈ news) (he : e ∈ news) (hf : f ∈ news) (hg : g ∈ news)
    (k : News h₀ L h' [a, b, c, d, e, f, g] → G) : G := use8 N ha ha hb hc hd he hf hg fun M => k fun p hp => M p (.tail _ hp)
theorem eq_yes {prog : Program} {w : World} {A : Around} {E : Value → Shared → Prop} {s : Shared} {a b : Bool} {Q : Value → Shared → Prop} (e : a = b) (h : Q (.bool true) s) : wpAny (model prog w) A (compareOp .Eq (.bool a) (.bool b)) Q E s :=
  eq_bool (by rw [e, beq_self_eq_true]; exact h)
theorem drawn_len {ws zs : List Int} {m : Nat} (hz : zs.length = 8) (hm : m ≤ 8) : (List.take m (ws ++ zs)).length = m := by
  rw [List.length_take, List.length_append, hz]; omega
def RA (L r : Addr) : Prop := r ≠ 44 ∧ r ≠ 37 ∧ r ≠ L + 1 ∧ r ≠ L + 1 + 1
def DA (L r c1 c2 : Addr) : Prop := (@LT.lt Nat _ 44 c2 ∧ @LT.lt Nat _ c2 c1) ∧ (r ≠ c1 ∧ r ≠ c2) ∧ (c1 ≠ L + 1 ∧ c1 ≠ L + 1 + 1) ∧ c2 ≠ L + 1 ∧ c2 ≠ L + 1 + 1
theorem ra_of {h₀ h : Heap} {L r : Addr} {m : Str → Option Value} {news : List (Addr × Obj)} {a b c d : Obj} (_F : Fr h₀ L h m) (o : ∀ q ∈ news, q.1 ≠ r) (m1 : (44, a) ∈ news) (m2 : (37, b) ∈ news) (m3 : (L + 1 + 1, c) ∈ news) (m4 : (L + 1, d) ∈ news) : RA L r :=
  ⟨fun e => o _ m1 e.symm, fun e => o _ m2 e.symm, fun e => o _ m4 e.symm, fun e => o _ m3 e.symm⟩
theorem da_of {L r c1 c2 D : Addr} {news : List (Addr × Obj)} {a c d : Obj} (_R : RA L r) (n1 : ∀ q ∈ news, @Ne Nat q.1 c1) (n2 : ∀ q ∈ news, @Ne Nat q.1 c2) (t : @LT.lt Nat _ 44 c2 ∧ @LT.lt Nat _ c2 c1 ∧ @LT.lt Nat _ c1 D)
    (m1 : (r, a) ∈ news) (m3 : (L + 1 + 1, c) ∈ news) (m4 : (L + 1, d) ∈ news) : DA L r c1 c2 :=
  ⟨⟨t.1, t.2.1⟩, ⟨n1 _ m1, n2 _ m1⟩, ⟨fun e => n1 _ m4 e.symm, fun e => n1 _ m3 e.symm⟩, fun e => n2 _ m4 e.symm, fun e => n2 _ m3 e.symm⟩
theorem ra_then {G : Prop} {h₀ h : Heap} {L r : Addr} {m : Str → Option Value} {news : List (Addr × Obj)} {a b c d : Obj} (F : Fr h₀ L h m) (o : ∀ q ∈ news, q.1 ≠ r) (m1 : (44, a) ∈ news) (m2 : (37, b) ∈ news) (m3 : (L + 1 + 1, c) ∈ news) (m4 : (L + 1, d) ∈ news) (k : RA L r → G) : G := k (ra_of F o m1 m2 m3 m4)
theorem da_then {G : Prop} {L r c1 c2 D : Addr} {news : List (Addr × Obj)} {a c d : Obj} (R : RA L r) (n1 : ∀ q ∈ news, @Ne Nat q.1 c1) (n2 : ∀ q ∈ news, @Ne Nat q.1 c2) (t : @LT.lt Nat _ 44 c2 ∧ @LT.lt Nat _ c2 c1 ∧ @LT.lt Nat _ c1 D)
    (m1 : (r, a) ∈ news) (m3 : (L + 1 + 1, c) ∈ news) (m4 : (L + 1, d) ∈ news) (k : DA L r c1 c2 → G) : G := k (da_of R n1 n2 t m1 m3 m4)
theorem ra_two {L r : Addr} (R : RA L r) : @Ne Nat r 44 ∧ @Ne Nat r 37 := ⟨R.1, R.2.1⟩
theorem ap3 {L r c1 c2 : Addr} (A : Apart L r c1 c2) : @Ne Nat r (L + 1 + 1) ∧ @Ne Nat c1 (L + 1 + 1) ∧ @Ne Nat c2 (L + 1 + 1) := ⟨A.1.2.2.2.2.2.2.2.2.2.2, A.2.2.1, A.2.2.2.2⟩
theorem drop9 {G : Prop} {h₀ h : Heap} {L r c1 c2 : Addr} {news : List (Addr × Obj)} {D : Addr × Obj} (_R : RA L r) (_D : DA L r c1 c2) (N : News h₀ L h (D :: news)) {ox oa ob oc od oe of : Obj}
    (m1 : (r, ox) ∈ news) (m2 : (44, oa) ∈ news) (m3 : (37, ob) ∈ news) (m4 : (c1, oc) ∈ news) (m5 : (c2, od) ∈ news) (m6 : (L + 1 + 1, oe) ∈ news) (m7 : (L + 1, of) ∈ news)
    (k : News h₀ L h [D, (r, ox), (44, oa), (37, ob), (c1, oc), (c2, od), (L + 1 + 1, oe), (L + 1, of)] → G) : G := k fun p hp => by
  simp only [List.mem_cons, List.not_mem_nil, or_false] at hp
  rcases hp with rfl | rfl | rfl | rfl | rfl | rfl | rfl | rfl
  · exact N _ (.head _)
  · exact N _ (.tail _ m1)
  · exact N _ (.tail _ m2)
  · exact N _ (.tail _ m3)
  · exact N _ (.tail _ m4)
  · exact N _ (.tail _ m5)
  · exact N _ (.tail _ m6)
  · exact N _ (.tail _ m7)
theorem join9 {G : Prop} {h₀ h : Heap} {L r c1 c2 : Addr} {news : List (Addr × Obj)} {D : Addr × Obj} {a b a' b' oc od ox oe of : Obj} (R : RA L r) (l : @LT.lt Nat _ 44 L ∧ @LT.lt Nat _ 37 L) (N : News h₀ L h [D, (c1, oc), (c2, od), (44, a'), (37, b')]) (K : Kept h₀ L [(44, a), (37, b)] news h)
    (m1 : (r, ox) ∈ news) (m6 : (L + 1 + 1, oe) ∈ news) (m7 : (L + 1, of) ∈ news)
    (k : News h₀ L h [D, (r, ox), (44, a'), (37, b'), (c1, oc), (c2, od), (L + 1 + 1, oe), (L + 1, of)] → G) : G := k fun p hp => by
  have off : ∀ q : Addr, q ≠ 44 → q ≠ 37 → q ∉ [((44 : Addr), a), (37, b)].map (·.1) := fun q h1 h2 h3 => by
    simp only [List.map_cons, List.map_nil, List.mem_cons, List.not_mem_nil, or_false] at h3
    rcases h3 with h3 | h3
    · exact h1 h3
    · exact h2 h3
  have g1 : ∀ n : Nat, @LT.lt Nat _ 44 (L + 1 + n) := fun n => Nat.lt_of_lt_of_le l.1 (Nat.le_trans (Nat.le_add_right L 1) (Nat.le_add_right _ n))
  have g2 : ∀ n : Nat, @LT.lt Nat _ 37 (L + 1 + n) := fun n => Nat.lt_of_lt_of_le l.2 (Nat.le_trans (Nat.le_add_right L 1) (Nat.le_add_right _ n))
  simp only [List.mem_cons, List.not_mem_nil, or_false] at hp
  rcases hp with rfl | rfl | rfl | rfl | rfl | rfl | rfl | rfl
  · exact N _ (.head _)
  · exact K _ m1 (off _ R.1 R.2.1)
  · exact N _ (.tail _ (.tail _ (.tail _ (.head _))))
  · exact N _ (.tail _ (.tail _ (.tail _ (.tail _ (.head _)))))
  · exact N _ (.tail _ (.head _))
  · exact N _ (.tail _ (.tail _ (.head _)))
  · exact K _ m6 (off _ (Nat.ne_of_gt (g1 1)) (Nat.ne_of_gt (g2 1)))
  · exact K _ m7 (off _ (Nat.ne_of_gt (g1 0)) (Nat.ne_of_gt (g2 0)))
theorem apart_of {L r c1 c2 : Addr} (l : @LT.lt Nat _ 44 L ∧ @LT.lt Nat _ 37 L) (R : RA L r) (D : DA L r c1 c2) : Apart L r c1 c2 :=
  ⟨⟨l.1, l.2, D.1.1, Nat.lt_trans (by decide) D.1.1, D.1.2, R.1, R.2.1, D.2.1.1, D.2.1.2, R.2.2.1, R.2.2.2⟩, D.2.2.1.1, D.2.2.1.2, D.2.2.2.1, D.2.2.2.2⟩
theorem ltNat {news : List (Addr × Obj)} {r : Addr} (h : ∀ q ∈ news, q.1 < r) : ∀ q ∈ news, @LT.lt Nat _ q.1 r := h
theorem execs_4 {A : Around} {E : Value → Shared → Prop} {s : Shared} {env : Env} {M : Model} {a b c d : Stmt} {rest : List Stmt} {Q : Flow → Shared → Prop}
    (h : wpC M A (execs [a, b, c, d] env) (fun f s' => match f with | .next => wpC M A (execs rest env) Q E s' | f => Q f s') E s) : wpC M A (execs (a :: b :: c :: d :: rest) env) Q E s := execs_split (l1 := [a, b, c, d]) h
theorem mid4 {A : Around} {E : Value → Shared → Prop} {s : Shared} {env : Env} {M : Model} {a b c d : Stmt} {rest : List Stmt} {Q : Flow → Shared → Prop} {h₀ h : Heap} {L : Addr} {m0 : Str → Option Value} (sb : Shared) (_F : Fr h₀ L h m0)
    (h1 : wpAny M A (execs [a, b, c, d] env) (fun f s' => match f with | .next => Mid sb h₀ L m0 s' | f => Q f s') E s) (h2 : ∀ s', Mid sb h₀ L m0 s' → wpC M A (execs rest env) Q E s') : wpC M A (execs (a :: b :: c :: d :: rest) env) Q E s :=
  execs_4 (wpC_mono (wpC_of h1) (fun f s' q => by cases f with | next => exact h2 s' q | _ => exact q) fun _ _ q => q)
theorem mid1 {A : Around} {E : Value → Shared → Prop} {s : Shared} {env : Env} {M : Model} {st : Stmt} {rest : List Stmt} {Q : Flow → Shared → Prop} {h₀ h : Heap} {L : Addr} {m0 : Str → Option Value} (sb : Shared) (_F : Fr h₀ L h m0)
    (h1 : wpC M A (exec st env) (fun f s' => match f with | .next => Mid2 sb h₀ L m0 s' | f => Q f s') E s) (h2 : ∀ s', Mid2 sb h₀ L m0 s' → wpC M A (execs rest env) Q E s') : wpC M A (execs (st :: rest) env) Q E s :=
  execs_first (wpC_mono h1 (fun f s' q => by cases f with | next => exact h2 s' q | _ => exact q) fun _ _ q => q)

/-- what stands between two turns of the loop over the rows -/
def Mid3 (sb : Shared) (h₀ : Heap) (L : Addr) (m0 : Str → Option Value) (I r c1 c2 : Addr) (n : Nat) (vs : List Value) (o1 o2 oK : Obj) (i : Nat) (s : Shared) : Prop := ∃ (oI oR : Obj) (vf vt vR : Option Value) (h : Heap) (tk : Nat),
  s = { sb with heap := h, toks := tk } ∧ IterObj oI r i ∧ oR.data = .cell vR ∧ Fr h₀ L h (fun y => if y = Str.ofString "firsts" then vf else if y = Str.ofString "turned" then vt else if y = Str.ofString "rows" then some (.ref r) else m0 y) ∧
  News h₀ L h ((I, oI) :: lawNews L r n vs c1 c2 o1 o2 oK oR)
def Below8 (L r c1 c2 I : Addr) : Prop := @LT.lt Nat _ r I ∧ @LT.lt Nat _ 44 I ∧ @LT.lt Nat _ 37 I ∧ @LT.lt Nat _ c1 I ∧ @LT.lt Nat _ c2 I ∧ @LT.lt Nat _ (L + 1 + 1) I ∧ @LT.lt Nat _ (L + 1) I
theorem Below8.all {L r c1 c2 I : Addr} (B : Below8 L r c1 c2 I) (n : Nat) (vs : List Value) (o1 o2 oK oR : Obj) : ∀ p ∈ lawNews L r n vs c1 c2 o1 o2 oK oR, p.1 < I := fun p hp => by
  simp only [List.mem_cons, List.not_mem_nil, or_false] at hp
  obtain ⟨a, b, c, d, e, f, g⟩ := B
  rcases hp with rfl | rfl | rfl | rfl | rfl | rfl | rfl
  · exact a
  · exact b
  · exact c
  · exact d
  · exact e
  · exact f
  · exact g
theorem Below8.of {L r c1 c2 I : Addr} {n : Nat} {vs : List Value} {o1 o2 oK oR : Obj} (h : ∀ p ∈ lawNews L r n vs c1 c2 o1 o2 oK oR, p.1 < I) : Below8 L r c1 c2 I :=
  ⟨h _ (.head _), h _ (.tail _ (.head _)), h _ (.tail _ (.tail _ (.head _))), h _ (.tail _ (.tail _ (.tail _ (.head _)))), h _ (.tail _ (.tail _ (.tail _ (.tail _ (.head _))))), h _ (.tail _ (.tail _ (.tail _ (.tail _ (.tail _ (.head _)))))), h _ (.tail _ (.tail _ (.tail _ (.tail _ (.tail _ (.tail _ (.head _))))))) ⟩
section
variable {prog : Program} {w : World} {A : Around} {E : Value → Shared → Prop} {s : Shared} {env : Env} {h₀ : Heap} {L : Addr} {m0 : Str → Option Value} {I r c1 c2 : Addr} {n : Nat} {vs : List Value} {o1 o2 oK : Obj} {i : Nat} {sb : Shared} {target : Expr} {body : List Stmt} {R : Result → Shared → Prop}
/-- the loop from its start -/
theorem loop_start {iter : Expr} {pos : Pos} {Q : Flow → Shared → Prop} {oR : Obj} {h : Heap} {tk : Nat} {m : Str → Option Value} (sb : Shared) (F : Fr h₀ L h m) (N : News h₀ L h (lawNews L r n vs c1 c2 o1 o2 oK oR)) (hRo : oR.data = .cell none) (hm : m (Str.ofString "rows") = some (.ref r)) (h0 : ∀ z, z ≠ Str.ofString "firsts" → z ≠ Str.ofString "turned" → z ≠ Str.ofString "rows" → m z = m0 z)
    (h1 : wpAny (model prog w) A (eval iter env) (fun x s₁ => x = .ref r ∧ s₁ = { sb with heap := h, toks := tk }) (fun _ _ => False) { sb with heap := h, toks := tk })
    (h2 : ∀ I s, Below8 L r c1 c2 I → Mid3 sb h₀ L m0 I r c1 c2 n vs o1 o2 oK 0 s → codeC (model prog w) A (.forLoop target (.ref I) body [] env) (fun res s' => match res with | .ok f => Q f s' | .error _ => False) s)
    (hs : ∀ x, foldedSetIterable iter env x = pure x := by intro _; rfl) : wpC (model prog w) A (exec (.For target iter body [] pos) env) Q E { sb with heap := h, toks := tk } := by
  refine for_C (wpAny_mono h1 (fun x s₁ hx => ?_) fun _ _ q => q.elim) hs
  obtain ⟨rfl, rfl⟩ := hx
  refine iter_N F N (.head _) fun I o h' ho F' N' lI => ?_
  exact h2 I _ (Below8.of lI) ⟨o, oR, _, _, _, h', tk, rfl, ho, hRo, fr_mid2 F' hm h0, N'⟩
/-- a turn -/
theorem turn_some {v : Value} (B : Below8 L r c1 c2 I) (hx : vs[i]? = some v) (M3 : Mid3 sb h₀ L m0 I r c1 c2 n vs o1 o2 oK i s)
    (h1 : ∀ oI oR vf vt vR h tk, IterObj oI r (i + 1) → oR.data = .cell vR → Fr h₀ L h (fun y => if y = Str.ofString "firsts" then vf else if y = Str.ofString "turned" then vt else if y = Str.ofString "rows" then some (.ref r) else m0 y) → News h₀ L h ((I, oI) :: lawNews L r n vs c1 c2 o1 o2 oK oR) →
      wpAny (model prog w) A (assign target env v) (fun _ s₂ => wpC (model prog w) A (execs body env) (fun f s₃ => match f with
          | .next | .cont => Mid3 sb h₀ L m0 I r c1 c2 n vs o1 o2 oK (i + 1) s₃
          | .brk => R (.ok .next) s₃
          | .ret v => R (.ok (.ret v)) s₃) (fun _ _ => False) s₂) (fun _ _ => False) { sb with heap := h, toks := tk })
    (h2 : ∀ s₃, Mid3 sb h₀ L m0 I r c1 c2 n vs o1 o2 oK (i + 1) s₃ → codeC (model prog w) A (.forLoop target (.ref I) body [] env) R s₃)
    (ht : ∀ v, letOwnedTupleGo target (.ref I) v = pure () := by intro _; rfl) : codeC (model prog w) A (.forLoop target (.ref I) body [] env) R s := by
  obtain ⟨oI, oR, vf, vt, vR, h, tk, rfl, ho, hv, F, N⟩ := M3
  refine turn_C (next_some F N (B.all _ _ _ _ _ _) ho (.head _) (by simpa using hx) fun o' h' ho' F' N' => ?_) ht
  refine wpAny_mono (h1 o' oR vf vt vR h' tk ho' hv F' N') (fun _ s₂ q => wpC_mono q (fun f s₃ q => ?_) fun _ _ q => q) fun _ _ q => q
  cases f with
  | next => exact h2 _ q
  | cont => exact h2 _ q
  | brk => exact q
  | ret v => exact q
/-- the loop's end -/
theorem turn_none {ki : Int} {t : Tok} (hh : A.handled = none) (B : Below8 L r c1 c2 I) (hx : vs[i]? = none) (M3 : Mid3 sb h₀ L m0 I r c1 c2 n vs o1 o2 oK i s) (hR : RowsOf ki vs) (hK : oK.data = .cell (some (.int ki t))) (hap : Apart L r c1 c2)
    (h : ∀ s', Mid2 sb h₀ L m0 s' → R (.ok .next) s')
    (ht : ∀ v, letOwnedTupleGo target (.ref I) v = pure () := by intro _; rfl) : codeC (model prog w) A (.forLoop target (.ref I) body [] env) R s := by
  obtain ⟨oI, oR, vf, vt, vR, hp, tk, rfl, ho, hv, F, N⟩ := M3
  refine turn_C (next_none hh F N (B.all _ _ _ _ _ _) ho (.head _) (by simpa using hx) fun h' F' N' => ?_) ht
  exact h _ ⟨ki, r, n, vs, t, c1, c2, o1, o2, oK, oR, vf, vt, h', tk, rfl, hR, F', N', hK, hap⟩
end
end Mine
end
section
open PySem PySem.W PyProof.Rows PySem.Spec PySem.Calls
set_option maxRecDepth 100000
set_option maxHeartbeats 8000000
namespace Mine
set_option hygiene false in
set_option compiler.extract_closed false in
local macro_rules | `(tactic| walk_at "never 0 PW_Law") => `(tactic| fail)
/-- a model in which every code ends at once with the one result -/
def flat (p : Program) (w : World) (r : Result) : Model := ⟨fun _ => match r with | .ok f => .pure (.done f) | .error e => .raise e, p, w⟩
theorem flat_runs {p : Program} {w : World} {r r' : Result} {Γ : PySem.Ctx} {q : Pos} {s s' : Shared} (h : Returns (flat p w r) Γ q s r' s') : r' = r ∧ s' = s := by
  unfold Returns flat at h
  cases r with
  | ok f => cases h; exact ⟨rfl, rfl⟩
  | error e => cases h; exact ⟨rfl, rfl⟩
theorem flat_any {p : Program} {w : World} {r : Result} {c : Code} {s : Shared} {R : Result → Shared → Prop} : codeAny (flat p w r) { depth := c.weight } c R s ↔ R r s := by
  constructor
  · intro h
    obtain ⟨r', s', h1, h2⟩ := h ⟨c, none, none, [], none⟩ default rfl ⟨rfl, Nat.zero_le _, fun l hl => (by cases hl), fun g hg => (by cases hg), Nat.zero_le _⟩
    obtain ⟨rfl, rfl⟩ := flat_runs h1
    exact h2
  · intro h Γ q _ _
    refine ⟨r, s, ?_, h⟩
    unfold Returns flat
    cases r with
    | ok f => exact Runs.done
    | error e => exact Runs.raise
/-- the kit's rule for grown code tables, as an implication -/
theorem post_of {p : Program} {w : World} {s' s₁ : Shared} {cw : ClaimW} {cl : Str → Option Addr} {mean : ExcName → Option Value} {args : List WData} {tabs : List (Addr × Addr)} {r : Result} (hT : TabsAt tabs s₁.heap) (hr : ∀ a x, cw.raises a x = false)
    (h : GoodW cw cl mean args { s₁ with heap := ghostOf s₁.heap tabs } r s' ∧ GrownAll tabs s'.heap) : GoodWG cw cl mean args s₁ r s' :=
  (flat_any (p := p) (w := w) (c := .builtin "" {})).mp (kn_post hT hr (flat_any.mpr h))
theorem postC {prog : Program} {w : World} {A : Around} {cd : Code} {s s₁ : Shared} {cw : ClaimW} {cl : Str → Option Addr} {mean : ExcName → Option Value} {args : List WData} {tabs : List (Addr × Addr)} (hT : TabsAt tabs s₁.heap) (hr : ∀ a x, cw.raises a x = false)
    (h : codeC (model prog w) A cd (fun r s' => GoodW cw cl mean args { s₁ with heap := ghostOf s₁.heap tabs } r s' ∧ GrownAll tabs s'.heap) s) : codeC (model prog w) A cd (GoodWG cw cl mean args s₁) s :=
  codeC_mono h fun _ _ q => post_of (p := prog) (w := w) hT hr q
theorem neNat {news : List (Addr × Obj)} {r : Addr} (h : ∀ q ∈ news, q.1 ≠ r) : ∀ q ∈ news, @Ne Nat q.1 r := h
theorem own2 {news : List (Addr × Obj)} {a b : Addr × Obj} (ha : a ∈ news) (hb : b ∈ news) : ∀ p ∈ [a, b], p ∈ news := fun p hp => by
  simp only [List.mem_cons, List.not_mem_nil, or_false] at hp
  rcases hp with rfl | rfl
  · exact ha
  · exact hb
theorem own4 {news : List (Addr × Obj)} {a b c d : Addr × Obj} (ha : a ∈ news) (hb : b ∈ news) (hc : c ∈ news) (hd : d ∈ news) : ∀ p ∈ [a, b, c, d], p ∈ news := fun p hp => by
  simp only [List.mem_cons, List.not_mem_nil, or_false] at hp
  rcases hp with rfl | rfl | rfl | rfl
  · exact ha
  · exact hb
  · exact hc
  · exact hd
/-- what a callee made of its part of the ledger (the two tables at its end), ahead of the rest -/
theorem joinDm {h₀ h' : Heap} {L a b : Addr} {oa ob : Obj} {own' news : List (Addr × Obj)} (N : News h₀ L h' own') (K : Kept h₀ L [(a, oa), (b, ob)] news h') (hne : ∀ p ∈ news.dropLast.dropLast, @Ne Nat p.1 a ∧ @Ne Nat p.1 b) : News h₀ L h' (own' ++ news.dropLast.dropLast) := fun p h => by
  rcases List.mem_append.mp h with h | h
  · exact N p h
  · refine K p (List.dropLast_subset _ (List.dropLast_subset _ h)) fun q => ?_
    simp only [List.map_cons, List.map_nil, List.mem_cons, List.not_mem_nil, or_false] at q
    rcases q with q | q
    · exact (hne p h).1 q
    · exact (hne p h).2 q
theorem are_nil {vs : List Value} (h : BytesAre vs []) : vs = [] := by cases h; rfl
theorem are_two {vs : List Value} {r q : List Int} (h : BytesAre vs [r, q]) : ∃ t u, vs = [.bytes (byteArr r) t, .bytes (byteArr q) u] := by
  cases h with
  | cons r t h => cases h with
    | cons q u h => cases h; exact ⟨t, u, rfl⟩
theorem ba1 : byteArr [4,1,3,1,2,4,3,2] = [4,1,3,1,2,4,3,2].toArray := by decide +kernel
theorem ba2 : byteArr [2,3,4,2,1,3,1,4] = [2,3,4,2,1,3,1,4].toArray := by decide +kernel
theorem ba3 : byteArr [3,1,2,1,3,2] = [3,1,2,1,3,2].toArray := by decide +kernel
theorem ba4 : byteArr [2,3,1,2,1,3] = [2,3,1,2,1,3].toArray := by decide +kernel
theorem good_use {w : World} {p : Program} {loose : List Str} {mean : ExcName → Option Value} {mg mb : Str → Option Value}
   {gd : Option (List Code)} {cn : Str} {cs : Scope} {a : Addr} {ccd : Value} {cl : List (Str × Addr)} {outer : List Env} {A₀ : Around} {base h₀ : Heap} {L : Addr} {m : Str → Option Value} {news : List (Addr × Obj)} {s : Shared}
   {Q E : Value → Shared → Prop} {bs : List UInt8} {k : Nat} {ki : Int} {t u : Tok}
   (B : Below A₀ base outer h₀) (F : Fr h₀ L s.heap m) (X : (hd.heap_39 w.params).In h₀) (N : News h₀ L s.heap news) (T : Top p loose mean mg mb h₀) (hk : cs.kind = .function) (hlen : bs.length ≤ 100) (hk1 : 1 ≤ k) (hk4 : k ≤ 4) (ek : (k : Int) = ki)
   (ret : ∀ h' tk' r, Fr h₀ L h' m → News h₀ L h' news → r = goodB bs k → Q (.bool r) { s with heap := h', toks := tk' }) :
   wpAny (model PySem.Challenge.rw_gg0005_01.row.prog w) (ktrTop (1 + claimMargin + 1) 7 gd cn cs L a ccd cl outer) (call (.ref 68) [.bytes bs.toArray t, .int ki u]) Q E s := by
  subst ek
  exact good_call B F X N T hk hlen hk1 hk4 ret
theorem heldSum {M : Model} {A : Around} {E Q : Value → Shared → Prop} {s : Shared} {h : Heap} {r : Addr} {a b c : Int} {t u v : Tok} (rg : IsRange h r a b c t u v) (H : Held (wpAny M A (call (.builtin "sum") [.ref r]) Q E s)) : wpAny M A (call (.builtin "sum") [.ref r]) Q E s := H
theorem turn9 {prog : Program} {w : World} {A : Around} {E : Value → Shared → Prop} {s : Shared} {value slice : PySem.Expr} {o i : Value} {Q : Value → Shared → Prop}
    (h : wpAny (model prog w) A (subscriptTail (.Name (Str.ofString "_") ⟨0, 0, 0, 0⟩) slice o i) Q E s) : wpAny (model prog w) A (subscriptTail value slice o i) Q E s := kba_turn (fun _ => rfl) h
set_option hygiene false in
set_option compiler.extract_closed false in
local macro_rules | `(tactic| walk_at $s:str) => match s.getString with
  | "call ref" => `(tactic| (k_here; first | with_reducible refine held63 ?_ | with_reducible refine held75 ?_ | with_reducible refine held68 ?_))
  | "compareOp NotEq ref ref" | "compareOp Eq bool bool" => `(tactic| (k_here; refine Held.on ?_))
  | "compareOp In" => `(tactic| (k_here; with_reducible refine heldIn ?_))
  | "compareOp NotIn" => `(tactic| (k_here; with_reducible refine heldNotIn ?_))
  | "call type:list" => `(tactic| (k_here; (with_reducible show wpAny _ _ (call _ [Value.bytes _ _]) _ _ _); k_dflt (refine' list_bytes_N ?k1 ?k2 ?k3 ?k4 ?_; (case k1 => k_asm); (case k2 => k_asm); (case k3 => exact rfl); (case k4 => decide)); intro D9 h9 tk9 ys9 c9 F9 N9 l9 i9; (first | replace i9 := nums_as (ns := [4,1,3,1,2,4,3,2]) i9 (by decide +kernel) | replace i9 := nums_as (ns := [2,3,4,2,1,3,1,4]) i9 (by decide +kernel) | replace i9 := nums_as (ns := [3,1,2,1,3,2]) i9 (by decide +kernel) | replace i9 := nums_as (ns := [2,3,1,2,1,3]) i9 (by decide +kernel)); (first | (obtain ⟨t1, t2, t3, t4, t5, t6, e9⟩ := ints6 i9; subst e9) | (obtain ⟨t1, t2, t3, t4, t5, t6, t7, t8, e9⟩ := ints8 i9; subst e9)); clear i9; (k_lt l9); (try k_sweep)))
  | "call builtin:list.index" => `(tactic| (k_here; k_dflt (refine' index_N ?k1 ?k2 ?k3 ?k4 ?k5 ?_; (case k1 => k_asm); (case k2 => k_mem); (case k3 => exact ints_lit rfl); (case k4 => decide +kernel); (case k5 => exact mem_lt (by assumption) (by assumption) (by decide +kernel)))))
  | "call builtin:sum" => `(tactic| (k_here; (with_reducible rename IsRange _ _ _ _ _ _ _ _ => rg9); with_reducible refine heldSum rg9 ?_))
  | "subscriptTail BinOp" | "subscriptTail List" | "subscriptTail Call" => `(tactic| (k_here; k_dflt (refine turn9 ?_)))
  | "callWith ref" => `(tactic| (k_here; k_dflt (refine' callWith_K ?k1 ?k2 ?_; (case k1 => k_asm); (case k2 => k_is); k_whole)))
  | "execs cons" => `(tactic| (k_here; first | (refine gen_toks ?_; intro tk9; (try k_fold)) | k_fold))
  | "eval BinOp" | "eval Call" => `(tactic| (k_here; k_fold))
  | _ => Lean.Macro.throwUnsupported
theorem main : PySem.Challenge.rw_gg0005_01.Holds := hd (by
  k_fill
  intro w s₀ s₁ mg mb G Y fa o pm cd doc dV kV ho hd hcd hD hmg hg args vals as hpre hlay hrd hwl hlo
  have KX := km_in_of Y
  km_tabs Y
  have X := (Ground.X G).1
  have V := (Ground.X G).2
  refine Ground.open G ?_
  intro T B D TE TW
  try (refine guard_noD D (by decide +kernel) ?_; clear D)
  km_lay T hmg ho hd cd
  clear hmg
  wrow_args hpre hlay hrd hwl hlo
  w_top on
  refine postC hT9 (fun _ _ => rfl) ?_
  have he := Dflts.none hD rfl
  subst he
  have he := Dflts.noKw hD
  subst he
  refine enter_law (by decide) ho (fd_plain hd) (Top.nolimit T) hcd rfl (kinds_of (by kinds_ok)) (by decide) fun h₁ tk₁ cells F N0 X0 => ?_
  cells_open X0
  clear hd
  kn_ghosts F T
  k_drop
  dsimp only
  rename Fr _ _ _ _ => kF0
  refine mid4 s₁ kF0 ?part1 ?rest
  rotate_left
  case part1 =>
    k_with "storeName" => k_sizes
    k_steps
    repeat' ((with_reducible refine Held.off ?_); (first
        | ((with_reducible show wpAny _ _ (compareOp CmpOp.NotEq _ _) _ _ _); k_dflt (refine' ne_len ?k1 ?k2 ?k3 ?k4 ?k5 ?_; (case k1 => k_asm); (case k2 => k_mem); (case k3 => k_mem); (case k4 => rfl); (case k5 => ktr_units)))
        | ((with_reducible show wpAny _ _ (compareOp CmpOp.NotEq _ _) _ _ _); (with_unfolding_all refine' ne_intsK ?k1 ?k2 ?k3 ?k4 ?k5 ?_); (case k1 => is_list); (case k2 => l_intsC); (case k3 => is_list); (case k4 => l_intsC); (case k5 => units_room); (try simp only [filter_tt]))
        | ((with_reducible show wpAny _ _ (call (Value.ref 63) _) _ _ _); k_dflt (refine' dm1 ?k1 ?k2 ?k3 ?k4 ?k5 ?k6 ?k7 ?k8 (own2 ?k11 ?k12) ?k16 ?k17 ?k18 ?k19 ?_; (case k4 => k_asm); (case k11 => k_mem); (case k12 => k_mem); (case k16 => decide); (case k17 => decide); (case k1 => k_asm); (case k2 => k_asm); (case k3 => k_asm); (case k5 => k_asm); (case k6 => exact rfl); (case k7 => k_asm); (case k8 => k_asm); (case k18 => first | exact (show _ = (0:Int) by decide) | exact (show _ = (1:Int) by decide)); (case k19 => first | exact (show _ = (0:Int) by decide) | exact (show _ = (1:Int) by decide) | exact (show _ = (2:Int) by decide) | exact (show _ = (3:Int) by decide))); intro D9 c9 d9 o9 p9 h9 tk9 tq9 tr9 q9 r9 F9 N9 e9 f9 i9 j9 K9 n9 m9 l9 t9; subst e9 f9; (with_reducible rename RA _ _ => ra9); k_dflt (refine' da_then ra9 m9 l9 t9 ?m1 ?m3 ?m4 ?_; (case m1 => k_mem); (case m3 => k_mem); (case m4 => k_mem)); intro da9; clear n9 m9 l9; have N9 := joinDm N9 K9 ?u2; (case u2 => (simp only [List.dropLast, List.forall_mem_cons, List.not_mem_nil, false_implies, implies_true, and_true]; omega)); clear K9; dsimp only [List.dropLast, List.cons_append, List.nil_append] at N9; (try k_sweep))
        | ((with_reducible show wpAny _ _ (call (Value.ref 63) _) _ _ _); k_dflt (refine' dm1F ?k1 ?k2 ?k3 ?k4 ?k5 ?k6 ?k7 ?k8 ?k9 ?k10 (own4 ?k11 ?k12 ?k13 ?k14) ?k15 ?k16 ?k17 ?k18 ?k19 ?_; (case k16 => decide); (case k17 => decide); (case k1 => k_asm); (case k2 => k_asm); (case k3 => k_asm); (case k4 => k_asm); (case k5 => k_asm); (case k6 => exact rfl); (case k7 => k_asm); (case k8 => k_asm); (case k11 => k_mem); (case k12 => k_mem); (case k9 => k_asm); (case k10 => k_asm); (case k13 => k_mem); (case k14 => k_mem); (case k15 => constructor <;> omega); (case k18 => first | exact (show _ = (0:Int) by decide) | exact (show _ = (1:Int) by decide)); (case k19 => first | exact (show _ = (0:Int) by decide) | exact (show _ = (1:Int) by decide) | exact (show _ = (2:Int) by decide) | exact (show _ = (3:Int) by decide))); intro D9 h9 tk9 tq9 tr9 q9 r9 F9 N9 e9 f9 o9; subst e9 f9; clear o9; (try k_sweep))
        | ((with_reducible show wpAny _ _ (call (Value.ref 63) _) _ _ _); k_dflt (refine' dm2F ?k1 ?k2 ?k3 ?k4 ?k5 ?k6 ?k7 ?k8 ?k9 ?k10 (own4 ?k11 ?k12 ?k13 ?k14) ?k15 ?k16 ?k18 ?k19 ?_; (case k16 => decide); (case k1 => k_asm); (case k2 => k_asm); (case k3 => k_asm); (case k4 => k_asm); (case k5 => k_asm); (case k6 => exact rfl); (case k7 => k_asm); (case k8 => k_asm); (case k11 => k_mem); (case k12 => k_mem); (case k9 => k_asm); (case k10 => k_asm); (case k13 => k_mem); (case k14 => k_mem); (case k15 => constructor <;> omega); (case k18 => first | exact (show _ = (2:Int) by decide) | exact (show _ = (6:Int) by decide) | exact (show _ = (11:Int) by decide)); (case k19 => first | exact (show _ = (0:Int) by decide) | exact (show _ = (1:Int) by decide) | exact (show _ = (2:Int) by decide) | exact (show _ = (3:Int) by decide))); intro D9 h9 tk9 tq9 tr9 q9 r9 F9 N9 e9 f9 o9; subst e9 f9; clear o9; (try k_sweep))
        | ((with_reducible show wpAny _ _ (call (Value.ref 75) _) _ _ _); k_dflt (refine' rows_use (rows_all _ _ ?k0) ?k1 ?k2 ?k3 ?k4 ?k5 ?k6 ?k7 ?k8 ?k9 ?k10 ?k11 ?k12 ?k13 ?k14 ?_; (case k1 => k_asm); (case k2 => k_asm); (case k3 => k_asm); (case k4 => k_asm); (case k5 => k_asm); (case k6 => exact rfl); (case k7 => k_mem); (case k8 => assumption); (case k9 => decide); (case k10 => decide); (case k11 => first | exact (rfl : ((1:Nat):Int) = 1) | exact (rfl : ((2:Nat):Int) = 2) | exact (rfl : ((3:Nat):Int) = 3) | exact (rfl : ((4:Nat):Int) = 4)); (case k12 => decide); (case k13 => ktr_room); (case k14 => ktr_units); (case k0 => decide)); intro r9 h9 tk9 vs9 n9 F9 N9 o9 hv9; k_dflt (refine' ra_then F9 o9 ?m1 ?m2 ?m3 ?m4 ?_; (case m1 => k_mem); (case m2 => k_mem); (case m3 => k_mem); (case m4 => k_mem)); intro ra9; clear o9; have o9 := ra_two ra9; (first | (have e9 := Mine.are_nil (Eq.mp (congrArg (Mine.BytesAre vs9) (by decide +kernel)) hv9); subst e9) | (have e9 := Mine.are_two (r := [4,1,3,1,2,4,3,2]) (q := [2,3,4,2,1,3,1,4]) (Eq.mp (congrArg (Mine.BytesAre vs9) (by decide +kernel)) hv9); obtain ⟨t9, u9, e9⟩ := e9; subst e9; rw [ba1, ba2] at N9) | (have e9 := Mine.are_two (r := [3,1,2,1,3,2]) (q := [2,3,1,2,1,3]) (Eq.mp (congrArg (Mine.BytesAre vs9) (by decide +kernel)) hv9); obtain ⟨t9, u9, e9⟩ := e9; subst e9; rw [ba3, ba4] at N9)); clear hv9; (try k_sweep))); k_steps)
    focus
      show Mid _ _ _ _ _
      rename Fr _ _ _ _ => kF
      rename News _ _ _ _ => kN
      refine' ⟨?zkiq1, ?zrq1, ?znq1, ?zvsq1, ?ztq1, ?zc1q1, ?zc2q1, ?zo1q1, ?zo2q1, ?zoKq1, ?zoRq1, _, _, rfl, ?wRq1, ?wFq1, ?wNq1, ?wKq1, ?wRoq1, ?wAq1⟩
      case wFq1 => exact kF
      case wNq1 =>
        refine' use7 kN ?y1q1 ?y2q1 ?y3q1 ?y4q1 ?y5q1 ?y6q1 ?y7q1 (fun N => N)
        case y1q1 => k_mem
        case y2q1 => k_mem
        case y3q1 => k_mem
        case y4q1 => k_mem
        case y5q1 => k_mem
        case y6q1 => k_mem
        case y7q1 => k_mem
      case wKq1 => with_reducible assumption
      case wRoq1 => exact Eq.trans (by assumption) rfl
      case wRq1 => first | exact Or.inl ⟨rfl, rfl⟩ | exact Or.inr (Or.inl ⟨rfl, rfl⟩) | exact Or.inr (Or.inr (Or.inl ⟨rfl, _, _, rfl⟩)) | exact Or.inr (Or.inr (Or.inr ⟨rfl, _, _, rfl⟩))
      case wAq1 =>
        exact apart_of (by assumption) (by assumption) (by assumption)
    focus
      show Mid _ _ _ _ _
      rename Fr _ _ _ _ => kF
      rename News _ _ _ _ => kN
      refine' ⟨?zkiq2, ?zrq2, ?znq2, ?zvsq2, ?ztq2, ?zc1q2, ?zc2q2, ?zo1q2, ?zo2q2, ?zoKq2, ?zoRq2, _, _, rfl, ?wRq2, ?wFq2, ?wNq2, ?wKq2, ?wRoq2, ?wAq2⟩
      case wFq2 => exact kF
      case wNq2 =>
        refine' use7 kN ?y1q2 ?y2q2 ?y3q2 ?y4q2 ?y5q2 ?y6q2 ?y7q2 (fun N => N)
        case y1q2 => k_mem
        case y2q2 => k_mem
        case y3q2 => k_mem
        case y4q2 => k_mem
        case y5q2 => k_mem
        case y6q2 => k_mem
        case y7q2 => k_mem
      case wKq2 => with_reducible assumption
      case wRoq2 => exact Eq.trans (by assumption) rfl
      case wRq2 => first | exact Or.inl ⟨rfl, rfl⟩ | exact Or.inr (Or.inl ⟨rfl, rfl⟩) | exact Or.inr (Or.inr (Or.inl ⟨rfl, _, _, rfl⟩)) | exact Or.inr (Or.inr (Or.inr ⟨rfl, _, _, rfl⟩))
      case wAq2 =>
        exact apart_of (by assumption) (by assumption) (by assumption)
    focus
      show Mid _ _ _ _ _
      rename Fr _ _ _ _ => kF
      rename News _ _ _ _ => kN
      refine' ⟨?zkiq3, ?zrq3, ?znq3, ?zvsq3, ?ztq3, ?zc1q3, ?zc2q3, ?zo1q3, ?zo2q3, ?zoKq3, ?zoRq3, _, _, rfl, ?wRq3, ?wFq3, ?wNq3, ?wKq3, ?wRoq3, ?wAq3⟩
      case wFq3 => exact kF
      case wNq3 =>
        refine' use7 kN ?y1q3 ?y2q3 ?y3q3 ?y4q3 ?y5q3 ?y6q3 ?y7q3 (fun N => N)
        case y1q3 => k_mem
        case y2q3 => k_mem
        case y3q3 => k_mem
        case y4q3 => k_mem
        case y5q3 => k_mem
        case y6q3 => k_mem
        case y7q3 => k_mem
      case wKq3 => with_reducible assumption
      case wRoq3 => exact Eq.trans (by assumption) rfl
      case wRq3 => first | exact Or.inl ⟨rfl, rfl⟩ | exact Or.inr (Or.inl ⟨rfl, rfl⟩) | exact Or.inr (Or.inr (Or.inl ⟨rfl, _, _, rfl⟩)) | exact Or.inr (Or.inr (Or.inr ⟨rfl, _, _, rfl⟩))
      case wAq3 =>
        exact apart_of (by assumption) (by assumption) (by assumption)
    focus
      show Mid _ _ _ _ _
      rename Fr _ _ _ _ => kF
      rename News _ _ _ _ => kN
      refine' ⟨?zkiq4, ?zrq4, ?znq4, ?zvsq4, ?ztq4, ?zc1q4, ?zc2q4, ?zo1q4, ?zo2q4, ?zoKq4, ?zoRq4, _, _, rfl, ?wRq4, ?wFq4, ?wNq4, ?wKq4, ?wRoq4, ?wAq4⟩
      case wFq4 => exact kF
      case wNq4 =>
        refine' use7 kN ?y1q4 ?y2q4 ?y3q4 ?y4q4 ?y5q4 ?y6q4 ?y7q4 (fun N => N)
        case y1q4 => k_mem
        case y2q4 => k_mem
        case y3q4 => k_mem
        case y4q4 => k_mem
        case y5q4 => k_mem
        case y6q4 => k_mem
        case y7q4 => k_mem
      case wKq4 => with_reducible assumption
      case wRoq4 => exact Eq.trans (by assumption) rfl
      case wRq4 => first | exact Or.inl ⟨rfl, rfl⟩ | exact Or.inr (Or.inl ⟨rfl, rfl⟩) | exact Or.inr (Or.inr (Or.inl ⟨rfl, _, _, rfl⟩)) | exact Or.inr (Or.inr (Or.inr ⟨rfl, _, _, rfl⟩))
      case wAq4 =>
        exact apart_of (by assumption) (by assumption) (by assumption)
  case rest =>
    rintro s1 ⟨ki, r1, n1, vs1, t1, c1, c2, o1, o2, oK, oR, h1, tk1, e1, hR, F1, N1, hK, hRo, hap⟩
    subst e1
    refine mid1 s₁ kF0 ?part2 ?part3
    case part2 =>
      rcases hR with ⟨rfl, rfl⟩ | ⟨rfl, rfl⟩ | ⟨rfl, t3, u3, rfl⟩ | ⟨rfl, t3, u3, rfl⟩
      focus
        refine loop_start s₁ F1 N1 hRo (by rfl) (fun z _ _ c => if_neg c) ?_ ?_
        focus
          k_steps
          repeat' ((with_reducible refine Held.off ?_); (first
              | ((with_reducible show wpAny _ _ (call (Value.builtin "sum") [Value.ref _]) _ _ _); (with_reducible rename IsRange _ _ _ _ _ _ _ _ => rg9); (k_dflt (refine' sum_range_N ?k1 ?k2 ?k3 rg9 ?k5 ?k6 ?k7 ?_; (case k1 => k_asm); (case k2 => k_asm); (case k3 => exact rfl); (case k5 => decide); (case k6 => first | exact (show _ = ((6 : Nat) : Int) by decide) | exact (show _ = ((8 : Nat) : Int) by decide)); (case k7 => first | exact (show _ = (21 : Int) by decide) | exact (show _ = (36 : Int) by decide))); clear rg9; intro h9 t9 k9 F9 N9; (try k_sweep)))
              | ((with_reducible show wpAny _ _ (compareOp _ (Value.bytes _ _) (Value.ref _)) _ _ _); k_dflt (refine' notIn_bytes (c := true) ?k1 ?k2 ?k3 ?k4 ?_; (case k1 => k_asm); (case k2 => k_mem); (case k3 => simp [AllBytes]); (case k4 => first | exact rfl | decide +kernel +revert)))
              | ((with_reducible show wpAny _ _ (compareOp CmpOp.Eq _ _) _ _ _); k_dflt (refine' eq_yes ?zz9 ?_; (case zz9 => first | exact plain1 (by rw [List.length_map, List.length_map]; exact drawn_len (by decide) (by decide)) | exact plain2 (by rw [List.length_map, List.length_map]; exact drawn_len (by decide) (by decide)) | exact plain3 (by rw [List.length_map, List.length_map]; exact drawn_len (by decide) (by decide)) (drawn_le (by decide) (by decide)) | exact plain4 (by rw [List.length_map, List.length_map]; exact drawn_len (by decide) (by decide)) (drawn_le (by decide) (by decide)))))
              | ((with_reducible show wpAny _ _ (compareOp _ (Value.bytes _ _) (Value.ref _)) _ _ _); k_dflt (refine' in_bytes ?k1 ?k2 ?k3 ?k4 ?_; (case k1 => k_asm); (case k2 => k_mem); (case k3 => first | exact trivial | simp [AllBytes]); (case k4 => rfl)))
              | ((with_reducible show wpAny _ _ (call (Value.ref 68) _) _ _ _); k_dflt (refine' good_use ?k1 ?k2 ?k3 ?k4 ?k5 ?k6 ?k7 ?k8 ?k9 ?k10 ?_; (case k10 => first | exact (rfl : ((1:Nat):Int) = 1) | exact (rfl : ((2:Nat):Int) = 2) | exact (rfl : ((3:Nat):Int) = 3) | exact (rfl : ((4:Nat):Int) = 4)); (case k1 => k_asm); (case k2 => k_asm); (case k3 => k_asm); (case k4 => k_asm); (case k5 => k_asm); (case k6 => exact rfl); (case k7 => first | decide | (simp only [List.length_map, List.length_take]; omega)); (case k8 => decide); (case k9 => decide)); intro h9 tk9 r9 F9 N9 e9; (try (replace e9 := e9.trans (show goodB _ _ = true by decide +kernel))); subst e9; (try k_sweep))); k_steps)
          all_goals exact ⟨rfl, rfl⟩
        clear F1 N1
        intro I9 s3 hB hM
        exact turn_none rfl hB rfl hM (by exact Or.inl ⟨rfl, rfl⟩) hK hap (fun s' q => q)
      focus
        refine loop_start s₁ F1 N1 hRo (by rfl) (fun z _ _ c => if_neg c) ?_ ?_
        focus
          k_steps
          repeat' ((with_reducible refine Held.off ?_); (first
              | ((with_reducible show wpAny _ _ (call (Value.builtin "sum") [Value.ref _]) _ _ _); (with_reducible rename IsRange _ _ _ _ _ _ _ _ => rg9); (k_dflt (refine' sum_range_N ?k1 ?k2 ?k3 rg9 ?k5 ?k6 ?k7 ?_; (case k1 => k_asm); (case k2 => k_asm); (case k3 => exact rfl); (case k5 => decide); (case k6 => first | exact (show _ = ((6 : Nat) : Int) by decide) | exact (show _ = ((8 : Nat) : Int) by decide)); (case k7 => first | exact (show _ = (21 : Int) by decide) | exact (show _ = (36 : Int) by decide))); clear rg9; intro h9 t9 k9 F9 N9; (try k_sweep)))
              | ((with_reducible show wpAny _ _ (compareOp _ (Value.bytes _ _) (Value.ref _)) _ _ _); k_dflt (refine' notIn_bytes (c := true) ?k1 ?k2 ?k3 ?k4 ?_; (case k1 => k_asm); (case k2 => k_mem); (case k3 => simp [AllBytes]); (case k4 => first | exact rfl | decide +kernel +revert)))
              | ((with_reducible show wpAny _ _ (compareOp CmpOp.Eq _ _) _ _ _); k_dflt (refine' eq_yes ?zz9 ?_; (case zz9 => first | exact plain1 (by rw [List.length_map, List.length_map]; exact drawn_len (by decide) (by decide)) | exact plain2 (by rw [List.length_map, List.length_map]; exact drawn_len (by decide) (by decide)) | exact plain3 (by rw [List.length_map, List.length_map]; exact drawn_len (by decide) (by decide)) (drawn_le (by decide) (by decide)) | exact plain4 (by rw [List.length_map, List.length_map]; exact drawn_len (by decide) (by decide)) (drawn_le (by decide) (by decide)))))
              | ((with_reducible show wpAny _ _ (compareOp _ (Value.bytes _ _) (Value.ref _)) _ _ _); k_dflt (refine' in_bytes ?k1 ?k2 ?k3 ?k4 ?_; (case k1 => k_asm); (case k2 => k_mem); (case k3 => first | exact trivial | simp [AllBytes]); (case k4 => rfl)))
              | ((with_reducible show wpAny _ _ (call (Value.ref 68) _) _ _ _); k_dflt (refine' good_use ?k1 ?k2 ?k3 ?k4 ?k5 ?k6 ?k7 ?k8 ?k9 ?k10 ?_; (case k10 => first | exact (rfl : ((1:Nat):Int) = 1) | exact (rfl : ((2:Nat):Int) = 2) | exact (rfl : ((3:Nat):Int) = 3) | exact (rfl : ((4:Nat):Int) = 4)); (case k1 => k_asm); (case k2 => k_asm); (case k3 => k_asm); (case k4 => k_asm); (case k5 => k_asm); (case k6 => exact rfl); (case k7 => first | decide | (simp only [List.length_map, List.length_take]; omega)); (case k8 => decide); (case k9 => decide)); intro h9 tk9 r9 F9 N9 e9; (try (replace e9 := e9.trans (show goodB _ _ = true by decide +kernel))); subst e9; (try k_sweep))); k_steps)
          all_goals exact ⟨rfl, rfl⟩
        clear F1 N1
        intro I9 s3 hB hM
        exact turn_none rfl hB rfl hM (by exact Or.inr (Or.inl ⟨rfl, rfl⟩)) hK hap (fun s' q => q)
      focus
        have hap3 := ap3 hap
        refine loop_start s₁ F1 N1 hRo (by rfl) (fun z _ _ c => if_neg c) ?_ ?_
        focus
          k_steps
          repeat' ((with_reducible refine Held.off ?_); (first
              | ((with_reducible show wpAny _ _ (call (Value.builtin "sum") [Value.ref _]) _ _ _); (with_reducible rename IsRange _ _ _ _ _ _ _ _ => rg9); (k_dflt (refine' sum_range_N ?k1 ?k2 ?k3 rg9 ?k5 ?k6 ?k7 ?_; (case k1 => k_asm); (case k2 => k_asm); (case k3 => exact rfl); (case k5 => decide); (case k6 => first | exact (show _ = ((6 : Nat) : Int) by decide) | exact (show _ = ((8 : Nat) : Int) by decide)); (case k7 => first | exact (show _ = (21 : Int) by decide) | exact (show _ = (36 : Int) by decide))); clear rg9; intro h9 t9 k9 F9 N9; (try k_sweep)))
              | ((with_reducible show wpAny _ _ (compareOp _ (Value.bytes _ _) (Value.ref _)) _ _ _); k_dflt (refine' notIn_bytes (c := true) ?k1 ?k2 ?k3 ?k4 ?_; (case k1 => k_asm); (case k2 => k_mem); (case k3 => simp [AllBytes]); (case k4 => first | exact rfl | decide +kernel +revert)))
              | ((with_reducible show wpAny _ _ (compareOp CmpOp.Eq _ _) _ _ _); k_dflt (refine' eq_yes ?zz9 ?_; (case zz9 => first | exact plain1 (by rw [List.length_map, List.length_map]; exact drawn_len (by decide) (by decide)) | exact plain2 (by rw [List.length_map, List.length_map]; exact drawn_len (by decide) (by decide)) | exact plain3 (by rw [List.length_map, List.length_map]; exact drawn_len (by decide) (by decide)) (drawn_le (by decide) (by decide)) | exact plain4 (by rw [List.length_map, List.length_map]; exact drawn_len (by decide) (by decide)) (drawn_le (by decide) (by decide)))))
              | ((with_reducible show wpAny _ _ (compareOp _ (Value.bytes _ _) (Value.ref _)) _ _ _); k_dflt (refine' in_bytes ?k1 ?k2 ?k3 ?k4 ?_; (case k1 => k_asm); (case k2 => k_mem); (case k3 => first | exact trivial | simp [AllBytes]); (case k4 => rfl)))
              | ((with_reducible show wpAny _ _ (call (Value.ref 68) _) _ _ _); k_dflt (refine' good_use ?k1 ?k2 ?k3 ?k4 ?k5 ?k6 ?k7 ?k8 ?k9 ?k10 ?_; (case k10 => first | exact (rfl : ((1:Nat):Int) = 1) | exact (rfl : ((2:Nat):Int) = 2) | exact (rfl : ((3:Nat):Int) = 3) | exact (rfl : ((4:Nat):Int) = 4)); (case k1 => k_asm); (case k2 => k_asm); (case k3 => k_asm); (case k4 => k_asm); (case k5 => k_asm); (case k6 => exact rfl); (case k7 => first | decide | (simp only [List.length_map, List.length_take]; omega)); (case k8 => decide); (case k9 => decide)); intro h9 tk9 r9 F9 N9 e9; (try (replace e9 := e9.trans (show goodB _ _ = true by decide +kernel))); subst e9; (try k_sweep))); k_steps)
          all_goals exact ⟨rfl, rfl⟩
        clear F1 N1
        intro I9 s3 hB hM
        focus
          refine turn_some (v := Value.bytes _ _) hB rfl hM ?_ ?_
          focus
            clear hM
            intro oI oR vf vt vR h8 tk8 ho8 hv8 F8 N8
            have hb8 := hB
            unfold Below8 at hb8
            k_steps
            repeat' ((with_reducible refine Held.off ?_); (first
                | ((with_reducible show wpAny _ _ (call (Value.builtin "sum") [Value.ref _]) _ _ _); (with_reducible rename IsRange _ _ _ _ _ _ _ _ => rg9); (k_dflt (refine' sum_range_N ?k1 ?k2 ?k3 rg9 ?k5 ?k6 ?k7 ?_; (case k1 => k_asm); (case k2 => k_asm); (case k3 => exact rfl); (case k5 => decide); (case k6 => first | exact (show _ = ((6 : Nat) : Int) by decide) | exact (show _ = ((8 : Nat) : Int) by decide)); (case k7 => first | exact (show _ = (21 : Int) by decide) | exact (show _ = (36 : Int) by decide))); clear rg9; intro h9 t9 k9 F9 N9; (try k_sweep)))
                | ((with_reducible show wpAny _ _ (compareOp _ (Value.bytes _ _) (Value.ref _)) _ _ _); k_dflt (refine' notIn_bytes (c := true) ?k1 ?k2 ?k3 ?k4 ?_; (case k1 => k_asm); (case k2 => k_mem); (case k3 => simp [AllBytes]); (case k4 => first | exact rfl | decide +kernel +revert)))
                | ((with_reducible show wpAny _ _ (compareOp CmpOp.Eq _ _) _ _ _); k_dflt (refine' eq_yes ?zz9 ?_; (case zz9 => first | exact plain1 (by rw [List.length_map, List.length_map]; exact drawn_len (by decide) (by decide)) | exact plain2 (by rw [List.length_map, List.length_map]; exact drawn_len (by decide) (by decide)) | exact plain3 (by rw [List.length_map, List.length_map]; exact drawn_len (by decide) (by decide)) (drawn_le (by decide) (by decide)) | exact plain4 (by rw [List.length_map, List.length_map]; exact drawn_len (by decide) (by decide)) (drawn_le (by decide) (by decide)))))
                | ((with_reducible show wpAny _ _ (compareOp _ (Value.bytes _ _) (Value.ref _)) _ _ _); k_dflt (refine' in_bytes ?k1 ?k2 ?k3 ?k4 ?_; (case k1 => k_asm); (case k2 => k_mem); (case k3 => first | exact trivial | simp [AllBytes]); (case k4 => rfl)))
                | ((with_reducible show wpAny _ _ (call (Value.ref 68) _) _ _ _); k_dflt (refine' good_use ?k1 ?k2 ?k3 ?k4 ?k5 ?k6 ?k7 ?k8 ?k9 ?k10 ?_; (case k10 => first | exact (rfl : ((1:Nat):Int) = 1) | exact (rfl : ((2:Nat):Int) = 2) | exact (rfl : ((3:Nat):Int) = 3) | exact (rfl : ((4:Nat):Int) = 4)); (case k1 => k_asm); (case k2 => k_asm); (case k3 => k_asm); (case k4 => k_asm); (case k5 => k_asm); (case k6 => exact rfl); (case k7 => first | decide | (simp only [List.length_map, List.length_take]; omega)); (case k8 => decide); (case k9 => decide)); intro h9 tk9 r9 F9 N9 e9; (try (replace e9 := e9.trans (show goodB _ _ = true by decide +kernel))); subst e9; (try k_sweep))); k_steps)
            refine execs_first (assign_C (evalCall_C ?_))
            k_steps
            repeat' ((with_reducible refine Held.off ?_); (first
                | ((with_reducible show wpAny _ _ (call (Value.builtin "sum") [Value.ref _]) _ _ _); (with_reducible rename IsRange _ _ _ _ _ _ _ _ => rg9); (k_dflt (refine' sum_range_N ?k1 ?k2 ?k3 rg9 ?k5 ?k6 ?k7 ?_; (case k1 => k_asm); (case k2 => k_asm); (case k3 => exact rfl); (case k5 => decide); (case k6 => first | exact (show _ = ((6 : Nat) : Int) by decide) | exact (show _ = ((8 : Nat) : Int) by decide)); (case k7 => first | exact (show _ = (21 : Int) by decide) | exact (show _ = (36 : Int) by decide))); clear rg9; intro h9 t9 k9 F9 N9; (try k_sweep)))
                | ((with_reducible show wpAny _ _ (compareOp _ (Value.bytes _ _) (Value.ref _)) _ _ _); k_dflt (refine' notIn_bytes (c := true) ?k1 ?k2 ?k3 ?k4 ?_; (case k1 => k_asm); (case k2 => k_mem); (case k3 => simp [AllBytes]); (case k4 => first | exact rfl | decide +kernel +revert)))
                | ((with_reducible show wpAny _ _ (compareOp CmpOp.Eq _ _) _ _ _); k_dflt (refine' eq_yes ?zz9 ?_; (case zz9 => first | exact plain1 (by rw [List.length_map, List.length_map]; exact drawn_len (by decide) (by decide)) | exact plain2 (by rw [List.length_map, List.length_map]; exact drawn_len (by decide) (by decide)) | exact plain3 (by rw [List.length_map, List.length_map]; exact drawn_len (by decide) (by decide)) (drawn_le (by decide) (by decide)) | exact plain4 (by rw [List.length_map, List.length_map]; exact drawn_len (by decide) (by decide)) (drawn_le (by decide) (by decide)))))
                | ((with_reducible show wpAny _ _ (compareOp _ (Value.bytes _ _) (Value.ref _)) _ _ _); k_dflt (refine' in_bytes ?k1 ?k2 ?k3 ?k4 ?_; (case k1 => k_asm); (case k2 => k_mem); (case k3 => first | exact trivial | simp [AllBytes]); (case k4 => rfl)))
                | ((with_reducible show wpAny _ _ (call (Value.ref 68) _) _ _ _); k_dflt (refine' good_use ?k1 ?k2 ?k3 ?k4 ?k5 ?k6 ?k7 ?k8 ?k9 ?k10 ?_; (case k10 => first | exact (rfl : ((1:Nat):Int) = 1) | exact (rfl : ((2:Nat):Int) = 2) | exact (rfl : ((3:Nat):Int) = 3) | exact (rfl : ((4:Nat):Int) = 4)); (case k1 => k_asm); (case k2 => k_asm); (case k3 => k_asm); (case k4 => k_asm); (case k5 => k_asm); (case k6 => exact rfl); (case k7 => first | decide | (simp only [List.length_map, List.length_take]; omega)); (case k8 => decide); (case k9 => decide)); intro h9 tk9 r9 F9 N9 e9; (try (replace e9 := e9.trans (show goodB _ _ = true by decide +kernel))); subst e9; (try k_sweep))); k_steps)
            refine callDef_C (K := hd.heap_39 w.params) (by assumption) (by rfl) ?_
            k_steps
            repeat' ((with_reducible refine Held.off ?_); (first
                | ((with_reducible show wpAny _ _ (call (Value.builtin "sum") [Value.ref _]) _ _ _); (with_reducible rename IsRange _ _ _ _ _ _ _ _ => rg9); (k_dflt (refine' sum_range_N ?k1 ?k2 ?k3 rg9 ?k5 ?k6 ?k7 ?_; (case k1 => k_asm); (case k2 => k_asm); (case k3 => exact rfl); (case k5 => decide); (case k6 => first | exact (show _ = ((6 : Nat) : Int) by decide) | exact (show _ = ((8 : Nat) : Int) by decide)); (case k7 => first | exact (show _ = (21 : Int) by decide) | exact (show _ = (36 : Int) by decide))); clear rg9; intro h9 t9 k9 F9 N9; (try k_sweep)))
                | ((with_reducible show wpAny _ _ (compareOp _ (Value.bytes _ _) (Value.ref _)) _ _ _); k_dflt (refine' notIn_bytes (c := true) ?k1 ?k2 ?k3 ?k4 ?_; (case k1 => k_asm); (case k2 => k_mem); (case k3 => simp [AllBytes]); (case k4 => first | exact rfl | decide +kernel +revert)))
                | ((with_reducible show wpAny _ _ (compareOp CmpOp.Eq _ _) _ _ _); k_dflt (refine' eq_yes ?zz9 ?_; (case zz9 => first | exact plain1 (by rw [List.length_map, List.length_map]; exact drawn_len (by decide) (by decide)) | exact plain2 (by rw [List.length_map, List.length_map]; exact drawn_len (by decide) (by decide)) | exact plain3 (by rw [List.length_map, List.length_map]; exact drawn_len (by decide) (by decide)) (drawn_le (by decide) (by decide)) | exact plain4 (by rw [List.length_map, List.length_map]; exact drawn_len (by decide) (by decide)) (drawn_le (by decide) (by decide)))))
                | ((with_reducible show wpAny _ _ (compareOp _ (Value.bytes _ _) (Value.ref _)) _ _ _); k_dflt (refine' in_bytes ?k1 ?k2 ?k3 ?k4 ?_; (case k1 => k_asm); (case k2 => k_mem); (case k3 => first | exact trivial | simp [AllBytes]); (case k4 => rfl)))
                | ((with_reducible show wpAny _ _ (call (Value.ref 68) _) _ _ _); k_dflt (refine' good_use ?k1 ?k2 ?k3 ?k4 ?k5 ?k6 ?k7 ?k8 ?k9 ?k10 ?_; (case k10 => first | exact (rfl : ((1:Nat):Int) = 1) | exact (rfl : ((2:Nat):Int) = 2) | exact (rfl : ((3:Nat):Int) = 3) | exact (rfl : ((4:Nat):Int) = 4)); (case k1 => k_asm); (case k2 => k_asm); (case k3 => k_asm); (case k4 => k_asm); (case k5 => k_asm); (case k6 => exact rfl); (case k7 => first | decide | (simp only [List.length_map, List.length_take]; omega)); (case k8 => decide); (case k9 => decide)); intro h9 tk9 r9 F9 N9 e9; (try (replace e9 := e9.trans (show goodB _ _ = true by decide +kernel))); subst e9; (try k_sweep))); k_steps)
            refine' swap6 ?k1 ?k2 ?k3 ?k4 ?k5 ?k6 ?_
            case k1 => k_asm
            case k2 => k_asm
            case k3 => k_asm
            case k4 => k_asm
            case k5 => k_asm
            case k6 => exact rfl
            intro h7 tk7 t7 F7 N7
            k_steps
            repeat' ((with_reducible refine Held.off ?_); (first
                | ((with_reducible show wpAny _ _ (call (Value.builtin "sum") [Value.ref _]) _ _ _); (with_reducible rename IsRange _ _ _ _ _ _ _ _ => rg9); (k_dflt (refine' sum_range_N ?k1 ?k2 ?k3 rg9 ?k5 ?k6 ?k7 ?_; (case k1 => k_asm); (case k2 => k_asm); (case k3 => exact rfl); (case k5 => decide); (case k6 => first | exact (show _ = ((6 : Nat) : Int) by decide) | exact (show _ = ((8 : Nat) : Int) by decide)); (case k7 => first | exact (show _ = (21 : Int) by decide) | exact (show _ = (36 : Int) by decide))); clear rg9; intro h9 t9 k9 F9 N9; (try k_sweep)))
                | ((with_reducible show wpAny _ _ (compareOp _ (Value.bytes _ _) (Value.ref _)) _ _ _); k_dflt (refine' notIn_bytes (c := true) ?k1 ?k2 ?k3 ?k4 ?_; (case k1 => k_asm); (case k2 => k_mem); (case k3 => simp [AllBytes]); (case k4 => first | exact rfl | decide +kernel +revert)))
                | ((with_reducible show wpAny _ _ (compareOp CmpOp.Eq _ _) _ _ _); k_dflt (refine' eq_yes ?zz9 ?_; (case zz9 => first | exact plain1 (by rw [List.length_map, List.length_map]; exact drawn_len (by decide) (by decide)) | exact plain2 (by rw [List.length_map, List.length_map]; exact drawn_len (by decide) (by decide)) | exact plain3 (by rw [List.length_map, List.length_map]; exact drawn_len (by decide) (by decide)) (drawn_le (by decide) (by decide)) | exact plain4 (by rw [List.length_map, List.length_map]; exact drawn_len (by decide) (by decide)) (drawn_le (by decide) (by decide)))))
                | ((with_reducible show wpAny _ _ (compareOp _ (Value.bytes _ _) (Value.ref _)) _ _ _); k_dflt (refine' in_bytes ?k1 ?k2 ?k3 ?k4 ?_; (case k1 => k_asm); (case k2 => k_mem); (case k3 => first | exact trivial | simp [AllBytes]); (case k4 => rfl)))
                | ((with_reducible show wpAny _ _ (call (Value.ref 68) _) _ _ _); k_dflt (refine' good_use ?k1 ?k2 ?k3 ?k4 ?k5 ?k6 ?k7 ?k8 ?k9 ?k10 ?_; (case k10 => first | exact (rfl : ((1:Nat):Int) = 1) | exact (rfl : ((2:Nat):Int) = 2) | exact (rfl : ((3:Nat):Int) = 3) | exact (rfl : ((4:Nat):Int) = 4)); (case k1 => k_asm); (case k2 => k_asm); (case k3 => k_asm); (case k4 => k_asm); (case k5 => k_asm); (case k6 => exact rfl); (case k7 => first | decide | (simp only [List.length_map, List.length_take]; omega)); (case k8 => decide); (case k9 => decide)); intro h9 tk9 r9 F9 N9 e9; (try (replace e9 := e9.trans (show goodB _ _ = true by decide +kernel))); subst e9; (try k_sweep))); k_steps)
            refine wpC_of ?_
            k_steps
            repeat' ((with_reducible refine Held.off ?_); (first
                | ((with_reducible show wpAny _ _ (call (Value.builtin "sum") [Value.ref _]) _ _ _); (with_reducible rename IsRange _ _ _ _ _ _ _ _ => rg9); (k_dflt (refine' sum_range_N ?k1 ?k2 ?k3 rg9 ?k5 ?k6 ?k7 ?_; (case k1 => k_asm); (case k2 => k_asm); (case k3 => exact rfl); (case k5 => decide); (case k6 => first | exact (show _ = ((6 : Nat) : Int) by decide) | exact (show _ = ((8 : Nat) : Int) by decide)); (case k7 => first | exact (show _ = (21 : Int) by decide) | exact (show _ = (36 : Int) by decide))); clear rg9; intro h9 t9 k9 F9 N9; (try k_sweep)))
                | ((with_reducible show wpAny _ _ (compareOp _ (Value.bytes _ _) (Value.ref _)) _ _ _); k_dflt (refine' notIn_bytes (c := true) ?k1 ?k2 ?k3 ?k4 ?_; (case k1 => k_asm); (case k2 => k_mem); (case k3 => simp [AllBytes]); (case k4 => first | exact rfl | decide +kernel +revert)))
                | ((with_reducible show wpAny _ _ (compareOp CmpOp.Eq _ _) _ _ _); k_dflt (refine' eq_yes ?zz9 ?_; (case zz9 => first | exact plain1 (by rw [List.length_map, List.length_map]; exact drawn_len (by decide) (by decide)) | exact plain2 (by rw [List.length_map, List.length_map]; exact drawn_len (by decide) (by decide)) | exact plain3 (by rw [List.length_map, List.length_map]; exact drawn_len (by decide) (by decide)) (drawn_le (by decide) (by decide)) | exact plain4 (by rw [List.length_map, List.length_map]; exact drawn_len (by decide) (by decide)) (drawn_le (by decide) (by decide)))))
                | ((with_reducible show wpAny _ _ (compareOp _ (Value.bytes _ _) (Value.ref _)) _ _ _); k_dflt (refine' in_bytes ?k1 ?k2 ?k3 ?k4 ?_; (case k1 => k_asm); (case k2 => k_mem); (case k3 => first | exact trivial | simp [AllBytes]); (case k4 => rfl)))
                | ((with_reducible show wpAny _ _ (call (Value.ref 68) _) _ _ _); k_dflt (refine' good_use ?k1 ?k2 ?k3 ?k4 ?k5 ?k6 ?k7 ?k8 ?k9 ?k10 ?_; (case k10 => first | exact (rfl : ((1:Nat):Int) = 1) | exact (rfl : ((2:Nat):Int) = 2) | exact (rfl : ((3:Nat):Int) = 3) | exact (rfl : ((4:Nat):Int) = 4)); (case k1 => k_asm); (case k2 => k_asm); (case k3 => k_asm); (case k4 => k_asm); (case k5 => k_asm); (case k6 => exact rfl); (case k7 => first | decide | (simp only [List.length_map, List.length_take]; omega)); (case k8 => decide); (case k9 => decide)); intro h9 tk9 r9 F9 N9 e9; (try (replace e9 := e9.trans (show goodB _ _ = true by decide +kernel))); subst e9; (try k_sweep))); k_steps)
            show Mid3 _ _ _ _ _ _ _ _ _ _ _ _ _ _ _
            rename Fr _ _ _ _ => kF
            rename News _ _ _ _ => kN
            refine' use8 (a := (I9, oI)) (b := (r1, _)) (c := (44, _)) (d := (37, _)) (e := (c1, _)) (f := (c2, _)) (g := (s₁.heap.objs.size + 1 + 1, _)) (i := (s₁.heap.objs.size + 1, _)) kN ?y1 ?y2 ?y3 ?y4 ?y5 ?y6 ?y7 ?y8 ?_
            case y1 => k_mem
            case y2 => k_mem
            case y3 => k_mem
            case y4 => k_mem
            case y5 => k_mem
            case y6 => k_mem
            case y7 => k_mem
            case y8 => k_mem
            intro N6
            exact ⟨_, _, _, _, _, _, _, rfl, ho8, (by assumption), fr_mid2 kF (by rfl) (fun z a b c => by simp only [if_neg a, if_neg b, if_neg c]), N6⟩
          intro s4 hM
        focus
          refine turn_some (v := Value.bytes _ _) hB rfl hM ?_ ?_
          focus
            clear hM
            intro oI oR vf vt vR h8 tk8 ho8 hv8 F8 N8
            have hb8 := hB
            unfold Below8 at hb8
            k_steps
            repeat' ((with_reducible refine Held.off ?_); (first
                | ((with_reducible show wpAny _ _ (call (Value.builtin "sum") [Value.ref _]) _ _ _); (with_reducible rename IsRange _ _ _ _ _ _ _ _ => rg9); (k_dflt (refine' sum_range_N ?k1 ?k2 ?k3 rg9 ?k5 ?k6 ?k7 ?_; (case k1 => k_asm); (case k2 => k_asm); (case k3 => exact rfl); (case k5 => decide); (case k6 => first | exact (show _ = ((6 : Nat) : Int) by decide) | exact (show _ = ((8 : Nat) : Int) by decide)); (case k7 => first | exact (show _ = (21 : Int) by decide) | exact (show _ = (36 : Int) by decide))); clear rg9; intro h9 t9 k9 F9 N9; (try k_sweep)))
                | ((with_reducible show wpAny _ _ (compareOp _ (Value.bytes _ _) (Value.ref _)) _ _ _); k_dflt (refine' notIn_bytes (c := true) ?k1 ?k2 ?k3 ?k4 ?_; (case k1 => k_asm); (case k2 => k_mem); (case k3 => simp [AllBytes]); (case k4 => first | exact rfl | decide +kernel +revert)))
                | ((with_reducible show wpAny _ _ (compareOp CmpOp.Eq _ _) _ _ _); k_dflt (refine' eq_yes ?zz9 ?_; (case zz9 => first | exact plain1 (by rw [List.length_map, List.length_map]; exact drawn_len (by decide) (by decide)) | exact plain2 (by rw [List.length_map, List.length_map]; exact drawn_len (by decide) (by decide)) | exact plain3 (by rw [List.length_map, List.length_map]; exact drawn_len (by decide) (by decide)) (drawn_le (by decide) (by decide)) | exact plain4 (by rw [List.length_map, List.length_map]; exact drawn_len (by decide) (by decide)) (drawn_le (by decide) (by decide)))))
                | ((with_reducible show wpAny _ _ (compareOp _ (Value.bytes _ _) (Value.ref _)) _ _ _); k_dflt (refine' in_bytes ?k1 ?k2 ?k3 ?k4 ?_; (case k1 => k_asm); (case k2 => k_mem); (case k3 => first | exact trivial | simp [AllBytes]); (case k4 => rfl)))
                | ((with_reducible show wpAny _ _ (call (Value.ref 68) _) _ _ _); k_dflt (refine' good_use ?k1 ?k2 ?k3 ?k4 ?k5 ?k6 ?k7 ?k8 ?k9 ?k10 ?_; (case k10 => first | exact (rfl : ((1:Nat):Int) = 1) | exact (rfl : ((2:Nat):Int) = 2) | exact (rfl : ((3:Nat):Int) = 3) | exact (rfl : ((4:Nat):Int) = 4)); (case k1 => k_asm); (case k2 => k_asm); (case k3 => k_asm); (case k4 => k_asm); (case k5 => k_asm); (case k6 => exact rfl); (case k7 => first | decide | (simp only [List.length_map, List.length_take]; omega)); (case k8 => decide); (case k9 => decide)); intro h9 tk9 r9 F9 N9 e9; (try (replace e9 := e9.trans (show goodB _ _ = true by decide +kernel))); subst e9; (try k_sweep))); k_steps)
            refine execs_first (assign_C (evalCall_C ?_))
            k_steps
            repeat' ((with_reducible refine Held.off ?_); (first
                | ((with_reducible show wpAny _ _ (call (Value.builtin "sum") [Value.ref _]) _ _ _); (with_reducible rename IsRange _ _ _ _ _ _ _ _ => rg9); (k_dflt (refine' sum_range_N ?k1 ?k2 ?k3 rg9 ?k5 ?k6 ?k7 ?_; (case k1 => k_asm); (case k2 => k_asm); (case k3 => exact rfl); (case k5 => decide); (case k6 => first | exact (show _ = ((6 : Nat) : Int) by decide) | exact (show _ = ((8 : Nat) : Int) by decide)); (case k7 => first | exact (show _ = (21 : Int) by decide) | exact (show _ = (36 : Int) by decide))); clear rg9; intro h9 t9 k9 F9 N9; (try k_sweep)))
                | ((with_reducible show wpAny _ _ (compareOp _ (Value.bytes _ _) (Value.ref _)) _ _ _); k_dflt (refine' notIn_bytes (c := true) ?k1 ?k2 ?k3 ?k4 ?_; (case k1 => k_asm); (case k2 => k_mem); (case k3 => simp [AllBytes]); (case k4 => first | exact rfl | decide +kernel +revert)))
                | ((with_reducible show wpAny _ _ (compareOp CmpOp.Eq _ _) _ _ _); k_dflt (refine' eq_yes ?zz9 ?_; (case zz9 => first | exact plain1 (by rw [List.length_map, List.length_map]; exact drawn_len (by decide) (by decide)) | exact plain2 (by rw [List.length_map, List.length_map]; exact drawn_len (by decide) (by decide)) | exact plain3 (by rw [List.length_map, List.length_map]; exact drawn_len (by decide) (by decide)) (drawn_le (by decide) (by decide)) | exact plain4 (by rw [List.length_map, List.length_map]; exact drawn_len (by decide) (by decide)) (drawn_le (by decide) (by decide)))))
                | ((with_reducible show wpAny _ _ (compareOp _ (Value.bytes _ _) (Value.ref _)) _ _ _); k_dflt (refine' in_bytes ?k1 ?k2 ?k3 ?k4 ?_; (case k1 => k_asm); (case k2 => k_mem); (case k3 => first | exact trivial | simp [AllBytes]); (case k4 => rfl)))
                | ((with_reducible show wpAny _ _ (call (Value.ref 68) _) _ _ _); k_dflt (refine' good_use ?k1 ?k2 ?k3 ?k4 ?k5 ?k6 ?k7 ?k8 ?k9 ?k10 ?_; (case k10 => first | exact (rfl : ((1:Nat):Int) = 1) | exact (rfl : ((2:Nat):Int) = 2) | exact (rfl : ((3:Nat):Int) = 3) | exact (rfl : ((4:Nat):Int) = 4)); (case k1 => k_asm); (case k2 => k_asm); (case k3 => k_asm); (case k4 => k_asm); (case k5 => k_asm); (case k6 => exact rfl); (case k7 => first | decide | (simp only [List.length_map, List.length_take]; omega)); (case k8 => decide); (case k9 => decide)); intro h9 tk9 r9 F9 N9 e9; (try (replace e9 := e9.trans (show goodB _ _ = true by decide +kernel))); subst e9; (try k_sweep))); k_steps)
            refine callDef_C (K := hd.heap_39 w.params) (by assumption) (by rfl) ?_
            k_steps
            repeat' ((with_reducible refine Held.off ?_); (first
                | ((with_reducible show wpAny _ _ (call (Value.builtin "sum") [Value.ref _]) _ _ _); (with_reducible rename IsRange _ _ _ _ _ _ _ _ => rg9); (k_dflt (refine' sum_range_N ?k1 ?k2 ?k3 rg9 ?k5 ?k6 ?k7 ?_; (case k1 => k_asm); (case k2 => k_asm); (case k3 => exact rfl); (case k5 => decide); (case k6 => first | exact (show _ = ((6 : Nat) : Int) by decide) | exact (show _ = ((8 : Nat) : Int) by decide)); (case k7 => first | exact (show _ = (21 : Int) by decide) | exact (show _ = (36 : Int) by decide))); clear rg9; intro h9 t9 k9 F9 N9; (try k_sweep)))
                | ((with_reducible show wpAny _ _ (compareOp _ (Value.bytes _ _) (Value.ref _)) _ _ _); k_dflt (refine' notIn_bytes (c := true) ?k1 ?k2 ?k3 ?k4 ?_; (case k1 => k_asm); (case k2 => k_mem); (case k3 => simp [AllBytes]); (case k4 => first | exact rfl | decide +kernel +revert)))
                | ((with_reducible show wpAny _ _ (compareOp CmpOp.Eq _ _) _ _ _); k_dflt (refine' eq_yes ?zz9 ?_; (case zz9 => first | exact plain1 (by rw [List.length_map, List.length_map]; exact drawn_len (by decide) (by decide)) | exact plain2 (by rw [List.length_map, List.length_map]; exact drawn_len (by decide) (by decide)) | exact plain3 (by rw [List.length_map, List.length_map]; exact drawn_len (by decide) (by decide)) (drawn_le (by decide) (by decide)) | exact plain4 (by rw [List.length_map, List.length_map]; exact drawn_len (by decide) (by decide)) (drawn_le (by decide) (by decide)))))
                | ((with_reducible show wpAny _ _ (compareOp _ (Value.bytes _ _) (Value.ref _)) _ _ _); k_dflt (refine' in_bytes ?k1 ?k2 ?k3 ?k4 ?_; (case k1 => k_asm); (case k2 => k_mem); (case k3 => first | exact trivial | simp [AllBytes]); (case k4 => rfl)))
                | ((with_reducible show wpAny _ _ (call (Value.ref 68) _) _ _ _); k_dflt (refine' good_use ?k1 ?k2 ?k3 ?k4 ?k5 ?k6 ?k7 ?k8 ?k9 ?k10 ?_; (case k10 => first | exact (rfl : ((1:Nat):Int) = 1) | exact (rfl : ((2:Nat):Int) = 2) | exact (rfl : ((3:Nat):Int) = 3) | exact (rfl : ((4:Nat):Int) = 4)); (case k1 => k_asm); (case k2 => k_asm); (case k3 => k_asm); (case k4 => k_asm); (case k5 => k_asm); (case k6 => exact rfl); (case k7 => first | decide | (simp only [List.length_map, List.length_take]; omega)); (case k8 => decide); (case k9 => decide)); intro h9 tk9 r9 F9 N9 e9; (try (replace e9 := e9.trans (show goodB _ _ = true by decide +kernel))); subst e9; (try k_sweep))); k_steps)
            refine' swap6 ?k1 ?k2 ?k3 ?k4 ?k5 ?k6 ?_
            case k1 => k_asm
            case k2 => k_asm
            case k3 => k_asm
            case k4 => k_asm
            case k5 => k_asm
            case k6 => exact rfl
            intro h7 tk7 t7 F7 N7
            k_steps
            repeat' ((with_reducible refine Held.off ?_); (first
                | ((with_reducible show wpAny _ _ (call (Value.builtin "sum") [Value.ref _]) _ _ _); (with_reducible rename IsRange _ _ _ _ _ _ _ _ => rg9); (k_dflt (refine' sum_range_N ?k1 ?k2 ?k3 rg9 ?k5 ?k6 ?k7 ?_; (case k1 => k_asm); (case k2 => k_asm); (case k3 => exact rfl); (case k5 => decide); (case k6 => first | exact (show _ = ((6 : Nat) : Int) by decide) | exact (show _ = ((8 : Nat) : Int) by decide)); (case k7 => first | exact (show _ = (21 : Int) by decide) | exact (show _ = (36 : Int) by decide))); clear rg9; intro h9 t9 k9 F9 N9; (try k_sweep)))
                | ((with_reducible show wpAny _ _ (compareOp _ (Value.bytes _ _) (Value.ref _)) _ _ _); k_dflt (refine' notIn_bytes (c := true) ?k1 ?k2 ?k3 ?k4 ?_; (case k1 => k_asm); (case k2 => k_mem); (case k3 => simp [AllBytes]); (case k4 => first | exact rfl | decide +kernel +revert)))
                | ((with_reducible show wpAny _ _ (compareOp CmpOp.Eq _ _) _ _ _); k_dflt (refine' eq_yes ?zz9 ?_; (case zz9 => first | exact plain1 (by rw [List.length_map, List.length_map]; exact drawn_len (by decide) (by decide)) | exact plain2 (by rw [List.length_map, List.length_map]; exact drawn_len (by decide) (by decide)) | exact plain3 (by rw [List.length_map, List.length_map]; exact drawn_len (by decide) (by decide)) (drawn_le (by decide) (by decide)) | exact plain4 (by rw [List.length_map, List.length_map]; exact drawn_len (by decide) (by decide)) (drawn_le (by decide) (by decide)))))
                | ((with_reducible show wpAny _ _ (compareOp _ (Value.bytes _ _) (Value.ref _)) _ _ _); k_dflt (refine' in_bytes ?k1 ?k2 ?k3 ?k4 ?_; (case k1 => k_asm); (case k2 => k_mem); (case k3 => first | exact trivial | simp [AllBytes]); (case k4 => rfl)))
                | ((with_reducible show wpAny _ _ (call (Value.ref 68) _) _ _ _); k_dflt (refine' good_use ?k1 ?k2 ?k3 ?k4 ?k5 ?k6 ?k7 ?k8 ?k9 ?k10 ?_; (case k10 => first | exact (rfl : ((1:Nat):Int) = 1) | exact (rfl : ((2:Nat):Int) = 2) | exact (rfl : ((3:Nat):Int) = 3) | exact (rfl : ((4:Nat):Int) = 4)); (case k1 => k_asm); (case k2 => k_asm); (case k3 => k_asm); (case k4 => k_asm); (case k5 => k_asm); (case k6 => exact rfl); (case k7 => first | decide | (simp only [List.length_map, List.length_take]; omega)); (case k8 => decide); (case k9 => decide)); intro h9 tk9 r9 F9 N9 e9; (try (replace e9 := e9.trans (show goodB _ _ = true by decide +kernel))); subst e9; (try k_sweep))); k_steps)
            refine wpC_of ?_
            k_steps
            repeat' ((with_reducible refine Held.off ?_); (first
                | ((with_reducible show wpAny _ _ (call (Value.builtin "sum") [Value.ref _]) _ _ _); (with_reducible rename IsRange _ _ _ _ _ _ _ _ => rg9); (k_dflt (refine' sum_range_N ?k1 ?k2 ?k3 rg9 ?k5 ?k6 ?k7 ?_; (case k1 => k_asm); (case k2 => k_asm); (case k3 => exact rfl); (case k5 => decide); (case k6 => first | exact (show _ = ((6 : Nat) : Int) by decide) | exact (show _ = ((8 : Nat) : Int) by decide)); (case k7 => first | exact (show _ = (21 : Int) by decide) | exact (show _ = (36 : Int) by decide))); clear rg9; intro h9 t9 k9 F9 N9; (try k_sweep)))
                | ((with_reducible show wpAny _ _ (compareOp _ (Value.bytes _ _) (Value.ref _)) _ _ _); k_dflt (refine' notIn_bytes (c := true) ?k1 ?k2 ?k3 ?k4 ?_; (case k1 => k_asm); (case k2 => k_mem); (case k3 => simp [AllBytes]); (case k4 => first | exact rfl | decide +kernel +revert)))
                | ((with_reducible show wpAny _ _ (compareOp CmpOp.Eq _ _) _ _ _); k_dflt (refine' eq_yes ?zz9 ?_; (case zz9 => first | exact plain1 (by rw [List.length_map, List.length_map]; exact drawn_len (by decide) (by decide)) | exact plain2 (by rw [List.length_map, List.length_map]; exact drawn_len (by decide) (by decide)) | exact plain3 (by rw [List.length_map, List.length_map]; exact drawn_len (by decide) (by decide)) (drawn_le (by decide) (by decide)) | exact plain4 (by rw [List.length_map, List.length_map]; exact drawn_len (by decide) (by decide)) (drawn_le (by decide) (by decide)))))
                | ((with_reducible show wpAny _ _ (compareOp _ (Value.bytes _ _) (Value.ref _)) _ _ _); k_dflt (refine' in_bytes ?k1 ?k2 ?k3 ?k4 ?_; (case k1 => k_asm); (case k2 => k_mem); (case k3 => first | exact trivial | simp [AllBytes]); (case k4 => rfl)))
                | ((with_reducible show wpAny _ _ (call (Value.ref 68) _) _ _ _); k_dflt (refine' good_use ?k1 ?k2 ?k3 ?k4 ?k5 ?k6 ?k7 ?k8 ?k9 ?k10 ?_; (case k10 => first | exact (rfl : ((1:Nat):Int) = 1) | exact (rfl : ((2:Nat):Int) = 2) | exact (rfl : ((3:Nat):Int) = 3) | exact (rfl : ((4:Nat):Int) = 4)); (case k1 => k_asm); (case k2 => k_asm); (case k3 => k_asm); (case k4 => k_asm); (case k5 => k_asm); (case k6 => exact rfl); (case k7 => first | decide | (simp only [List.length_map, List.length_take]; omega)); (case k8 => decide); (case k9 => decide)); intro h9 tk9 r9 F9 N9 e9; (try (replace e9 := e9.trans (show goodB _ _ = true by decide +kernel))); subst e9; (try k_sweep))); k_steps)
            show Mid3 _ _ _ _ _ _ _ _ _ _ _ _ _ _ _
            rename Fr _ _ _ _ => kF
            rename News _ _ _ _ => kN
            refine' use8 (a := (I9, oI)) (b := (r1, _)) (c := (44, _)) (d := (37, _)) (e := (c1, _)) (f := (c2, _)) (g := (s₁.heap.objs.size + 1 + 1, _)) (i := (s₁.heap.objs.size + 1, _)) kN ?y1 ?y2 ?y3 ?y4 ?y5 ?y6 ?y7 ?y8 ?_
            case y1 => k_mem
            case y2 => k_mem
            case y3 => k_mem
            case y4 => k_mem
            case y5 => k_mem
            case y6 => k_mem
            case y7 => k_mem
            case y8 => k_mem
            intro N6
            exact ⟨_, _, _, _, _, _, _, rfl, ho8, (by assumption), fr_mid2 kF (by rfl) (fun z a b c => by simp only [if_neg a, if_neg b, if_neg c]), N6⟩
          intro s4 hM
        exact turn_none rfl hB rfl hM (by exact Or.inr (Or.inr (Or.inl ⟨rfl, _, _, rfl⟩))) hK hap (fun s' q => q)
      focus
        have hap3 := ap3 hap
        refine loop_start s₁ F1 N1 hRo (by rfl) (fun z _ _ c => if_neg c) ?_ ?_
        focus
          k_steps
          repeat' ((with_reducible refine Held.off ?_); (first
              | ((with_reducible show wpAny _ _ (call (Value.builtin "sum") [Value.ref _]) _ _ _); (with_reducible rename IsRange _ _ _ _ _ _ _ _ => rg9); (k_dflt (refine' sum_range_N ?k1 ?k2 ?k3 rg9 ?k5 ?k6 ?k7 ?_; (case k1 => k_asm); (case k2 => k_asm); (case k3 => exact rfl); (case k5 => decide); (case k6 => first | exact (show _ = ((6 : Nat) : Int) by decide) | exact (show _ = ((8 : Nat) : Int) by decide)); (case k7 => first | exact (show _ = (21 : Int) by decide) | exact (show _ = (36 : Int) by decide))); clear rg9; intro h9 t9 k9 F9 N9; (try k_sweep)))
              | ((with_reducible show wpAny _ _ (compareOp _ (Value.bytes _ _) (Value.ref _)) _ _ _); k_dflt (refine' notIn_bytes (c := true) ?k1 ?k2 ?k3 ?k4 ?_; (case k1 => k_asm); (case k2 => k_mem); (case k3 => simp [AllBytes]); (case k4 => first | exact rfl | decide +kernel +revert)))
              | ((with_reducible show wpAny _ _ (compareOp CmpOp.Eq _ _) _ _ _); k_dflt (refine' eq_yes ?zz9 ?_; (case zz9 => first | exact plain1 (by rw [List.length_map, List.length_map]; exact drawn_len (by decide) (by decide)) | exact plain2 (by rw [List.length_map, List.length_map]; exact drawn_len (by decide) (by decide)) | exact plain3 (by rw [List.length_map, List.length_map]; exact drawn_len (by decide) (by decide)) (drawn_le (by decide) (by decide)) | exact plain4 (by rw [List.length_map, List.length_map]; exact drawn_len (by decide) (by decide)) (drawn_le (by decide) (by decide)))))
              | ((with_reducible show wpAny _ _ (compareOp _ (Value.bytes _ _) (Value.ref _)) _ _ _); k_dflt (refine' in_bytes ?k1 ?k2 ?k3 ?k4 ?_; (case k1 => k_asm); (case k2 => k_mem); (case k3 => first | exact trivial | simp [AllBytes]); (case k4 => rfl)))
              | ((with_reducible show wpAny _ _ (call (Value.ref 68) _) _ _ _); k_dflt (refine' good_use ?k1 ?k2 ?k3 ?k4 ?k5 ?k6 ?k7 ?k8 ?k9 ?k10 ?_; (case k10 => first | exact (rfl : ((1:Nat):Int) = 1) | exact (rfl : ((2:Nat):Int) = 2) | exact (rfl : ((3:Nat):Int) = 3) | exact (rfl : ((4:Nat):Int) = 4)); (case k1 => k_asm); (case k2 => k_asm); (case k3 => k_asm); (case k4 => k_asm); (case k5 => k_asm); (case k6 => exact rfl); (case k7 => first | decide | (simp only [List.length_map, List.length_take]; omega)); (case k8 => decide); (case k9 => decide)); intro h9 tk9 r9 F9 N9 e9; (try (replace e9 := e9.trans (show goodB _ _ = true by decide +kernel))); subst e9; (try k_sweep))); k_steps)
          all_goals exact ⟨rfl, rfl⟩
        clear F1 N1
        intro I9 s3 hB hM
        focus
          refine turn_some (v := Value.bytes _ _) hB rfl hM ?_ ?_
          focus
            clear hM
            intro oI oR vf vt vR h8 tk8 ho8 hv8 F8 N8
            have hb8 := hB
            unfold Below8 at hb8
            k_steps
            repeat' ((with_reducible refine Held.off ?_); (first
                | ((with_reducible show wpAny _ _ (call (Value.builtin "sum") [Value.ref _]) _ _ _); (with_reducible rename IsRange _ _ _ _ _ _ _ _ => rg9); (k_dflt (refine' sum_range_N ?k1 ?k2 ?k3 rg9 ?k5 ?k6 ?k7 ?_; (case k1 => k_asm); (case k2 => k_asm); (case k3 => exact rfl); (case k5 => decide); (case k6 => first | exact (show _ = ((6 : Nat) : Int) by decide) | exact (show _ = ((8 : Nat) : Int) by decide)); (case k7 => first | exact (show _ = (21 : Int) by decide) | exact (show _ = (36 : Int) by decide))); clear rg9; intro h9 t9 k9 F9 N9; (try k_sweep)))
                | ((with_reducible show wpAny _ _ (compareOp _ (Value.bytes _ _) (Value.ref _)) _ _ _); k_dflt (refine' notIn_bytes (c := true) ?k1 ?k2 ?k3 ?k4 ?_; (case k1 => k_asm); (case k2 => k_mem); (case k3 => simp [AllBytes]); (case k4 => first | exact rfl | decide +kernel +revert)))
                | ((with_reducible show wpAny _ _ (compareOp CmpOp.Eq _ _) _ _ _); k_dflt (refine' eq_yes ?zz9 ?_; (case zz9 => first | exact plain1 (by rw [List.length_map, List.length_map]; exact drawn_len (by decide) (by decide)) | exact plain2 (by rw [List.length_map, List.length_map]; exact drawn_len (by decide) (by decide)) | exact plain3 (by rw [List.length_map, List.length_map]; exact drawn_len (by decide) (by decide)) (drawn_le (by decide) (by decide)) | exact plain4 (by rw [List.length_map, List.length_map]; exact drawn_len (by decide) (by decide)) (drawn_le (by decide) (by decide)))))
                | ((with_reducible show wpAny _ _ (compareOp _ (Value.bytes _ _) (Value.ref _)) _ _ _); k_dflt (refine' in_bytes ?k1 ?k2 ?k3 ?k4 ?_; (case k1 => k_asm); (case k2 => k_mem); (case k3 => first | exact trivial | simp [AllBytes]); (case k4 => rfl)))
                | ((with_reducible show wpAny _ _ (call (Value.ref 68) _) _ _ _); k_dflt (refine' good_use ?k1 ?k2 ?k3 ?k4 ?k5 ?k6 ?k7 ?k8 ?k9 ?k10 ?_; (case k10 => first | exact (rfl : ((1:Nat):Int) = 1) | exact (rfl : ((2:Nat):Int) = 2) | exact (rfl : ((3:Nat):Int) = 3) | exact (rfl : ((4:Nat):Int) = 4)); (case k1 => k_asm); (case k2 => k_asm); (case k3 => k_asm); (case k4 => k_asm); (case k5 => k_asm); (case k6 => exact rfl); (case k7 => first | decide | (simp only [List.length_map, List.length_take]; omega)); (case k8 => decide); (case k9 => decide)); intro h9 tk9 r9 F9 N9 e9; (try (replace e9 := e9.trans (show goodB _ _ = true by decide +kernel))); subst e9; (try k_sweep))); k_steps)
            refine execs_first (assign_C (evalCall_C ?_))
            k_steps
            repeat' ((with_reducible refine Held.off ?_); (first
                | ((with_reducible show wpAny _ _ (call (Value.builtin "sum") [Value.ref _]) _ _ _); (with_reducible rename IsRange _ _ _ _ _ _ _ _ => rg9); (k_dflt (refine' sum_range_N ?k1 ?k2 ?k3 rg9 ?k5 ?k6 ?k7 ?_; (case k1 => k_asm); (case k2 => k_asm); (case k3 => exact rfl); (case k5 => decide); (case k6 => first | exact (show _ = ((6 : Nat) : Int) by decide) | exact (show _ = ((8 : Nat) : Int) by decide)); (case k7 => first | exact (show _ = (21 : Int) by decide) | exact (show _ = (36 : Int) by decide))); clear rg9; intro h9 t9 k9 F9 N9; (try k_sweep)))
                | ((with_reducible show wpAny _ _ (compareOp _ (Value.bytes _ _) (Value.ref _)) _ _ _); k_dflt (refine' notIn_bytes (c := true) ?k1 ?k2 ?k3 ?k4 ?_; (case k1 => k_asm); (case k2 => k_mem); (case k3 => simp [AllBytes]); (case k4 => first | exact rfl | decide +kernel +revert)))
                | ((with_reducible show wpAny _ _ (compareOp CmpOp.Eq _ _) _ _ _); k_dflt (refine' eq_yes ?zz9 ?_; (case zz9 => first | exact plain1 (by rw [List.length_map, List.length_map]; exact drawn_len (by decide) (by decide)) | exact plain2 (by rw [List.length_map, List.length_map]; exact drawn_len (by decide) (by decide)) | exact plain3 (by rw [List.length_map, List.length_map]; exact drawn_len (by decide) (by decide)) (drawn_le (by decide) (by decide)) | exact plain4 (by rw [List.length_map, List.length_map]; exact drawn_len (by decide) (by decide)) (drawn_le (by decide) (by decide)))))
                | ((with_reducible show wpAny _ _ (compareOp _ (Value.bytes _ _) (Value.ref _)) _ _ _); k_dflt (refine' in_bytes ?k1 ?k2 ?k3 ?k4 ?_; (case k1 => k_asm); (case k2 => k_mem); (case k3 => first | exact trivial | simp [AllBytes]); (case k4 => rfl)))
                | ((with_reducible show wpAny _ _ (call (Value.ref 68) _) _ _ _); k_dflt (refine' good_use ?k1 ?k2 ?k3 ?k4 ?k5 ?k6 ?k7 ?k8 ?k9 ?k10 ?_; (case k10 => first | exact (rfl : ((1:Nat):Int) = 1) | exact (rfl : ((2:Nat):Int) = 2) | exact (rfl : ((3:Nat):Int) = 3) | exact (rfl : ((4:Nat):Int) = 4)); (case k1 => k_asm); (case k2 => k_asm); (case k3 => k_asm); (case k4 => k_asm); (case k5 => k_asm); (case k6 => exact rfl); (case k7 => first | decide | (simp only [List.length_map, List.length_take]; omega)); (case k8 => decide); (case k9 => decide)); intro h9 tk9 r9 F9 N9 e9; (try (replace e9 := e9.trans (show goodB _ _ = true by decide +kernel))); subst e9; (try k_sweep))); k_steps)
            refine callDef_C (K := hd.heap_39 w.params) (by assumption) (by rfl) ?_
            k_steps
            repeat' ((with_reducible refine Held.off ?_); (first
                | ((with_reducible show wpAny _ _ (call (Value.builtin "sum") [Value.ref _]) _ _ _); (with_reducible rename IsRange _ _ _ _ _ _ _ _ => rg9); (k_dflt (refine' sum_range_N ?k1 ?k2 ?k3 rg9 ?k5 ?k6 ?k7 ?_; (case k1 => k_asm); (case k2 => k_asm); (case k3 => exact rfl); (case k5 => decide); (case k6 => first | exact (show _ = ((6 : Nat) : Int) by decide) | exact (show _ = ((8 : Nat) : Int) by decide)); (case k7 => first | exact (show _ = (21 : Int) by decide) | exact (show _ = (36 : Int) by decide))); clear rg9; intro h9 t9 k9 F9 N9; (try k_sweep)))
                | ((with_reducible show wpAny _ _ (compareOp _ (Value.bytes _ _) (Value.ref _)) _ _ _); k_dflt (refine' notIn_bytes (c := true) ?k1 ?k2 ?k3 ?k4 ?_; (case k1 => k_asm); (case k2 => k_mem); (case k3 => simp [AllBytes]); (case k4 => first | exact rfl | decide +kernel +revert)))
                | ((with_reducible show wpAny _ _ (compareOp CmpOp.Eq _ _) _ _ _); k_dflt (refine' eq_yes ?zz9 ?_; (case zz9 => first | exact plain1 (by rw [List.length_map, List.length_map]; exact drawn_len (by decide) (by decide)) | exact plain2 (by rw [List.length_map, List.length_map]; exact drawn_len (by decide) (by decide)) | exact plain3 (by rw [List.length_map, List.length_map]; exact drawn_len (by decide) (by decide)) (drawn_le (by decide) (by decide)) | exact plain4 (by rw [List.length_map, List.length_map]; exact drawn_len (by decide) (by decide)) (drawn_le (by decide) (by decide)))))
                | ((with_reducible show wpAny _ _ (compareOp _ (Value.bytes _ _) (Value.ref _)) _ _ _); k_dflt (refine' in_bytes ?k1 ?k2 ?k3 ?k4 ?_; (case k1 => k_asm); (case k2 => k_mem); (case k3 => first | exact trivial | simp [AllBytes]); (case k4 => rfl)))
                | ((with_reducible show wpAny _ _ (call (Value.ref 68) _) _ _ _); k_dflt (refine' good_use ?k1 ?k2 ?k3 ?k4 ?k5 ?k6 ?k7 ?k8 ?k9 ?k10 ?_; (case k10 => first | exact (rfl : ((1:Nat):Int) = 1) | exact (rfl : ((2:Nat):Int) = 2) | exact (rfl : ((3:Nat):Int) = 3) | exact (rfl : ((4:Nat):Int) = 4)); (case k1 => k_asm); (case k2 => k_asm); (case k3 => k_asm); (case k4 => k_asm); (case k5 => k_asm); (case k6 => exact rfl); (case k7 => first | decide | (simp only [List.length_map, List.length_take]; omega)); (case k8 => decide); (case k9 => decide)); intro h9 tk9 r9 F9 N9 e9; (try (replace e9 := e9.trans (show goodB _ _ = true by decide +kernel))); subst e9; (try k_sweep))); k_steps)
            refine' swap8 ?k1 ?k2 ?k3 ?k4 ?k5 ?k6 ?_
            case k1 => k_asm
            case k2 => k_asm
            case k3 => k_asm
            case k4 => k_asm
            case k5 => k_asm
            case k6 => exact rfl
            intro h7 tk7 t7 F7 N7
            k_steps
            repeat' ((with_reducible refine Held.off ?_); (first
                | ((with_reducible show wpAny _ _ (call (Value.builtin "sum") [Value.ref _]) _ _ _); (with_reducible rename IsRange _ _ _ _ _ _ _ _ => rg9); (k_dflt (refine' sum_range_N ?k1 ?k2 ?k3 rg9 ?k5 ?k6 ?k7 ?_; (case k1 => k_asm); (case k2 => k_asm); (case k3 => exact rfl); (case k5 => decide); (case k6 => first | exact (show _ = ((6 : Nat) : Int) by decide) | exact (show _ = ((8 : Nat) : Int) by decide)); (case k7 => first | exact (show _ = (21 : Int) by decide) | exact (show _ = (36 : Int) by decide))); clear rg9; intro h9 t9 k9 F9 N9; (try k_sweep)))
                | ((with_reducible show wpAny _ _ (compareOp _ (Value.bytes _ _) (Value.ref _)) _ _ _); k_dflt (refine' notIn_bytes (c := true) ?k1 ?k2 ?k3 ?k4 ?_; (case k1 => k_asm); (case k2 => k_mem); (case k3 => simp [AllBytes]); (case k4 => first | exact rfl | decide +kernel +revert)))
                | ((with_reducible show wpAny _ _ (compareOp CmpOp.Eq _ _) _ _ _); k_dflt (refine' eq_yes ?zz9 ?_; (case zz9 => first | exact plain1 (by rw [List.length_map, List.length_map]; exact drawn_len (by decide) (by decide)) | exact plain2 (by rw [List.length_map, List.length_map]; exact drawn_len (by decide) (by decide)) | exact plain3 (by rw [List.length_map, List.length_map]; exact drawn_len (by decide) (by decide)) (drawn_le (by decide) (by decide)) | exact plain4 (by rw [List.length_map, List.length_map]; exact drawn_len (by decide) (by decide)) (drawn_le (by decide) (by decide)))))
                | ((with_reducible show wpAny _ _ (compareOp _ (Value.bytes _ _) (Value.ref _)) _ _ _); k_dflt (refine' in_bytes ?k1 ?k2 ?k3 ?k4 ?_; (case k1 => k_asm); (case k2 => k_mem); (case k3 => first | exact trivial | simp [AllBytes]); (case k4 => rfl)))
                | ((with_reducible show wpAny _ _ (call (Value.ref 68) _) _ _ _); k_dflt (refine' good_use ?k1 ?k2 ?k3 ?k4 ?k5 ?k6 ?k7 ?k8 ?k9 ?k10 ?_; (case k10 => first | exact (rfl : ((1:Nat):Int) = 1) | exact (rfl : ((2:Nat):Int) = 2) | exact (rfl : ((3:Nat):Int) = 3) | exact (rfl : ((4:Nat):Int) = 4)); (case k1 => k_asm); (case k2 => k_asm); (case k3 => k_asm); (case k4 => k_asm); (case k5 => k_asm); (case k6 => exact rfl); (case k7 => first | decide | (simp only [List.length_map, List.length_take]; omega)); (case k8 => decide); (case k9 => decide)); intro h9 tk9 r9 F9 N9 e9; (try (replace e9 := e9.trans (show goodB _ _ = true by decide +kernel))); subst e9; (try k_sweep))); k_steps)
            refine wpC_of ?_
            k_steps
            repeat' ((with_reducible refine Held.off ?_); (first
                | ((with_reducible show wpAny _ _ (call (Value.builtin "sum") [Value.ref _]) _ _ _); (with_reducible rename IsRange _ _ _ _ _ _ _ _ => rg9); (k_dflt (refine' sum_range_N ?k1 ?k2 ?k3 rg9 ?k5 ?k6 ?k7 ?_; (case k1 => k_asm); (case k2 => k_asm); (case k3 => exact rfl); (case k5 => decide); (case k6 => first | exact (show _ = ((6 : Nat) : Int) by decide) | exact (show _ = ((8 : Nat) : Int) by decide)); (case k7 => first | exact (show _ = (21 : Int) by decide) | exact (show _ = (36 : Int) by decide))); clear rg9; intro h9 t9 k9 F9 N9; (try k_sweep)))
                | ((with_reducible show wpAny _ _ (compareOp _ (Value.bytes _ _) (Value.ref _)) _ _ _); k_dflt (refine' notIn_bytes (c := true) ?k1 ?k2 ?k3 ?k4 ?_; (case k1 => k_asm); (case k2 => k_mem); (case k3 => simp [AllBytes]); (case k4 => first | exact rfl | decide +kernel +revert)))
                | ((with_reducible show wpAny _ _ (compareOp CmpOp.Eq _ _) _ _ _); k_dflt (refine' eq_yes ?zz9 ?_; (case zz9 => first | exact plain1 (by rw [List.length_map, List.length_map]; exact drawn_len (by decide) (by decide)) | exact plain2 (by rw [List.length_map, List.length_map]; exact drawn_len (by decide) (by decide)) | exact plain3 (by rw [List.length_map, List.length_map]; exact drawn_len (by decide) (by decide)) (drawn_le (by decide) (by decide)) | exact plain4 (by rw [List.length_map, List.length_map]; exact drawn_len (by decide) (by decide)) (drawn_le (by decide) (by decide)))))
                | ((with_reducible show wpAny _ _ (compareOp _ (Value.bytes _ _) (Value.ref _)) _ _ _); k_dflt (refine' in_bytes ?k1 ?k2 ?k3 ?k4 ?_; (case k1 => k_asm); (case k2 => k_mem); (case k3 => first | exact trivial | simp [AllBytes]); (case k4 => rfl)))
                | ((with_reducible show wpAny _ _ (call (Value.ref 68) _) _ _ _); k_dflt (refine' good_use ?k1 ?k2 ?k3 ?k4 ?k5 ?k6 ?k7 ?k8 ?k9 ?k10 ?_; (case k10 => first | exact (rfl : ((1:Nat):Int) = 1) | exact (rfl : ((2:Nat):Int) = 2) | exact (rfl : ((3:Nat):Int) = 3) | exact (rfl : ((4:Nat):Int) = 4)); (case k1 => k_asm); (case k2 => k_asm); (case k3 => k_asm); (case k4 => k_asm); (case k5 => k_asm); (case k6 => exact rfl); (case k7 => first | decide | (simp only [List.length_map, List.length_take]; omega)); (case k8 => decide); (case k9 => decide)); intro h9 tk9 r9 F9 N9 e9; (try (replace e9 := e9.trans (show goodB _ _ = true by decide +kernel))); subst e9; (try k_sweep))); k_steps)
            show Mid3 _ _ _ _ _ _ _ _ _ _ _ _ _ _ _
            rename Fr _ _ _ _ => kF
            rename News _ _ _ _ => kN
            refine' use8 (a := (I9, oI)) (b := (r1, _)) (c := (44, _)) (d := (37, _)) (e := (c1, _)) (f := (c2, _)) (g := (s₁.heap.objs.size + 1 + 1, _)) (i := (s₁.heap.objs.size + 1, _)) kN ?y1 ?y2 ?y3 ?y4 ?y5 ?y6 ?y7 ?y8 ?_
            case y1 => k_mem
            case y2 => k_mem
            case y3 => k_mem
            case y4 => k_mem
            case y5 => k_mem
            case y6 => k_mem
            case y7 => k_mem
            case y8 => k_mem
            intro N6
            exact ⟨_, _, _, _, _, _, _, rfl, ho8, (by assumption), fr_mid2 kF (by rfl) (fun z a b c => by simp only [if_neg a, if_neg b, if_neg c]), N6⟩
          intro s4 hM
        focus
          refine turn_some (v := Value.bytes _ _) hB rfl hM ?_ ?_
          focus
            clear hM
            intro oI oR vf vt vR h8 tk8 ho8 hv8 F8 N8
            have hb8 := hB
            unfold Below8 at hb8
            k_steps
            repeat' ((with_reducible refine Held.off ?_); (first
                | ((with_reducible show wpAny _ _ (call (Value.builtin "sum") [Value.ref _]) _ _ _); (with_reducible rename IsRange _ _ _ _ _ _ _ _ => rg9); (k_dflt (refine' sum_range_N ?k1 ?k2 ?k3 rg9 ?k5 ?k6 ?k7 ?_; (case k1 => k_asm); (case k2 => k_asm); (case k3 => exact rfl); (case k5 => decide); (case k6 => first | exact (show _ = ((6 : Nat) : Int) by decide) | exact (show _ = ((8 : Nat) : Int) by decide)); (case k7 => first | exact (show _ = (21 : Int) by decide) | exact (show _ = (36 : Int) by decide))); clear rg9; intro h9 t9 k9 F9 N9; (try k_sweep)))
                | ((with_reducible show wpAny _ _ (compareOp _ (Value.bytes _ _) (Value.ref _)) _ _ _); k_dflt (refine' notIn_bytes (c := true) ?k1 ?k2 ?k3 ?k4 ?_; (case k1 => k_asm); (case k2 => k_mem); (case k3 => simp [AllBytes]); (case k4 => first | exact rfl | decide +kernel +revert)))
                | ((with_reducible show wpAny _ _ (compareOp CmpOp.Eq _ _) _ _ _); k_dflt (refine' eq_yes ?zz9 ?_; (case zz9 => first | exact plain1 (by rw [List.length_map, List.length_map]; exact drawn_len (by decide) (by decide)) | exact plain2 (by rw [List.length_map, List.length_map]; exact drawn_len (by decide) (by decide)) | exact plain3 (by rw [List.length_map, List.length_map]; exact drawn_len (by decide) (by decide)) (drawn_le (by decide) (by decide)) | exact plain4 (by rw [List.length_map, List.length_map]; exact drawn_len (by decide) (by decide)) (drawn_le (by decide) (by decide)))))
                | ((with_reducible show wpAny _ _ (compareOp _ (Value.bytes _ _) (Value.ref _)) _ _ _); k_dflt (refine' in_bytes ?k1 ?k2 ?k3 ?k4 ?_; (case k1 => k_asm); (case k2 => k_mem); (case k3 => first | exact trivial | simp [AllBytes]); (case k4 => rfl)))
                | ((with_reducible show wpAny _ _ (call (Value.ref 68) _) _ _ _); k_dflt (refine' good_use ?k1 ?k2 ?k3 ?k4 ?k5 ?k6 ?k7 ?k8 ?k9 ?k10 ?_; (case k10 => first | exact (rfl : ((1:Nat):Int) = 1) | exact (rfl : ((2:Nat):Int) = 2) | exact (rfl : ((3:Nat):Int) = 3) | exact (rfl : ((4:Nat):Int) = 4)); (case k1 => k_asm); (case k2 => k_asm); (case k3 => k_asm); (case k4 => k_asm); (case k5 => k_asm); (case k6 => exact rfl); (case k7 => first | decide | (simp only [List.length_map, List.length_take]; omega)); (case k8 => decide); (case k9 => decide)); intro h9 tk9 r9 F9 N9 e9; (try (replace e9 := e9.trans (show goodB _ _ = true by decide +kernel))); subst e9; (try k_sweep))); k_steps)
            refine execs_first (assign_C (evalCall_C ?_))
            k_steps
            repeat' ((with_reducible refine Held.off ?_); (first
                | ((with_reducible show wpAny _ _ (call (Value.builtin "sum") [Value.ref _]) _ _ _); (with_reducible rename IsRange _ _ _ _ _ _ _ _ => rg9); (k_dflt (refine' sum_range_N ?k1 ?k2 ?k3 rg9 ?k5 ?k6 ?k7 ?_; (case k1 => k_asm); (case k2 => k_asm); (case k3 => exact rfl); (case k5 => decide); (case k6 => first | exact (show _ = ((6 : Nat) : Int) by decide) | exact (show _ = ((8 : Nat) : Int) by decide)); (case k7 => first | exact (show _ = (21 : Int) by decide) | exact (show _ = (36 : Int) by decide))); clear rg9; intro h9 t9 k9 F9 N9; (try k_sweep)))
                | ((with_reducible show wpAny _ _ (compareOp _ (Value.bytes _ _) (Value.ref _)) _ _ _); k_dflt (refine' notIn_bytes (c := true) ?k1 ?k2 ?k3 ?k4 ?_; (case k1 => k_asm); (case k2 => k_mem); (case k3 => simp [AllBytes]); (case k4 => first | exact rfl | decide +kernel +revert)))
                | ((with_reducible show wpAny _ _ (compareOp CmpOp.Eq _ _) _ _ _); k_dflt (refine' eq_yes ?zz9 ?_; (case zz9 => first | exact plain1 (by rw [List.length_map, List.length_map]; exact drawn_len (by decide) (by decide)) | exact plain2 (by rw [List.length_map, List.length_map]; exact drawn_len (by decide) (by decide)) | exact plain3 (by rw [List.length_map, List.length_map]; exact drawn_len (by decide) (by decide)) (drawn_le (by decide) (by decide)) | exact plain4 (by rw [List.length_map, List.length_map]; exact drawn_len (by decide) (by decide)) (drawn_le (by decide) (by decide)))))
                | ((with_reducible show wpAny _ _ (compareOp _ (Value.bytes _ _) (Value.ref _)) _ _ _); k_dflt (refine' in_bytes ?k1 ?k2 ?k3 ?k4 ?_; (case k1 => k_asm); (case k2 => k_mem); (case k3 => first | exact trivial | simp [AllBytes]); (case k4 => rfl)))
                | ((with_reducible show wpAny _ _ (call (Value.ref 68) _) _ _ _); k_dflt (refine' good_use ?k1 ?k2 ?k3 ?k4 ?k5 ?k6 ?k7 ?k8 ?k9 ?k10 ?_; (case k10 => first | exact (rfl : ((1:Nat):Int) = 1) | exact (rfl : ((2:Nat):Int) = 2) | exact (rfl : ((3:Nat):Int) = 3) | exact (rfl : ((4:Nat):Int) = 4)); (case k1 => k_asm); (case k2 => k_asm); (case k3 => k_asm); (case k4 => k_asm); (case k5 => k_asm); (case k6 => exact rfl); (case k7 => first | decide | (simp only [List.length_map, List.length_take]; omega)); (case k8 => decide); (case k9 => decide)); intro h9 tk9 r9 F9 N9 e9; (try (replace e9 := e9.trans (show goodB _ _ = true by decide +kernel))); subst e9; (try k_sweep))); k_steps)
            refine callDef_C (K := hd.heap_39 w.params) (by assumption) (by rfl) ?_
            k_steps
            repeat' ((with_reducible refine Held.off ?_); (first
                | ((with_reducible show wpAny _ _ (call (Value.builtin "sum") [Value.ref _]) _ _ _); (with_reducible rename IsRange _ _ _ _ _ _ _ _ => rg9); (k_dflt (refine' sum_range_N ?k1 ?k2 ?k3 rg9 ?k5 ?k6 ?k7 ?_; (case k1 => k_asm); (case k2 => k_asm); (case k3 => exact rfl); (case k5 => decide); (case k6 => first | exact (show _ = ((6 : Nat) : Int) by decide) | exact (show _ = ((8 : Nat) : Int) by decide)); (case k7 => first | exact (show _ = (21 : Int) by decide) | exact (show _ = (36 : Int) by decide))); clear rg9; intro h9 t9 k9 F9 N9; (try k_sweep)))
                | ((with_reducible show wpAny _ _ (compareOp _ (Value.bytes _ _) (Value.ref _)) _ _ _); k_dflt (refine' notIn_bytes (c := true) ?k1 ?k2 ?k3 ?k4 ?_; (case k1 => k_asm); (case k2 => k_mem); (case k3 => simp [AllBytes]); (case k4 => first | exact rfl | decide +kernel +revert)))
                | ((with_reducible show wpAny _ _ (compareOp CmpOp.Eq _ _) _ _ _); k_dflt (refine' eq_yes ?zz9 ?_; (case zz9 => first | exact plain1 (by rw [List.length_map, List.length_map]; exact drawn_len (by decide) (by decide)) | exact plain2 (by rw [List.length_map, List.length_map]; exact drawn_len (by decide) (by decide)) | exact plain3 (by rw [List.length_map, List.length_map]; exact drawn_len (by decide) (by decide)) (drawn_le (by decide) (by decide)) | exact plain4 (by rw [List.length_map, List.length_map]; exact drawn_len (by decide) (by decide)) (drawn_le (by decide) (by decide)))))
                | ((with_reducible show wpAny _ _ (compareOp _ (Value.bytes _ _) (Value.ref _)) _ _ _); k_dflt (refine' in_bytes ?k1 ?k2 ?k3 ?k4 ?_; (case k1 => k_asm); (case k2 => k_mem); (case k3 => first | exact trivial | simp [AllBytes]); (case k4 => rfl)))
                | ((with_reducible show wpAny _ _ (call (Value.ref 68) _) _ _ _); k_dflt (refine' good_use ?k1 ?k2 ?k3 ?k4 ?k5 ?k6 ?k7 ?k8 ?k9 ?k10 ?_; (case k10 => first | exact (rfl : ((1:Nat):Int) = 1) | exact (rfl : ((2:Nat):Int) = 2) | exact (rfl : ((3:Nat):Int) = 3) | exact (rfl : ((4:Nat):Int) = 4)); (case k1 => k_asm); (case k2 => k_asm); (case k3 => k_asm); (case k4 => k_asm); (case k5 => k_asm); (case k6 => exact rfl); (case k7 => first | decide | (simp only [List.length_map, List.length_take]; omega)); (case k8 => decide); (case k9 => decide)); intro h9 tk9 r9 F9 N9 e9; (try (replace e9 := e9.trans (show goodB _ _ = true by decide +kernel))); subst e9; (try k_sweep))); k_steps)
            refine' swap8 ?k1 ?k2 ?k3 ?k4 ?k5 ?k6 ?_
            case k1 => k_asm
            case k2 => k_asm
            case k3 => k_asm
            case k4 => k_asm
            case k5 => k_asm
            case k6 => exact rfl
            intro h7 tk7 t7 F7 N7
            k_steps
            repeat' ((with_reducible refine Held.off ?_); (first
                | ((with_reducible show wpAny _ _ (call (Value.builtin "sum") [Value.ref _]) _ _ _); (with_reducible rename IsRange _ _ _ _ _ _ _ _ => rg9); (k_dflt (refine' sum_range_N ?k1 ?k2 ?k3 rg9 ?k5 ?k6 ?k7 ?_; (case k1 => k_asm); (case k2 => k_asm); (case k3 => exact rfl); (case k5 => decide); (case k6 => first | exact (show _ = ((6 : Nat) : Int) by decide) | exact (show _ = ((8 : Nat) : Int) by decide)); (case k7 => first | exact (show _ = (21 : Int) by decide) | exact (show _ = (36 : Int) by decide))); clear rg9; intro h9 t9 k9 F9 N9; (try k_sweep)))
                | ((with_reducible show wpAny _ _ (compareOp _ (Value.bytes _ _) (Value.ref _)) _ _ _); k_dflt (refine' notIn_bytes (c := true) ?k1 ?k2 ?k3 ?k4 ?_; (case k1 => k_asm); (case k2 => k_mem); (case k3 => simp [AllBytes]); (case k4 => first | exact rfl | decide +kernel +revert)))
                | ((with_reducible show wpAny _ _ (compareOp CmpOp.Eq _ _) _ _ _); k_dflt (refine' eq_yes ?zz9 ?_; (case zz9 => first | exact plain1 (by rw [List.length_map, List.length_map]; exact drawn_len (by decide) (by decide)) | exact plain2 (by rw [List.length_map, List.length_map]; exact drawn_len (by decide) (by decide)) | exact plain3 (by rw [List.length_map, List.length_map]; exact drawn_len (by decide) (by decide)) (drawn_le (by decide) (by decide)) | exact plain4 (by rw [List.length_map, List.length_map]; exact drawn_len (by decide) (by decide)) (drawn_le (by decide) (by decide)))))
                | ((with_reducible show wpAny _ _ (compareOp _ (Value.bytes _ _) (Value.ref _)) _ _ _); k_dflt (refine' in_bytes ?k1 ?k2 ?k3 ?k4 ?_; (case k1 => k_asm); (case k2 => k_mem); (case k3 => first | exact trivial | simp [AllBytes]); (case k4 => rfl)))
                | ((with_reducible show wpAny _ _ (call (Value.ref 68) _) _ _ _); k_dflt (refine' good_use ?k1 ?k2 ?k3 ?k4 ?k5 ?k6 ?k7 ?k8 ?k9 ?k10 ?_; (case k10 => first | exact (rfl : ((1:Nat):Int) = 1) | exact (rfl : ((2:Nat):Int) = 2) | exact (rfl : ((3:Nat):Int) = 3) | exact (rfl : ((4:Nat):Int) = 4)); (case k1 => k_asm); (case k2 => k_asm); (case k3 => k_asm); (case k4 => k_asm); (case k5 => k_asm); (case k6 => exact rfl); (case k7 => first | decide | (simp only [List.length_map, List.length_take]; omega)); (case k8 => decide); (case k9 => decide)); intro h9 tk9 r9 F9 N9 e9; (try (replace e9 := e9.trans (show goodB _ _ = true by decide +kernel))); subst e9; (try k_sweep))); k_steps)
            refine wpC_of ?_
            k_steps
            repeat' ((with_reducible refine Held.off ?_); (first
                | ((with_reducible show wpAny _ _ (call (Value.builtin "sum") [Value.ref _]) _ _ _); (with_reducible rename IsRange _ _ _ _ _ _ _ _ => rg9); (k_dflt (refine' sum_range_N ?k1 ?k2 ?k3 rg9 ?k5 ?k6 ?k7 ?_; (case k1 => k_asm); (case k2 => k_asm); (case k3 => exact rfl); (case k5 => decide); (case k6 => first | exact (show _ = ((6 : Nat) : Int) by decide) | exact (show _ = ((8 : Nat) : Int) by decide)); (case k7 => first | exact (show _ = (21 : Int) by decide) | exact (show _ = (36 : Int) by decide))); clear rg9; intro h9 t9 k9 F9 N9; (try k_sweep)))
                | ((with_reducible show wpAny _ _ (compareOp _ (Value.bytes _ _) (Value.ref _)) _ _ _); k_dflt (refine' notIn_bytes (c := true) ?k1 ?k2 ?k3 ?k4 ?_; (case k1 => k_asm); (case k2 => k_mem); (case k3 => simp [AllBytes]); (case k4 => first | exact rfl | decide +kernel +revert)))
                | ((with_reducible show wpAny _ _ (compareOp CmpOp.Eq _ _) _ _ _); k_dflt (refine' eq_yes ?zz9 ?_; (case zz9 => first | exact plain1 (by rw [List.length_map, List.length_map]; exact drawn_len (by decide) (by decide)) | exact plain2 (by rw [List.length_map, List.length_map]; exact drawn_len (by decide) (by decide)) | exact plain3 (by rw [List.length_map, List.length_map]; exact drawn_len (by decide) (by decide)) (drawn_le (by decide) (by decide)) | exact plain4 (by rw [List.length_map, List.length_map]; exact drawn_len (by decide) (by decide)) (drawn_le (by decide) (by decide)))))
                | ((with_reducible show wpAny _ _ (compareOp _ (Value.bytes _ _) (Value.ref _)) _ _ _); k_dflt (refine' in_bytes ?k1 ?k2 ?k3 ?k4 ?_; (case k1 => k_asm); (case k2 => k_mem); (case k3 => first | exact trivial | simp [AllBytes]); (case k4 => rfl)))
                | ((with_reducible show wpAny _ _ (call (Value.ref 68) _) _ _ _); k_dflt (refine' good_use ?k1 ?k2 ?k3 ?k4 ?k5 ?k6 ?k7 ?k8 ?k9 ?k10 ?_; (case k10 => first | exact (rfl : ((1:Nat):Int) = 1) | exact (rfl : ((2:Nat):Int) = 2) | exact (rfl : ((3:Nat):Int) = 3) | exact (rfl : ((4:Nat):Int) = 4)); (case k1 => k_asm); (case k2 => k_asm); (case k3 => k_asm); (case k4 => k_asm); (case k5 => k_asm); (case k6 => exact rfl); (case k7 => first | decide | (simp only [List.length_map, List.length_take]; omega)); (case k8 => decide); (case k9 => decide)); intro h9 tk9 r9 F9 N9 e9; (try (replace e9 := e9.trans (show goodB _ _ = true by decide +kernel))); subst e9; (try k_sweep))); k_steps)
            show Mid3 _ _ _ _ _ _ _ _ _ _ _ _ _ _ _
            rename Fr _ _ _ _ => kF
            rename News _ _ _ _ => kN
            refine' use8 (a := (I9, oI)) (b := (r1, _)) (c := (44, _)) (d := (37, _)) (e := (c1, _)) (f := (c2, _)) (g := (s₁.heap.objs.size + 1 + 1, _)) (i := (s₁.heap.objs.size + 1, _)) kN ?y1 ?y2 ?y3 ?y4 ?y5 ?y6 ?y7 ?y8 ?_
            case y1 => k_mem
            case y2 => k_mem
            case y3 => k_mem
            case y4 => k_mem
            case y5 => k_mem
            case y6 => k_mem
            case y7 => k_mem
            case y8 => k_mem
            intro N6
            exact ⟨_, _, _, _, _, _, _, rfl, ho8, (by assumption), fr_mid2 kF (by rfl) (fun z a b c => by simp only [if_neg a, if_neg b, if_neg c]), N6⟩
          intro s4 hM
        exact turn_none rfl hB rfl hM (by exact Or.inr (Or.inr (Or.inr ⟨rfl, _, _, rfl⟩))) hK hap (fun s' q => q)
    case part3 =>
      clear F1 N1 hR hK hRo hap
      rintro s2 ⟨ki, r1, n1, vs1, t1, c1, c2, o1, o2, oK, oR, vf, vt, h2, tk2, e2, hR, F1, N1, hK, hap⟩
      subst e2
      rcases hR with ⟨rfl, rfl⟩ | ⟨rfl, rfl⟩ | ⟨rfl, t3, u3, rfl⟩ | ⟨rfl, t3, u3, rfl⟩
      all_goals
        refine wpC_of ?_
        k_steps
        repeat' ((with_reducible refine Held.off ?_); (first
            | ((with_reducible show wpAny _ _ (call (Value.builtin "sum") [Value.ref _]) _ _ _); (with_reducible rename IsRange _ _ _ _ _ _ _ _ => rg9); (k_dflt (refine' sum_range_N ?k1 ?k2 ?k3 rg9 ?k5 ?k6 ?k7 ?_; (case k1 => k_asm); (case k2 => k_asm); (case k3 => exact rfl); (case k5 => decide); (case k6 => first | exact (show _ = ((6 : Nat) : Int) by decide) | exact (show _ = ((8 : Nat) : Int) by decide)); (case k7 => first | exact (show _ = (21 : Int) by decide) | exact (show _ = (36 : Int) by decide))); clear rg9; intro h9 t9 k9 F9 N9; (try k_sweep)))
            | ((with_reducible show wpAny _ _ (compareOp _ (Value.bytes _ _) (Value.ref _)) _ _ _); k_dflt (refine' notIn_bytes (c := true) ?k1 ?k2 ?k3 ?k4 ?_; (case k1 => k_asm); (case k2 => k_mem); (case k3 => simp [AllBytes]); (case k4 => first | exact rfl | decide +kernel +revert)))
            | ((with_reducible show wpAny _ _ (compareOp CmpOp.Eq _ _) _ _ _); k_dflt (refine' eq_yes ?zz9 ?_; (case zz9 => first | exact plain1 (by rw [List.length_map, List.length_map]; exact drawn_len (by decide) (by decide)) | exact plain2 (by rw [List.length_map, List.length_map]; exact drawn_len (by decide) (by decide)) | exact plain3 (by rw [List.length_map, List.length_map]; exact drawn_len (by decide) (by decide)) (drawn_le (by decide) (by decide)) | exact plain4 (by rw [List.length_map, List.length_map]; exact drawn_len (by decide) (by decide)) (drawn_le (by decide) (by decide)))))
            | ((with_reducible show wpAny _ _ (compareOp _ (Value.bytes _ _) (Value.ref _)) _ _ _); k_dflt (refine' in_bytes ?k1 ?k2 ?k3 ?k4 ?_; (case k1 => k_asm); (case k2 => k_mem); (case k3 => first | exact trivial | simp [AllBytes]); (case k4 => rfl)))
            | ((with_reducible show wpAny _ _ (call (Value.ref 68) _) _ _ _); k_dflt (refine' good_use ?k1 ?k2 ?k3 ?k4 ?k5 ?k6 ?k7 ?k8 ?k9 ?k10 ?_; (case k10 => first | exact (rfl : ((1:Nat):Int) = 1) | exact (rfl : ((2:Nat):Int) = 2) | exact (rfl : ((3:Nat):Int) = 3) | exact (rfl : ((4:Nat):Int) = 4)); (case k1 => k_asm); (case k2 => k_asm); (case k3 => k_asm); (case k4 => k_asm); (case k5 => k_asm); (case k6 => exact rfl); (case k7 => first | decide | (simp only [List.length_map, List.length_take]; omega)); (case k8 => decide); (case k9 => decide)); intro h9 tk9 r9 F9 N9 e9; (try (replace e9 := e9.trans (show goodB _ _ = true by decide +kernel))); subst e9; (try k_sweep))); k_steps))
end Mine
end
theorem PySem.Challenge.cw_gg0005_01_holds : PySem.Challenge.rw_gg0005_01.Holds := by
  exact Mine.main
