import PyProof.Rows.All
import Wide.All
import OpenK.AllK
import Wide.FinOn
import Lean
import PySem.Challenge.RW_gx0001_01
set_option Elab.async false

section
open PySem PySem.W PySem.Calls PyProof.Rows
set_option Elab.async false
namespace Mine

def decId (id : String) : Bool :=
  PySem.Builtin.Bytes.decodersThatHold.contains id || ["bytearray.__contains__", "bytearray.__mod__", "bytearray.__rmod__", "_struct.pack_into.held", "bytearray.find.held"].contains id
def isDec : Code → Bool
  | .builtin id _ => decId id
  | _ => false
def noDec (l : List (Code × Pos)) : Prop := ∀ x ∈ l, isDec x.1 = false
theorem noDec_cons {c : Code} {p : Pos} {l : List (Code × Pos)} (h : isDec c = false) (hl : noDec l) : noDec ((c, p) :: l) := by
  intro x hx
  rcases List.mem_cons.mp hx with rfl | hx
  · exact h
  · exact hl x hx

def wpN {α : Type} (M : Model) (A : Around) (t : Sem α) (Q : α → Shared → Prop) (E : Value → Shared → Prop) (s : Shared) : Prop :=
  ∀ Γ p, Γ.In A → isDec Γ.code = false → noDec Γ.below → Sem.wp M Γ t (fun a _ s' => Q a s') (fun e _ s' => E e s') p s
def codeN (M : Model) (A : Around) (c : Code) (R : Result → Shared → Prop) (s : Shared) : Prop :=
  ∀ Γ p, Γ.code = c → Γ.Below A → noDec Γ.below → wpCode M Γ R p s

section
variable {α β : Type} {M : Model} {A : Around} {E : Value → Shared → Prop} {s : Shared}

theorem wpN_of {t : Sem α} {Q : α → Shared → Prop} (h : wpAny M A t Q E s) : wpN M A t Q E s := fun Γ p hΓ _ _ => h Γ p hΓ
theorem codeN_of {c : Code} {R : Result → Shared → Prop} (h : codeAny M A c R s) : codeN M A c R s := fun Γ p hc hΓ _ => h Γ p hc hΓ
theorem wpN_pure {a : α} {Q : α → Shared → Prop} (h : Q a s) : wpN M A (pure a) Q E s := fun _ _ _ _ _ => h
theorem wpN_mono {t : Sem α} {Q Q' : α → Shared → Prop} {E' : Value → Shared → Prop} (h : wpN M A t Q E s)
    (hQ : ∀ a s, Q a s → Q' a s) (hE : ∀ e s, E e s → E' e s) : wpN M A t Q' E' s :=
  fun Γ p hΓ hc hN => Sem.wp_mono M Γ t (fun a _ s => hQ a s) (fun e _ s => hE e s) p s (h Γ p hΓ hc hN)
/-- the first part may lean on the stack -/
theorem wpN_bind {m : Sem α} {f : α → Sem β} {Q : β → Shared → Prop} (h : wpN M A m (fun a s' => wpN M A (f a) Q E s') E s) :
    wpN M A (m >>= f) Q E s := fun Γ p hΓ hc hN => by
  rw [Sem.wp_bind']
  exact Sem.wp_mono M Γ m (fun a p' s' h' => h' Γ p' hΓ hc hN) (fun _ _ _ h' => h') p s (h Γ p hΓ hc hN)
/-- the first part by the library's own walk, the rest may lean on the stack -/
theorem wpN_first {m : Sem α} {f : α → Sem β} {Q : β → Shared → Prop} (h : wpAny M A m (fun a s' => wpN M A (f a) Q E s') E s) :
    wpN M A (m >>= f) Q E s := wpN_bind (wpN_of h)
theorem wpN_holding {vs : List Value} {m : Sem α} {Q : α → Shared → Prop} (h : wpN M A m Q E s) : wpN M A (holding vs m) Q E s :=
  fun Γ p hΓ hc hN => by rw [Sem.wp_holding]; exact h Γ p hΓ hc hN
theorem wpN_operate {vs : List Value} {m : Sem Value} {Q : Value → Shared → Prop} (h : wpN M A m Q E s) : wpN M A (operate vs m) Q E s :=
  fun Γ p hΓ hc hN => by rw [Sem.wp_operate]; exact h Γ p hΓ hc hN
theorem wpN_onRaise {m : Sem α} {k : Value → Sem Unit} {Q : α → Shared → Prop}
    (h : wpN M A m Q (fun e s' => wpAny M A (k e) (fun _ s'' => E e s'') E s') s) : wpN M A (m.onRaise k) Q E s := fun Γ p hΓ hc hN => by
  rw [Sem.wp_onRaise]
  exact Sem.wp_mono M Γ m (fun _ _ _ h' => h') (fun e p' s' h' => h' Γ p' hΓ) p s (h Γ p hΓ hc hN)
theorem wpN_eq {t t' : Sem α} {Q : α → Shared → Prop} (e : t = t') (h : wpN M A t' Q E s) : wpN M A t Q E s := e ▸ h
theorem wpN_standAt {pos : Pos} {Q : Unit → Shared → Prop} (h : Q () s) : wpN M A (standAt pos) Q E s := wpN_of (wpAny_standAt h)
theorem wpN_stack {Q : List (Code × Pos) → Shared → Prop} (h : ∀ st, noDec st → Q st s) : wpN M A stack Q E s := fun Γ p hΓ hc hN => by
  show Q ((Γ.code, p) :: Γ.below) s
  exact h _ (noDec_cons hc hN)
theorem codeN_mono {c : Code} {R R' : Result → Shared → Prop} (h : codeN M A c R s) (hR : ∀ r s, R r s → R' r s) : codeN M A c R' s :=
  fun Γ p hc hΓ hN => wpCode_mono hR (h Γ p hc hΓ hN)
theorem wpN_run {c : Code} {h : Option Value} {Q : Flow → Shared → Prop}
    (hc : codeN M (A.mark h) c (fun r s' => match r with | .ok f => Q f s' | .error e => E e s') s) (hnb : h ≠ some byPass := by intro x; cases x) :
    wpN M A (run c h) Q E s :=
  fun Γ p hΓ hC hN => by rw [Sem.wp_run]; exact hc _ p rfl (hΓ.enter c h p hnb) (noDec_cons hC hN)
theorem wpN_runValue {c : Code} {Q : Value → Shared → Prop}
    (hc : codeN M A c (fun r s' => match r with | .ok (.ret v) => Q v s' | .ok _ => False | .error e => E e s') s) :
    wpN M A (runValue c) Q E s := fun Γ p hΓ hC hN => by
  rw [Sem.wp_runValue]; exact hc _ p rfl (hΓ.enter c none p (by intro x; cases x)) (noDec_cons hC hN)
theorem wpN_call {f : Value} {pos : List Value} {kw : List (PySem.Str × Value)} {Q : Value → Shared → Prop}
    (hc : codeN M A (.call f ⟨pos, kw⟩) (fun r s' => match r with | .ok (.ret v) => Q v s' | .ok _ => False | .error e => E e s') s) :
    wpN M A (PySem.call f pos kw) Q E s := wpN_runValue hc
theorem codeN_of_tree {c : Code} {R : Result → Shared → Prop} (hD : isDec c = false)
    (h : wpN M (A.under c) (M.den c) (fun fin s' => match fin with | .done f => R (.ok f) s' | .again c' => c'.quiet = true ∧ codeN M A c' R s')
      (fun e s' => R (.error e) s') s) : codeN M A c R s := fun Γ p hc hΓ hN => by
  rw [wpCode_iff_wp, hc]
  refine Sem.wp_mono M Γ _ (fun fin p' s' h' => ?_) (fun _ _ _ h' => h') p s (h Γ p (hc ▸ hΓ.in) (hc ▸ hD) hN)
  cases fin with
  | done f => exact h'
  | again c' => exact ⟨h'.1, h'.2 (Γ.goto c') p' rfl (hΓ.goto c') hN⟩
theorem codeN_loop {c : Code} {R : Result → Shared → Prop} (hD : isDec c = false) (hq : c.quiet = true) (I : Nat → Shared → Prop)
    (turn : ∀ n s, I n s → wpN M (A.under c) (M.den c)
      (fun fin s' => match fin with
        | .done f => R (.ok f) s'
        | .again c' => (c' = c ∧ ∃ m, m < n ∧ I m s') ∨ (c'.quiet = true ∧ codeN M A c' R s')) (fun e s' => R (.error e) s') s)
    (n : Nat) (h : I n s) : codeN M A c R s := by
  induction n using Nat.strongRecOn generalizing s with
  | ind n ih =>
    refine codeN_of_tree hD (wpN_mono (turn n s h) (fun fin s' hf => ?_) fun _ _ h' => h')
    cases fin with
    | done f => exact hf
    | again c' =>
      rcases hf with ⟨rfl, m, hm, hI⟩ | hf
      · exact ⟨hq, ih m hm hI⟩
      · exact hf
end

/-! the head: the caller's own stack is bare -/
def bare : List (Code × Pos) → Bool
  | [(.builtin id _, _)] => id == "claim.caller"
  | _ => false
theorem noDec_bare {st : List (Code × Pos)} (h : bare st = true) : noDec st := by
  unfold bare at h
  split at h
  · rename_i id a p
    obtain rfl := eq_of_beq h
    exact noDec_cons (by show decId "claim.caller" = false; decide +kernel) (by intro x hx; cases hx)
  · cases h

theorem guard_callFrom {c : ClaimW} {tree : List Value → Sem Fin} {w : World} {free : Addr → Prop} {gens : Prop} {kept : Heap → Prop} {s : Shared} (hz : s.asleep)
    (h : c.CallFrom (fun vs => ⟨(do let st ← stack; if bare st then tree vs else ret (.bool true)), .builtin "claim.caller" {}, default, []⟩) w free gens kept s) :
    c.CallFrom (fun vs => ⟨tree vs, .builtin "claim.caller" {}, default, []⟩) w free gens kept s := by
  intro args h1 h2 ord h3
  obtain ⟨vs, s₁, hl, n, o, s', hs, rest⟩ := h args h1 h2 ord h3
  have hz1 : s₁.asleep := Shared.asleep_of_life (layAllW_rest _ _ _ hl).2.2.2 hz
  cases n with
  | zero => cases hs
  | succ n =>
    refine ⟨vs, s₁, hl, n, o, s', ?_, rest⟩
    simp only [schedN] at hs
    rcases sstep_single (den := denote table) (prog := c.prog) (w := w) s₁ ⟨(do let st ← stack; if bare st then tree vs else ret (.bool true)), .builtin "claim.caller" {}, default, []⟩ rfl hz1 with e | e
    · rw [e] at hs; exact hs
    · cases e

theorem guard_holds {c : ClaimW} {tree : List Value → Sem Fin} {defs keeps : List PySem.Str} {writes : Bool}
    (h : c.HoldsOpenBy (fun vs => ⟨(do let st ← stack; if bare st then tree vs else ret (.bool true)), .builtin "claim.caller" {}, default, []⟩) defs keeps writes) :
    c.HoldsOpenBy (fun vs => ⟨tree vs, .builtin "claim.caller" {}, default, []⟩) defs keeps writes := by
  obtain ⟨h1, h2, h3⟩ := h
  refine ⟨h1, h2, fun w => ⟨(h3 w).1, fun s hs => ?_⟩⟩
  obtain ⟨s₀, hf, hg, s₁, hT, hd, hr, hr', hc⟩ := (h3 w).2 s hs
  have hs' : AfterImport (opening c.prog) w s := hs
  have hz : s₁.asleep := Shared.asleep_of_life (hT.2.1.trans (fence_lifeW hf)) hs'.life
  exact ⟨s₀, hf, hg, s₁, hT, hd, hr, hr', guard_callFrom hz hc⟩

/-- what is to be walked: the call, in a context whose stack holds no decoder -/
abbrev WalkM (q : Program) (loose : List PySem.Str) (XP : (PySem.Str → Option Value) → Heap → Prop) (YP : World → Heap → Prop) (r : RowW) (d : DefRec) (kwd : List (PySem.Str × Expr)) : Prop :=
  ∀ (w : World) (s₀ s₁ : Shared) (mg mb : PySem.Str → Option Value), Ground q loose r.records XP w s₀ mg mb s₁.heap → YP w s₁.heap → ∀ (a : Addr) (o : Obj) (pm cd doc dV kV : Value), s₁.heap.get? a = some o →
    o.data = .func { docDef d.name d.params d.body d.scope pm cd doc with defaults := dV, kwdefaults := kV } → s₁.heap.CodeRec cd d.name → Dflts mg s₁.heap d.params kwd dV kV → mg d.name = some (.ref a) → s₁.gens = #[] →
    ∀ (args : List WData) (vals : List Value) (as : List Addr), r.claim.pre args = true → WData.layableAll args = true → ReadsAllW r.records (classAt s₀.heap) s₁.heap vals args as → WellAll w.params s₁.heap vals args → (∀ a ∈ as, (a == sysModules) = false) →
      GoodWG r.claim (classAt s₀.heap) (ExcName.means s₀.heap) args s₁ (.ok (.ret (.bool true))) s₁ ∧
      wpN (model r.prog w) callerA (PySem.call (.ref a) vals) (fun v s' => GoodWG r.claim (classAt s₀.heap) (ExcName.means s₀.heap) args s₁ (.ok (.ret v)) s')
        (fun e s' => GoodWG r.claim (classAt s₀.heap) (ExcName.means s₀.heap) args s₁ (.error e) s') s₁

theorem PySem.W.holds_open {r : OpenRow} {q : Program} {loose : List PySem.Str} {Xt : Shared → Bool} {XP : (PySem.Str → Option Value) → Heap → Prop} {α : Type} {Yf : Shared → α} {Ya : World → α} {YP : World → Heap → Prop} {d : DefRec} {kwd : List (PySem.Str × Expr)} {N : Nat}
    (left : LeftO r.prog q loose Xt Yf Ya N) (hY : ∀ w s, Yf s = Ya w → YP w s.heap) (hYk : ∀ w h h', YP w h → (∀ b o, h.get? b = some o → h'.get? b = some o) → YP w h')
    (hX : ∀ s, Xt s = true → XP (s.heap.nsMap mainGlobals) s.heap) (hXk : ∀ mg h h', XP mg h → (∀ b o, h.get? b = some o → h'.get? b = some o) → XP mg h')
    (hdef : defOf q r.name = some (d, kwd)) (hp : r.prog.theDef r.name = some (d.params, d.body, d.scope)) (hk : kwWritten? d.params.kwonlyargs d.params.kw_defaults = some kwd) (hRf : ∀ s, Xt s = true → RecFacts r.records s.heap) (hwr : (!r.writes || r.records.isEmpty) = true)
    (k1 : r.wellSaid = true) (ok : (chainsOk q && opensWell r.prog && (frees r.toRowW && r.within.isEmpty)) = true) (hb : r.prog.bare) (hw : r.toRowW.promised)
    (call : WalkM q loose XP YP r.toRowW d kwd) : r.Holds := by
  refine ⟨k1, hw, guard_holds (open_anyG (r := r.toRowW) (run := fun f vs => do let st ← stack; if bare st then PySem.call f vs else pure (.bool true))
    left hY hYk hX hXk hRf hwr ok hb hw (fun vs w s mg f Q E hg hf h => ?_) (fun w s hg G n hn => ?_) fun w s₀ s₁ mg mb G Y args vs as hpre hlay L low => ?_)⟩
  · intro Γ p hΓ
    have h' := h Γ p hΓ
    have e : ∀ {β : Type} (k : List (Code × Pos) → Sem β) (Q : β → Pos → Shared → Prop) (E : Value → Pos → Shared → Prop),
        Sem.wp (model r.toRowW.prog w) Γ (stack >>= k) Q E p s = Sem.wp (model r.toRowW.prog w) Γ (k ((Γ.code, p) :: Γ.below)) Q E p s := fun _ _ _ => rfl
    simp only [e] at h' ⊢
    cases hbr : bare ((Γ.code, p) :: Γ.below) with
    | false =>
      rw [hbr] at h'
      exact h'
    | true =>
      rw [hbr] at h'
      simp only [if_true] at h' ⊢
      rw [Sem.wp_bind']
      show Sem.wp _ Γ (nsGet mainGlobals r.name) _ _ p s
      refine (Sem.wp_nsGet _ Γ _ p s hg _ _).mpr ?_
      rw [hf]
      dsimp only
      rw [Sem.wp_bind']
      exact Sem.wp_mono _ _ _ (fun _ _ _ h => h) (fun _ _ _ h => h) _ _ h'
  · obtain rfl : n = r.name := by split at hn <;> simp_all
    exact pinned_of_view hg G hdef hp hk
  · obtain ⟨a, o, pm, cd, doc, dV, kV, h1, h2, h3, h4, h5⟩ := G.fn hdef
    refine ⟨.ref a, h1, ?_⟩
    obtain ⟨g0, g1⟩ := call w s₀ s₁ mg mb G Y a o pm cd doc dV kV h2 h3 h4 h5 (defOf_name hdef ▸ h1) L.gens args vs as hpre hlay L.reads L.well (L.low low)
    intro Γ p hΓ
    show Sem.wp _ Γ (if bare ((Γ.code, p) :: Γ.below) = true then PySem.call (.ref a) vs else pure (.bool true)) _ _ p s₁
    cases hbr : bare ((Γ.code, p) :: Γ.below) with
    | false => simp only [Bool.false_eq_true, if_false]; exact g0
    | true =>
      have hn := noDec_bare hbr
      simp only [if_true]
      exact g1 Γ p hΓ (hn _ (List.mem_cons_self ..)) fun x hx => hn x (List.mem_cons_of_mem _ hx)
end Mine

end
theorem Mine.calmNLog : True ∧ True := by
  w_top off
  first | (walk1; all_goals trivial) | exact ⟨trivial, trivial⟩

section
open PySem PySem.W PySem.Calls PyProof.Rows
set_option Elab.async false
namespace Mine
section
variable {M : Model} {A : Around} {E : Value → Shared → Prop} {s : Shared} {env : Env}

theorem wpN_execs_cons {st rest} {Q : Flow → Shared → Prop}
    (h : wpN M A (exec st env) (fun f s' => match f with | .next => wpN M A (execs rest env) Q E s' | f => Q f s') E s) :
    wpN M A (execs (st :: rest) env) Q E s := by
  rw [execs_cons]
  refine wpN_bind (wpN_mono h (fun f s' h' => ?_) fun _ _ x => x)
  cases f <;> first | exact h' | exact wpN_pure h'
theorem wpN_execs_first {st rest} {Q : Flow → Shared → Prop}
    (h : wpAny M A (exec st env) (fun f s' => match f with | .next => wpN M A (execs rest env) Q E s' | f => Q f s') E s) :
    wpN M A (execs (st :: rest) env) Q E s := wpN_execs_cons (wpN_of h)
theorem wpN_If {test body orelse pos} {Q : Flow → Shared → Prop}
    (h : wpN M A (isTrue test env (eval test env)) (fun b s₂ => if b then wpAny M A (execs body env) Q E s₂ else wpAny M A (execs orelse env) Q E s₂) E s) :
    wpN M A (exec (.If test body orelse pos) env) Q E s := by
  rw [exec_If]
  refine wpN_bind (wpN_standAt (wpN_bind (wpN_mono h (fun b s₂ h₂ => ?_) fun _ _ x => x)))
  cases b
  · exact wpN_of h₂
  · exact wpN_of h₂
theorem wpN_isTrue_BoolOp {op : BoolOp} {values : List PySem.Expr} {pos : Pos} {whole : Sem Value} {Q : Bool → Shared → Prop} (h : wpN M A (allTrue op values env) Q E s) :
    wpN M A (isTrue (.BoolOp op values pos) env whole) Q E s := h
theorem wpN_allTrue_Or_cons {x : PySem.Expr} {rest : List PySem.Expr} {Q : Bool → Shared → Prop}
    (h : wpN M A (isTrue x env (eval x env)) (fun b s₁ => if b then Q true s₁ else wpN M A (allTrue .Or rest env) Q E s₁) E s) : wpN M A (allTrue .Or (x :: rest) env) Q E s := by
  show wpN M A (do match BoolOp.Or, ← isTrue x env (eval x env) with | .And, false => pure false | .Or, true => pure true | _, _ => allTrue .Or rest env) Q E s
  refine wpN_bind (wpN_mono h (fun b s₁ h₁ => ?_) fun _ _ x => x)
  cases b
  · exact h₁
  · exact wpN_pure h₁
theorem wpN_allTrue_Or_nil {Q : Bool → Shared → Prop} (h : Q false s) : wpN M A (allTrue .Or [] env) Q E s := wpN_pure h
theorem wpN_isTrue_Compare1 {l op r pos whole} {Q : Bool → Shared → Prop}
    (h : wpN M A (eval l env) (fun a s₁ => wpAny M A (eval r env) (fun b s₂ => wpAny M A (compareOp op a b)
      (fun c s₃ => wpAny M A (truthy c) Q E s₃) E s₂) E s₁) E s)
    (hm : behindInMarks op r = false := by with_unfolding_all rfl) : wpN M A (isTrue (.Compare l [op] [r] pos) env whole) Q E s := by
  rw [isTrue_Compare1, markedBehindIn_of_false hm]
  refine wpN_bind (wpN_mono h (fun a s₁ h₁ => wpN_of (wpAny_bind (wpAny_holding (wpAny_mono h₁ (fun b s₂ h₂ => ?_) fun _ _ x => x)))) fun _ _ x => x)
  refine wpAny_bind (wpAny_standAt (wpAny_bind ?_))
  intro Γ p hΓ
  rw [Sem.wp_operate]
  exact Sem.wp_mono M Γ _ (fun c p' s' h' => (wpAny_holding h' : wpAny M A (holding [c] (truthy c)) Q E s')) (fun _ _ _ x => x) _ _ (h₂ Γ p hΓ)
theorem wpN_Assign_Name {x pos' value pos} {Q : Flow → Shared → Prop}
    (h : wpN M A (eval value env) (fun v s₁ => wpAny M A (storeName env x v) (fun _ => Q .next) E s₁) E s)
    (hs : swapsWith value (some (.Name x pos')) pos.line env = pure false := by rfl) :
    wpN M A (exec (.Assign [.Name x pos'] value pos) env) Q E s := by
  rw [exec_Assign_Name env x pos' value pos hs]
  refine wpN_bind (wpN_standAt (wpN_bind (wpN_mono h (fun v s₁ h₁ => ?_) fun _ _ x => x)))
  exact wpN_of (wpAny_bind (wpAny_standAt (wpAny_bind (wpAny_bindName (wpAny_mono h₁ (fun _ _ q => wpAny_pure q) fun _ _ x => x)))))
theorem wpN_runOwn {c : Code} {h : Option Value} {Q : Flow → Shared → Prop}
    (hc : codeN M (A.mark h) c (fun r s' => match r with | .ok f => Q f s' | .error e => cameBackBy M A env E e s') s) (hnb : h ≠ some byPass := by intro x; cases x) :
    wpN M A (runOwn c env h) Q E s := by
  unfold runOwn
  exact wpN_onRaise (wpN_run hc hnb)
theorem wpN_For {target iter body orelse pos} {Q : Flow → Shared → Prop}
    (h : wpAny M A (eval iter env) (fun x s₁ => wpAny M A (pyIter x) (fun it s₂ =>
      codeN M A (.forLoop target it body orelse env) (fun r s' => match r with | .ok f => Q f s' | .error e => cameBackBy M A env E e s') s₂) E s₁) E s)
    (hs : ∀ x, foldedSetIterable iter env x = pure x := by intro _; rfl) :
    wpN M A (exec (.For target iter body orelse pos) env) Q E s := by
  rw [exec_For]
  exact wpN_bind (wpN_standAt (wpN_first (wpAny_mono h (fun x s₁ h₁ => wpN_first (wpAny_of_eq (hs x) (wpN_bind (wpN_standAt (wpN_first (wpAny_holding
    (wpAny_mono h₁ (fun it s₂ h₂ => wpN_runOwn h₂) fun _ _ h' => h'))))))) fun _ _ h' => h')))
theorem wpN_noted {α : Type} {m : Sem α} {Q : α → Shared → Prop} (h : wpN M A m Q (notedBy M A env E) s) : wpN M A (m.onRaise fun x => do noteFrame x env; theTreesLotGoes x) Q E s :=
  wpN_onRaise (wpN_mono h (fun _ _ q => q) fun _ _ hx => wpAny_bind (wpAny_mono hx (fun _ _ e => wpAny_theTreesLotGoes e) fun _ _ e => e))
theorem wpN_Call_Name {x : PySem.Str} {p pos : Pos} {args : List PySem.Expr} {trees : List (Bool × Sem Value)} {Q : Value → Shared → Prop} (ht : backTo pos (starEach args env) = trees)
    (h : wpAny M A (eval (.Name x p) env) (fun f s₁ => wpN M A (callWith pos f [] trees []) Q E s₁) E s) :
    wpN M A (eval (.Call (.Name x p) args [] pos) env) Q E s := by
  subst ht
  exact wpN_first h
theorem wpN_Call_Name1 {x : PySem.Str} {p pos : Pos} {e : PySem.Expr} {Q : Value → Shared → Prop}
    (h : wpAny M A (eval (.Name x p) env) (fun f s₁ => wpN M A (callWith pos f [] [(false, eval e env)] []) Q E s₁) E s)
    (hs : starEach [e] env = [(false, eval e env)] := by rfl) :
    wpN M A (eval (.Call (.Name x p) [e] [] pos) env) Q E s := wpN_Call_Name (by rw [hs]; rfl) h
theorem wpN_Call_Name2 {x : PySem.Str} {p pos : Pos} {e₁ e₂ : PySem.Expr} {Q : Value → Shared → Prop}
    (h : wpAny M A (eval (.Name x p) env) (fun f s₁ => wpN M A (callWith pos f [] [(false, eval e₁ env), (false, eval e₂ env)] []) Q E s₁) E s)
    (hs : starEach [e₁, e₂] env = [(false, eval e₁ env), (false, eval e₂ env)] := by rfl) :
    wpN M A (eval (.Call (.Name x p) [e₁, e₂] [] pos) env) Q E s := wpN_Call_Name (by rw [hs]; rfl) h
theorem evalArgsN_one {f : Value} {x : Sem Value} {Q : Args → Shared → Prop}
    (h : wpN M A x (fun v s' => Q ⟨[v], []⟩ s') E s) : wpN M A (evalArgs f true [(false, x)] []) Q E s := by
  unfold evalArgs
  show wpN M A (spliced [(false, x)] >>= _) Q E s
  refine wpN_bind ?_
  rw [spliced]
  refine wpN_bind (wpN_mono h (fun v s' h' => wpN_of ?_) fun _ _ x => x)
  simp only [Bool.false_eq_true, if_false]
  refine wpAny_bind (wpAny_pure (wpAny_bind (wpAny_holding (spliced_nil (wpAny_pure ?_)))))
  refine wpN_holding (wpN_of ?_)
  exact wpAny_bind (wpAny_pure (wpAny_bind (wpAny_pure (wpAny_pure h'))))
theorem wpN_keep {α : Type} {vs : List Value} {m : Sem α} {Q : α → Shared → Prop} (h : wpN M A m Q E s) : wpN M A (m.keep vs) Q E s :=
  fun Γ p hΓ hc hN => by rw [Sem.wp_keep]; exact h Γ p hΓ hc hN
theorem wpN_behind {t : Sem Value} {Q : Value → Shared → Prop} (h : wpN M A t Q E s) : wpN M A (t >>= fun r => holding [r] point >>= fun _ => pure r) Q E s :=
  wpN_bind (wpN_mono h (fun _ _ hr => wpN_of (wpAny_bind (wpAny_holding (wpAny_point (wpAny_pure hr))))) fun _ _ x => x)
theorem wpN_ite {α : Type} {c : Prop} [Decidable c] {a b : Sem α} {Q : α → Shared → Prop} (h : if c then wpN M A a Q E s else wpN M A b Q E s) :
    wpN M A (if c then a else b) Q E s := by split <;> simp_all
theorem callWithN_function {pos : Pos} {a : Addr} {args : List (Bool × Sem Value)} {Q : Value → Shared → Prop}
    (h : wpN M A (evalArgs (.ref a) true args []) (fun x s₁ => (∃ o fd, s₁.heap.get? a = some o ∧ o.data = .func fd) ∧ wpN M A (PySem.call (.ref a) x.pos x.kw) Q E s₁) E s) :
    wpN M A (callWith pos (.ref a) [] args []) Q E s := by
  unfold callWith
  refine wpN_bind (wpN_holding (wpN_mono h (fun x s₁ h₁ => wpN_bind (wpN_standAt ?_)) fun _ _ x => x))
  obtain ⟨⟨o, fd, ho, hd⟩, hc⟩ := h₁
  cases hs : args.any (·.1) <;> simp only [List.any_nil, Bool.or_false, List.nil_append] <;>
    refine wpN_first (m := keeperOf (.ref a)) ?_ <;> unfold keeperOf <;>
    refine wpAny_bind (wpAny_load ho ?_) <;> rw [hd] <;> refine wpAny_pure ?_
  · refine wpN_ite ?_
    split
    · exact wpN_behind hc
    · exact wpN_behind (by unfold callMarked; exact wpN_keep hc)
  · exact wpN_behind (by unfold callMarked; exact wpN_keep hc)
theorem callWithN_type {pos : Pos} {T : String} {args : List (Bool × Sem Value)} {Q : Value → Shared → Prop} (hplain : args.any (·.1) = false)
    (h : wpN M A (evalArgs (.type T) true args []) (fun x s₁ => wpN M A (PySem.call (.type T) x.pos x.kw) Q E s₁) E s) :
    wpN M A (callWith pos (.type T) [] args []) Q E s := by
  unfold callWith
  refine wpN_bind (wpN_holding (wpN_mono h (fun x s₁ h₁ => wpN_bind (wpN_standAt ?_)) fun _ _ x => x))
  simp only [hplain, List.any_nil, Bool.or_false, List.nil_append]
  refine wpN_first (wpAny_pure ?_)
  exact wpN_behind h₁
end

section
variable {prog : Program} {w : World} {A : Around} {E : Value → Shared → Prop} {s : Shared} {R : Result → Shared → Prop}
theorem codeN_forLoop {target it body orelse env} (I : Nat → Shared → Prop)
    (turn : ∀ n s, I n s → wpAny (model prog w) A (pyNext it) (fun r s₁ => match r with
      | none => wpAny (model prog w) A (execs orelse env) (fun f s₃ => R (.ok f) s₃) (notedBy (model prog w) A env fun e s' => R (.error e) s') s₁
      | some v => wpAny (model prog w) A (assign target env v) (fun _ s₂ => wpN (model prog w) A (execs body env) (fun f s₃ => match f with
          | .next | .cont => ∃ m, m < n ∧ I m s₃
          | .brk => R (.ok .next) s₃
          | .ret v => R (.ok (.ret v)) s₃) (notedBy (model prog w) A env fun e s' => R (.error e) s') s₂) (notedBy (model prog w) A env fun e s' => R (.error e) s') s₁) (notedBy (model prog w) A env fun e s' => R (.error e) s') s)
    (n : Nat) (h : I n s) (ht : ∀ v, letOwnedTupleGo target it v = pure () := by intro _; rfl) : codeN (model prog w) A (.forLoop target it body orelse env) R s := by
  refine codeN_loop rfl rfl I (fun n s hI => ?_) n h
  show wpN _ _ ((forTurn target it body orelse env).onRaise (fun x => do noteFrame x env; theTreesLotGoes x)) _ _ s
  refine wpN_noted ?_
  simp only [forTurn]
  refine wpN_bind (wpN_standAt (wpN_first (wpAny_onRaise (wpAny_mono (turn n s hI) (fun r s₁ h₁ => ?_) fun _ _ h' => wpAny_standAt h'))))
  cases r with
  | none => exact wpN_pure (.inr ⟨rfl, codeN_of (codeAny_block h₁)⟩)
  | some v =>
    refine wpN_first (wpAny_of_eq (ht v) ?_)
    refine wpN_first (wpAny_mono h₁ (fun _ s₂ h₂ => wpN_bind (wpN_mono h₂ (fun f s₃ h₃ => ?_) fun _ _ h' => h')) fun _ _ h' => h')
    cases f with
    | next => exact wpN_pure (.inl ⟨rfl, h₃⟩)
    | cont => exact wpN_pure (.inl ⟨rfl, h₃⟩)
    | brk => exact wpN_pure h₃
    | ret v => exact wpN_pure h₃
theorem codeN_func {body env}
    (h : wpN (model prog w) (A.deeper env) (execs body env) (fun f s' => R (.ok (.ret (match f with | .ret v => v | _ => .none))) s')
      (fun e s' => wpAny (model prog w) (A.deeper env) (leaving env e) (fun _ s'' => R (.error e) s'') (fun e' s'' => R (.error e') s'') s') s) :
    codeN (model prog w) A (.func body env) R s := by
  refine codeN_of_tree rfl ?_
  show wpN _ (A.deeper env) (do point; match ← (execs body env).onRaise (leaving env) with | .ret v => ret v | _ => ret .none) _ _ s
  refine wpN_first (wpAny_point (wpN_bind ?_))
  intro Γ p hΓ hc hN
  rw [Sem.wp_onRaise]
  refine Sem.wp_mono _ Γ _ (fun f p' s' h' => ?_) (fun e p' s' h' => ?_) p s (h Γ p hΓ hc hN)
  · cases f <;> exact wpN_pure h'
  · exact h' Γ p' hΓ
theorem codeN_call_function {a : Addr} {args : Args} {o : Obj} {fd : FuncData} {body : List Stmt} (hroom : A.depth < recursionLimit)
    (ho : s.heap.get? a = some o)
    (hd' : o.data = .func fd) (hco : fd.scope.isCoroutine = false) (hgen : fd.scope.isGenerator = false) (hbody : fd.body = .stmts body) (hcd : s.heap.CodeRec fd.code fd.qualname)
    (h : wpAny (model prog w) A.in1 (bindArgs fd args) (fun binds s₁ =>
      wpAny (model prog w) A.in1 (newFunctionEnv fd.scope fd.globals fd.closure binds (fd.qualname ++ ".<locals>.") (some a) fd.code none fd.builtins)
        (fun env s₂ => s₂.heap.NoLimit ∧ codeN (model prog w) A (.func body env) R s₂) (fun e s' => R (.error e) s') s₁) (fun e s' => R (.error e) s') s) :
    codeN (model prog w) A (.call (.ref a) args) R s := by
  refine codeN_of_tree rfl ?_
  show wpN _ A.in1 (callAny (.ref a) args) _ _ s
  simp only [callAny]
  refine wpN_first (wpAny_load ho ?_)
  obtain ⟨c, oc, vs, tq, hc, hoc, hdc, hq⟩ := hcd
  simp only [hd', callFunction, hco, hgen, hbody, hc]
  rw [hc] at h
  refine wpN_first (m := field (.ref c) 1) (wpAny_field hoc hdc hq (wpN_first (wpAny_pure ?_)))
  exact wpN_first (wpAny_mono h (fun binds s₁ h₁ => wpN_first (wpAny_mono h₁ (fun env s₂ h₂ => wpN_first (wpAny_enterFrame h₂.1 hroom
    (wpN_pure (And.intro rfl h₂.2)))) fun _ _ h' => h')) fun _ _ h' => h')
theorem codeN_call_builtin {id : String} {args : Args} {b : Builtin} (hD : decId id = false) (hq : plainId id = true) (hb : entryFor table id = some b)
    (h : wpAny (model prog w) A.in1 (checkBuiltinCall id args) (fun _ s₁ => wpN (model prog w) A.in1 (b args)
      (fun fin s' => match fin with | .done f => R (.ok f) s' | .again c' => c'.quiet = true ∧ codeN (model prog w) A c' R s') (fun e s' => R (.error e) s') s₁)
      (fun e s' => R (.error e) s') s) : codeN (model prog w) A (.call (.builtin id) args) R s := by
  refine codeN_of_tree rfl ?_
  show wpN _ A.in1 (do checkBuiltinCall id args; again (.builtin id args)) _ _ s
  refine wpN_first (wpAny_mono h (fun _ s₁ h₁ => wpN_pure (And.intro (plainId_quiet hq args) (codeN_of_tree hD ?_))) fun _ _ h' => h')
  show wpN _ _ (match entryFor table id with | some b => b args | none => unsupported ((withoutEnding? id "#data").getD id)) _ _ s₁
  rw [hb, Around.under_plainId hq args]; exact h₁
end
end Mine

end
theorem Mine.calmNSpine : True ∧ True := by
  w_top off
  first | (walk1; all_goals trivial) | exact ⟨trivial, trivial⟩

section
open PySem PySem.W PySem.Calls PyProof.Rows
set_option Elab.async false
set_option maxRecDepth 100000
namespace Mine
theorem ba_mro : mroOf (.type "bytearray") = pure [.type "bytearray", .type "object"] := by rw [mroOf_type]; kernel_rfl
theorem ba_lookup_new : typeLookup (.type "bytearray") "__new__" = pure (some (.builtin "bytearray.__new__")) := by rw [typeLookup_type, builtinLookup_eq_fast]; kernel_rfl
theorem ba_lookup_release : typeLookup (.type "bytearray") "__release_buffer__" = pure (some (.builtin "bytearray.__release_buffer__")) := by rw [typeLookup_type, builtinLookup_eq_fast]; kernel_rfl
theorem ba_lookup_buffer : typeLookup (.type "bytearray") "__buffer__" = pure (some (.builtin "bytearray.__buffer__")) := by rw [typeLookup_type, builtinLookup_eq_fast]; kernel_rfl
theorem ba_sub : isSubtype (.type "bytearray") (.type "bytearray") = pure true := by rw [isSubtype_type]; kernel_rfl
theorem ba_slot_init : Slot "bytearray" "__init__" "bytearray.__init__" :=
  .of (owner := "bytearray") (n := "__init__") (by rw [typeLookup_type, builtinLookup_eq_fast]; kernel_rfl) (by decide +kernel) (by decide +kernel) (by decide +kernel)
    (by first | exact .inl (by decide +kernel) | exact .inr (by decide +kernel)) (by rw [isSubtype_type]; kernel_rfl)
theorem ba_called : TypeCalled "bytearray" "bytearray.__new__" "bytearray.__init__" :=
  ⟨by decide +kernel, by decide +kernel, ⟨_, _, ba_mro⟩, madeBy_type ba_mro ba_lookup_new (by decide +kernel), by decide +kernel, by rw [isSubtype_type]; kernel_rfl, ba_slot_init⟩
theorem ba_typeCall (a : Value) : checkTypeCall "bytearray" ⟨[a], []⟩ = pure () := by kernel_rfl
theorem ba_newCall (a : Value) : checkBuiltinCall "bytearray.__new__" ⟨[.type "bytearray", a], []⟩ = pure () := by kernel_rfl
theorem ba_plain_new : plainId "bytearray.__new__" = true := by decide +kernel
theorem ba_entry_new : entryFor table "bytearray.__new__" = some Builtin.«list.__new__» :=
  entryFor_alias (id' := "list.__new__") (by kernel_rfl) (by first | rfl | decide +kernel) (by decide +kernel) (by kernel_rfl)
theorem ba_entry_init : entryFor table "bytearray.__init__" = some Builtin.«bytearray.__init__» := by first | exact entryFor_of_fast (by kernel_rfl) | exact entryFor_of_tree (by kernel_rfl)
theorem ba_bind (v : Value) : Builtin.Bytes.bindOptional "bytearray.__init__" "bytearray" ["source", "encoding", "errors"] [v] [] = pure [some v, none, none] := by kernel_rfl
set_option maxRecDepth 1000000 in
set_option maxHeartbeats 4000000 in
theorem ba_owner : ("bytearray.__new__".splitOn ".__new__").headD "" = "bytearray" := by simp +decide [String.splitOn, String.splitOnAux]
theorem ba_args_init (D : Addr) (a : Value) : argsOk "bytearray.__init__" ⟨[.ref D, a], []⟩ := by
  first | exact .inl (by kernel_rfl) | exact .inr (by kernel_rfl) | (unfold argsOk; kernel_rfl)
end Mine

end
theorem Mine.calmNBA : True ∧ True := by
  w_top off
  first | (walk1; all_goals trivial) | exact ⟨trivial, trivial⟩

section
open PySem PySem.W PySem.Calls PyProof.Rows
set_option Elab.async false
set_option maxRecDepth 100000
namespace Mine
section
variable {prog : Program} {w : World} {A : Around} {E : Value → Shared → Prop} {s : Shared} {R : Result → Shared → Prop}

theorem ba_new (a : Value) {Q₁ : Value → Shared → Prop}
    (h : Q₁ (.ref s.heap.objs.size) { s with heap := s.heap.push { cls := .type "bytearray", data := .bytearray #[] } }) :
    codeAny (model prog w) A (.call (.builtin "bytearray.__new__") ⟨[.type "bytearray", a], []⟩) (wants Q₁ E) s := by
  refine codeAny_of_tree ?_
  show wpAny _ A.in1 (do checkBuiltinCall "bytearray.__new__" ⟨[.type "bytearray", a], []⟩; again (.builtin "bytearray.__new__" ⟨[.type "bytearray", a], []⟩)) _ _ s
  refine wpAny_bind (wpAny_of_eq (ba_newCall a) (wpAny_pure ⟨plainId_quiet ba_plain_new _, codeAny_builtin_stack ba_entry_new rfl fun p st => ?_⟩))
  rw [Around.under_plainId ba_plain_new _]
  have hsub := ba_sub
  have hown := ba_owner
  obtain ⟨hp, g, d, tk, os⟩ := s
  simp only [hown]
  wp_walk
  exact h

theorem ba_ownRelease {v : Value} {Q : Bool → Shared → Prop} (hT : s.TypeIs v "bytearray") (h : Q false s) : wpAny (model prog w) A (Builtin.Bytes.ownRelease v) Q E s := by
  unfold Builtin.Bytes.ownRelease Builtin.Bytes.slotIsOwn
  refine wpAny_bind (wpAny_bind (wpAny_specialOf hT ba_lookup_release ?_))
  refine bm_if_false (by decide +kernel) ?_
  rw [show ("bytearray.__release_buffer__".dropRight ("__release_buffer__".length + 1)) = "bytearray" by decide +kernel]
  exact wpAny_isInstance hT ba_sub (wpAny_pure h)

theorem ba_payload {D : Addr} {b : Array UInt8} {o : Obj} {k : Nat} {Q : Array UInt8 → Shared → Prop} (ho : s.heap.get? D = some o) (hd : o.data = .bytearray b k) (h : Q b s) :
    wpAny (model prog w) A (Builtin.Bytes.payload (.ref D)) Q E s := by
  unfold Builtin.Bytes.payload Builtin.Bytes.payload?
  refine wpAny_bind (wpAny_bind (wpAny_load ho ?_))
  rw [hd]
  exact wpAny_pure (wpAny_pure h)

abbrev baOf (b : Array UInt8) : Obj := { cls := .type "bytearray", data := .bytearray b }

theorem ba_write {D : Addr} {b : Array UInt8} {f : Array UInt8 → Array UInt8} {Q : Unit → Shared → Prop} (ho : s.heap.get? D = some (baOf b)) (hz : (f b).size ≤ sizeLine)
    (h : ∀ h', h'.get? D = some (baOf (f b)) → Heap.SameBut D s.heap h' → Q () { s with heap := h' }) :
    wpAny (model prog w) A (Builtin.Bytes.write (.ref D) f) Q E s := by
  show wpAny _ _ (updateBytearray D f) _ _ _
  unfold updateBytearray
  refine wpAny_bind (wpAny_load ho ?_)
  show wpAny _ _ (update D (Obj.mapBytearray f) >>= fun _ => lookBehind D) _ _ _
  refine wpAny_bind (wpAny_update ho ?_)
  have hS₂ : (s.heap.update D (Obj.mapBytearray f)).get? D = some (baOf (f b)) := Heap.get?_update_self (Obj.mapBytearray f) ho rfl
  refine wpAny_lookBehind hS₂ ?_ (h _ hS₂ (Heap.SameBut.update ..))
  show (if (f b).size > sizeLine then some "bytearray:memory" else none) = none
  rw [if_neg (Nat.not_lt.mpr hz)]

theorem noDec_exported {st : List (Code × Pos)} {self : Value} (h : noDec st) : (st.any fun
    | (.builtin "bytearray.__contains__" ⟨v :: _, _⟩, _) | (.builtin "bytearray.__mod__" ⟨v :: _, _⟩, _)
    | (.builtin "bytearray.__rmod__" ⟨_ :: v :: _, _⟩, _) | (.builtin "_struct.pack_into.held" ⟨v :: _, _⟩, _) => Builtin.Bytes.sameRef v self
    | (.builtin "bytearray.find.held" ⟨_ :: _ :: held, _⟩, _) => held.any (Builtin.Bytes.sameRef self)
    | (.builtin id ⟨v :: _, _⟩, _) => Builtin.Bytes.sameRef v self && Builtin.Bytes.decodersThatHold.contains id
    | _ => false) = false := by
  rw [List.any_eq_false]
  intro x hx
  have hd := h x hx
  obtain ⟨c, p⟩ := x
  cases c with
  | builtin id args =>
    have h1 : Builtin.Bytes.decodersThatHold.contains id = false ∧ (["bytearray.__contains__", "bytearray.__mod__", "bytearray.__rmod__", "_struct.pack_into.held", "bytearray.find.held"].contains id) = false := by
      simpa only [isDec, decId, Bool.or_eq_false_iff] using hd
    obtain ⟨h1, h2⟩ := h1
    simp only [List.contains_cons, List.contains_nil, Bool.or_false, Bool.or_eq_false_iff, beq_eq_false_iff_ne, ne_eq] at h2
    obtain ⟨q1, q2, q3, q4, q5⟩ := h2
    split <;> simp_all
  | _ => split <;> simp_all
end
end Mine

end
theorem Mine.calmNBA2 : True ∧ True := by
  w_top off
  first | (walk1; all_goals trivial) | exact ⟨trivial, trivial⟩

section
open PySem PySem.W PySem.Calls PyProof.Rows
set_option Elab.async false
set_option maxRecDepth 100000
namespace Mine
section
variable {prog : Program} {w : World} {A : Around} {E : Value → Shared → Prop} {s : Shared} {R : Result → Shared → Prop}

theorem wpN_of_eq {α : Type} {M : Model} {t : Sem α} {a : α} {Q : α → Shared → Prop} (h : t = pure a) (hQ : Q a s) : wpN M A t Q E s := wpN_of (wpAny_of_eq h hQ)
theorem wpN_exported {self : Value} {Q : Bool → Shared → Prop} (h : Q false s) : wpN (model prog w) A (Builtin.Bytes.exported self) Q E s := by
  unfold Builtin.Bytes.exported
  refine wpN_bind (wpN_stack fun st hst => ?_)
  exact wpN_of_eq (a := false) (congrArg pure (noDec_exported (self := self) hst)) h

theorem wpN_if_false {α : Type} {M : Model} {c : Bool} {a b : Sem α} {Q : α → Shared → Prop} (hc : c = false) (h : wpN M A b Q E s) : wpN M A (if c = true then a else b) Q E s := by
  subst hc
  exact h
theorem wpN_if_true {α : Type} {M : Model} {c : Bool} {a b : Sem α} {Q : α → Shared → Prop} (hc : c = true) (h : wpN M A a Q E s) : wpN M A (if c = true then a else b) Q E s := by
  subst hc
  exact h

theorem ba_init {D : Addr} {n : Int} {t : Tok} (hD : s.heap.get? D = some (baOf #[])) (h0 : 0 ≤ n) (hz : n.toNat ≤ sizeLine)
    {Q : Fin → Shared → Prop} (h : ∀ h', h'.get? D = some (baOf (Array.replicate n.toNat 0)) → Heap.SameBut D s.heap h' → Q (.done (.ret .none)) { s with heap := h' }) :
    wpN (model prog w) A (Builtin.«bytearray.__init__» ⟨[.ref D, .int n t], []⟩) Q E s := by
  have hT : s.TypeIs (.ref D) "bytearray" := ⟨_, hD, rfl⟩
  have hsz : sizeLine < 2 ^ 62 := by decide
  unfold Builtin.«bytearray.__init__»
  refine wpN_first (ba_ownRelease hT ?_)
  refine wpN_if_false rfl ?_
  refine wpN_first (wpAny_of_eq (ba_bind _) ?_)
  refine wpN_bind (wpN_of_eq (a := ()) rfl ?_)
  refine wpN_bind (wpN_of_eq (a := ()) rfl ?_)
  refine wpN_bind ?_
  refine wpN_bind (wpN_exported ?_)
  refine wpN_of ?_
  refine wpAny_bind ?_
  show wpAny _ _ (Builtin.Bytes.exportsOf (.ref D)) _ _ _
  unfold Builtin.Bytes.exportsOf
  refine wpAny_bind (wpAny_load hD ?_)
  refine wpAny_pure (wpAny_pure ?_)
  refine wpN_of ?_
  refine bm_if_false rfl ?_
  refine wpAny_bind (ba_write hD (Nat.zero_le _) fun h₁ hD₁ hs₁ => ?_)
  refine wpAny_bind (wpAny_of_eq (a := none) rfl ?_)
  refine bm_if_false rfl ?_
  refine wpAny_bind ?_
  refine bm_if_false rfl ?_
  refine bm_if_false rfl ?_
  refine wpAny_pure ?_
  refine wpAny_bind (wpAny_specialOf (typeIs_int _ _ _) F.slot_int_index.lookup ?_)
  refine bm_if_true rfl ?_
  refine wpAny_bind (wpAny_attempt (wpAny_of_eq (rfl : asIndex (.int n t) = pure n) ?_))
  refine bm_if_false (by simp only [Builtin.Bytes.fitsIndex, Bool.not_eq_false', Bool.and_eq_true, decide_eq_true_eq]; omega) ?_
  refine wpAny_ite ?_
  rw [if_neg (by omega)]
  refine bm_if_false (by simp only [beq_eq_false_iff_ne, ne_eq]; omega) ?_
  refine bm_if_false (by simp only [Builtin.Bytes.tooLong, decide_eq_false_iff_not]; omega) ?_
  refine wpAny_bind (wpAny_rule ?_)
  by_cases hn : n > 0
  · refine wpAny_ite ?_
    rw [if_pos hn]
    refine wpAny_bind (ba_write hD₁ (by rw [Array.size_replicate]; exact hz) fun h₂ hD₂ hs₂ => ?_)
    exact wpAny_pure (h h₂ hD₂ (hs₁.trans hs₂))
  · refine wpAny_ite ?_
    rw [if_neg hn]
    have e : n.toNat = 0 := by omega
    exact wpAny_pure (h h₁ (by rw [e]; exact hD₁) hs₁)

theorem codeN_builtin {id : String} {args : Args} {b : Builtin} (hD : decId id = false) (hb : entryFor table id = some b)
    (h : wpN (model prog w) (A.under (.builtin id args)) (b args)
      (fun fin s' => match fin with | .done f => R (.ok f) s' | .again c' => c'.quiet = true ∧ codeN (model prog w) A c' R s') (fun e s' => R (.error e) s') s) :
    codeN (model prog w) A (.builtin id args) R s := by
  refine codeN_of_tree hD ?_
  show wpN _ _ (match entryFor table id with | some b => b args | none => unsupported ((withoutEnding? id "#data").getD id)) _ _ s
  rw [hb]; exact h

theorem ba_call {n : Int} {t : Tok} (h0 : 0 ≤ n) (hz : n.toNat ≤ sizeLine) {Q : Value → Shared → Prop}
    (h : ∀ h', h'.get? s.heap.objs.size = some (baOf (Array.replicate n.toNat 0)) → Heap.SameBut s.heap.objs.size (s.heap.push (baOf #[])) h' → Q (.ref s.heap.objs.size) { s with heap := h' }) :
    wpN (model prog w) A (PySem.call (.type "bytearray") [.int n t]) Q E s := by
  refine wpN_call (codeN_of_tree rfl ?_)
  show wpN _ _ (callAny (.type "bytearray") _) _ _ _
  refine wpN_pure ⟨Code.quiet_builtin _ (by decide +kernel), codeN_builtin (by decide +kernel) F.entry_type_call ?_⟩
  rw [Around.under_plain (weight_type_call_type "bytearray" [.int n t] []) rfl]
  unfold Builtin.«type.__call__»
  refine wpN_if_false ba_called.notType ?_
  refine wpN_if_false ba_called.canCreate ?_
  refine wpN_first (wpAny_of_eq (ba_typeCall _) ?_)
  refine wpN_first (wpAny_of_eq ba_mro ?_)
  refine wpN_if_false rfl ?_
  refine wpN_first (wpAny_of_eq ba_called.made ?_)
  refine wpN_first (wpAny_pure ?_)
  refine wpN_first (wpAny_holding (wpAny_call (codeAny_mono (ba_new (.int n t) (Q₁ := fun obj s₁ => obj = .ref s.heap.objs.size ∧ s₁ = { s with heap := s.heap.push (baOf #[]) }) (E := fun _ _ => False) ⟨rfl, rfl⟩) fun r s₁ hr => ?_)))
  cases r with
  | error e => exact hr.elim
  | ok fl =>
    cases fl with
    | ret obj =>
      obtain ⟨rfl, rfl⟩ := hr
      have hD : (s.heap.push (baOf #[])).get? s.heap.objs.size = some (baOf #[]) := Heap.get?_push_size _ rfl
      have hT : ({ s with heap := s.heap.push (baOf #[]) } : Shared).TypeIs (.ref s.heap.objs.size) "bytearray" := ⟨_, hD, rfl⟩
      refine wpN_first (wpAny_isInstance hT ba_sub ?_)
      refine wpN_if_false rfl ?_
      refine wpN_bind (wpN_holding ?_)
      unfold callSpecial?
      refine wpN_first (wpAny_specialOf hT ba_slot_init.lookup ?_)
      refine wpN_holding ?_
      refine wpN_first (wpAny_of_eq (ba_slot_init.bind _) ?_)
      refine wpN_bind (wpN_call (codeN_call_builtin (by decide +kernel) ba_slot_init.plain ba_entry_init (ba_slot_init.check _ _ _ _ _ _ _ _ hT (ba_args_init _ _) (ba_init hD h0 hz fun h' e1 e2 => ?_))))
      refine wpN_pure ?_
      refine wpN_if_false rfl ?_
      exact wpN_pure (h h' e1 e2)
    | _ => exact hr.elim
end
end Mine

end
theorem Mine.calmNBA3 : True ∧ True := by
  w_top off
  first | (walk1; all_goals trivial) | exact ⟨trivial, trivial⟩

section
open PySem PySem.W PySem.Calls PyProof.Rows
set_option Elab.async false
set_option maxRecDepth 100000
namespace Mine
theorem ba_slot_set : Slot "bytearray" "__setitem__" "bytearray.__setitem__" :=
  .of (owner := "bytearray") (n := "__setitem__") (by rw [typeLookup_type, builtinLookup_eq_fast]; kernel_rfl) (by decide +kernel) (by decide +kernel) (by decide +kernel)
    (by first | exact .inl (by decide +kernel) | exact .inr (by decide +kernel)) (by rw [isSubtype_type]; kernel_rfl)
theorem ba_entry_set : entryFor table "bytearray.__setitem__" = some Builtin.«bytearray.__setitem__» := by first | exact entryFor_of_fast (by kernel_rfl) | exact entryFor_of_tree (by kernel_rfl)
theorem ba_args_set (D : Addr) (a b : Value) : argsOk "bytearray.__setitem__" ⟨[.ref D, a, b], []⟩ := by
  first | exact .inl (by kernel_rfl) | exact .inr (by kernel_rfl) | (unfold argsOk; kernel_rfl)
theorem ba_no_bytes : typeLookup (.type "bytearray") "__bytes__" = pure none := by rw [typeLookup_type, builtinLookup_eq_fast]; kernel_rfl
theorem ba_no_index : typeLookup (.type "bytearray") "__index__" = pure none := by rw [typeLookup_type, builtinLookup_eq_fast]; kernel_rfl
section
variable {prog : Program} {w : World} {A : Around} {E : Value → Shared → Prop} {s : Shared} {R : Result → Shared → Prop}

theorem ba_subscript {i : Int} {t : Tok} {Q : Option Int → Shared → Prop} (hf : Builtin.Bytes.fitsIndex i = true) (h : Q (some i) s) : wpAny (model prog w) A (Builtin.Bytes.subscript? (.int i t)) Q E s := by
  unfold Builtin.Bytes.subscript?
  refine wpAny_bind ?_
  refine wpAny_specialOf (typeIs_int s i t) F.slot_int_index.lookup ?_
  refine bm_if_false rfl ?_
  refine wpAny_bind (wpAny_of_eq (rfl : asIndex (.int i t) = pure i) ?_)
  refine bm_if_false (by rw [hf]; rfl) ?_
  exact wpAny_pure h
theorem ba_byteValue {v : Int} {u : Tok} {Q : UInt8 → Shared → Prop} (v0 : 0 ≤ v) (v1 : v < 256) (h : Q v.toNat.toUInt8 s) : wpAny (model prog w) A (Builtin.Bytes.byteValue (.int v u)) Q E s := by
  unfold Builtin.Bytes.byteValue
  refine wpAny_bind (wpAny_of_eq (rfl : asIndex (.int v u) = pure v) ?_)
  refine bm_if_false (by simp only [Bool.or_eq_false_iff, decide_eq_false_iff_not]; omega) ?_
  exact wpAny_pure h
theorem ba_fits {i : Int} (h0 : 0 ≤ i) (h1 : i ≤ 1000000) : Builtin.Bytes.fitsIndex i = true := by
  simp only [Builtin.Bytes.fitsIndex, Bool.and_eq_true, decide_eq_true_eq]
  exact ⟨Int.le_trans (by decide) h0, Int.lt_of_le_of_lt h1 (by decide)⟩
theorem ba_setItem {D : Addr} {b : Array UInt8} {i v : Int} {t u : Tok} (hD : s.heap.get? D = some (baOf b)) (h0 : 0 ≤ i) (hi : i < b.size) (v0 : 0 ≤ v) (v1 : v < 256) (hz : b.size ≤ 1000000)
    {Q : Unit → Shared → Prop} (h : ∀ h', h'.get? D = some (baOf (b.setIfInBounds i.toNat v.toNat.toUInt8)) → Heap.SameBut D s.heap h' → Q () { s with heap := h' }) :
    wpAny (model prog w) A (setItem (.ref D) (.int i t) (.int v u)) Q E s := by
  have hT : s.TypeIs (.ref D) "bytearray" := ⟨_, hD, rfl⟩
  unfold setItem
  refine wpAny_holding ?_
  refine wpAny_bind (wpAny_sequenceKey hT (by decide) ?_)
  refine wpAny_bind (wpAny_callSpecial?_slot (name := Str.ofString "__setitem__") hT ba_slot_set
    (wpAny_call_entry ba_slot_set hT ba_entry_set ?_ (ba_args_set _ _ _)))
  show wpAny _ _ (Builtin.Bytes.subscript? (.int i t) >>= _) _ _ s
  refine wpAny_bind (ba_subscript (ba_fits h0 (by omega)) ?_)
  show wpAny _ _ (Builtin.Bytes.byteValue (.int v u) >>= _) _ _ s
  refine wpAny_bind (ba_byteValue v0 v1 ?_)
  refine wpAny_bind (ba_payload hD rfl ?_)
  rw [seqIndex_of h0 hi]
  refine wpAny_bind (ba_write hD (by rw [Array.size_setIfInBounds]; exact Nat.le_trans hz (Nat.le_of_ble_eq_true rfl)) fun h' e1 e2 => ?_)
  exact wpAny_pure ⟨_, rfl, wpAny_pure (h h' e1 e2)⟩

theorem ba_toBytes_new {D : Addr} {b : Array UInt8} {Q : Value → Shared → Prop} (hD : s.heap.get? D = some (baOf b)) (hz : b.size ≤ sizeLine)
    (hQ : ∀ t k, Q (.bytes b t) { s with toks := k }) :
    codeAny (model prog w) A (.call (.builtin "bytes.__new__") ⟨[.type "bytes", .ref D], []⟩) (wants Q E) s := by
  refine codeAny_of_tree ?_
  show wpAny _ A.in1 (do checkBuiltinCall "bytes.__new__" ⟨[.type "bytes", .ref D], []⟩; again (.builtin "bytes.__new__" ⟨[.type "bytes", .ref D], []⟩)) _ _ s
  refine wpAny_bind (wpAny_of_eq (F.bm_newCall _) (wpAny_pure ⟨plainId_quiet F.bm_plain _, codeAny_builtin F.bm_entry ?_⟩))
  rw [Around.under_plainId F.bm_plain _]
  have hT : s.TypeIs (.ref D) "bytearray" := ⟨_, hD, rfl⟩
  unfold Builtin.«bytes.__new__»
  refine wpAny_bind (wpAny_of_eq (a := true) rfl ?_)
  refine bm_if_false rfl ?_
  refine wpAny_bind (wpAny_of_eq F.bm_sub ?_)
  refine bm_if_false rfl ?_
  refine wpAny_bind (wpAny_of_eq (F.bm_bind _) ?_)
  refine wpAny_bind (wpAny_of_eq (a := ()) rfl ?_)
  refine wpAny_bind (wpAny_of_eq (a := ()) rfl ?_)
  refine bm_if_false rfl ?_
  refine wpAny_bind (wpAny_specialOf hT ba_no_bytes ?_)
  refine wpAny_bind (wpAny_bind ?_)
  show wpAny _ _ (load D >>= _) _ _ _
  refine wpAny_bind (wpAny_load hD ?_)
  refine wpAny_pure (wpAny_pure ?_)
  refine bm_if_false rfl ?_
  refine wpAny_bind (wpAny_specialOf hT ba_no_index ?_)
  refine bm_if_true rfl ?_
  refine wpAny_bind ?_
  refine wpAny_bind ?_
  refine wpAny_specialOf hT ba_lookup_buffer ?_
  refine wpAny_bind ?_
  unfold Builtin.Bytes.slotIsOwn
  refine wpAny_bind (wpAny_specialOf hT ba_lookup_buffer ?_)
  refine bm_if_false (by decide +kernel) ?_
  rw [show ("bytearray.__buffer__".dropRight ("__buffer__".length + 1)) = "bytearray" by decide +kernel]
  refine wpAny_isInstance hT ba_sub ?_
  refine bm_if_false rfl ?_
  refine wpAny_bind (wpAny_specialOf hT ba_lookup_buffer ?_)
  refine wpAny_bind (ba_ownRelease hT ?_)
  refine bm_if_false rfl ?_
  refine wpAny_bind (ba_payload hD rfl (wpAny_pure ?_))
  refine wpAny_bind (wpAny_rule ?_)
  refine wpAny_bind (wpAny_mkBytes ?_ hz)
  show wpAny _ _ (if (Value.type "bytes" == Value.type "bytes") = true then _ else _) _ _ _
  refine bm_if_true (by decide) ?_
  first
    | exact wpAny_pure (hQ _ _)
    | exact wpAny_bind (wpAny_pure (wpAny_pure (hQ _ _)))
theorem ba_toBytes {D : Addr} {b : Array UInt8} {Q : Value → Shared → Prop} (hD : s.heap.get? D = some (baOf b)) (hz : b.size ≤ sizeLine)
    (hQ : ∀ t k, Q (.bytes b t) { s with toks := k }) : wpAny (model prog w) A (PySem.call (.type "bytes") [.ref D]) Q E s := by
  refine callType_codes (Q₁ := fun obj s₁ => s₁.TypeIs obj "bytes" ∧ Q obj s₁) F.bm_called (F.bm_typeCall _) F.entry_object_init
    (ba_toBytes_new hD hz fun t k => ⟨PySem.W.typeIs_bytes _ _ _, hQ t k⟩) fun obj s₁ h₁ => ?_
  exact ⟨h₁.1, F.args_object_init_2 obj _, object_init_meets F.bm_called.init.lookup F.bm_called.made (by decide) prog w A.in1 _ s₁ ⟨h₁.1, rfl, h₁.2⟩⟩
end
end Mine

end
theorem Mine.calmNBA4 : True ∧ True := by
  w_top off
  first | (walk1; all_goals trivial) | exact ⟨trivial, trivial⟩

section
open PySem PySem.W PyProof.Rows
set_option Elab.async false
namespace Mine
set_option maxRecDepth 100000 in
set_option maxHeartbeats 8000000 in
open_top hd for PySem.Challenge.rw_gx0001_01

abbrev CT (w : World) (f : Addr) (d u : Nat) (vs : List Value) (Out : List (Addr × Obj) → Value → Prop) : Prop :=
  ∀ (mean : ExcName → Option Value) (mg mb : PySem.Str → Option Value) (dp un : Nat) (gd : Option (List Code)) (cn : PySem.Str) (cs : Scope) (a : Addr) (ccd : Value) (cl : List (PySem.Str × Addr)) (outer : List Env) (A₀ : Around) (base h₀ : Heap) (L : Addr) (m : PySem.Str → Option Value) (news : List (Addr × Obj)) (s : Shared) (Q E : Value → Shared → Prop),
    Below A₀ base outer h₀ → Fr h₀ L s.heap m → (hd.heap_39 w.params).In h₀ → News h₀ L s.heap news →
    Top hd.view_39 (looseW hd.view_39 [PySem.Str.ofString "insort_left", PySem.Str.ofString "bisect_left"]) mean mg mb h₀ →
    cs.kind = .function → dp + d < recursionLimit → un + u < cLine →
    (∀ r tl h' tk', Fr h₀ L h' m → News h₀ L h' (news ++ tl) → Out tl r → Q r { s with heap := h', toks := tk' }) →
    wpAny (model PySem.Challenge.rw_gx0001_01.row.prog w) (ktrTop dp un gd cn cs L a ccd cl outer) (call (.ref f) vs) Q E s
end Mine

end
theorem Mine.calmBase : True ∧ True := by
  w_top off
  first | (walk1; all_goals trivial) | exact ⟨trivial, trivial⟩

section
open PySem PySem.W PyProof.Rows
set_option Elab.async false
namespace Mine
theorem news_sub {h₀ h : Heap} {L : Addr} {l : List (Addr × Obj)} (N : News h₀ L h l) (l' : List (Addr × Obj)) (hs : ∀ p ∈ l', p ∈ l) : News h₀ L h l' := fun p hp => N p (hs p hp)
section
open PySem.Calls PyProof.V PySem.Spec
variable {prog : Program} {w : World} {A : Around} {E : Value → Shared → Prop} {s : Shared} {env : Env} {h₀ : Heap} {x : PySem.Str} {body : List Stmt} {Q : Flow → Shared → Prop}

/-- a loop over bytes, any state over a ledger that may grow -/
theorem bytes_loop {b : Array UInt8} {tb : Tok} {m₀ : PySem.Str → Option Value} {news : List (Addr × Obj)}
    (J : Nat → (PySem.Str → Option Value) → List (Addr × Obj) → Prop)
    (hh : A.handled = none) (F : Fr h₀ env.locals s.heap m₀) (N : News h₀ env.locals s.heap news) (hj : J 0 m₀ news)
    (turn : ∀ i (c : UInt8) t m₁ nx h tk own, b[i]? = some c → OwnOff own (nx.map (·.1)) → J i m₁ nx →
      Fr h₀ env.locals h (fun y => if y = x then some (.int (c.toNat : Int) t) else m₁ y) → News h₀ env.locals h (nx ++ own) →
      wpAny (model prog w) A (execs body env) (InvPostG h₀ env.locals (J (i + 1)) own { s with heap := h, toks := tk } Q) E { s with heap := h, toks := tk })
    (done : ∀ m₁ nx h tk, J b.size m₁ nx → Fr h₀ env.locals h m₁ → News h₀ env.locals h nx → Q .next { s with heap := h, toks := tk }) :
    wpAny (model prog w) A (pyIter (.bytes b tb)) (fun it s₂ => LoopAtV prog w A h₀ env x body Q E it s₂) E s := by
  refine KBw.pyIter_bytes ?_
  have W := KBw.walks (prog := prog) (w := w) hh s.heap.objs.size b tb
  refine kdr_loop J W (fun _ h => h) (fun _ h => h) ?_ ?_ ?_ ?_ ⟨_, Heap.get?_push_size _ rfl, rfl, rfl⟩ (F.push _) (fun p hp => ⟨Heap.get?_push_of_some _ (N p hp).1, (N p hp).2⟩) hj ?_ ?_
  · rintro i h ⟨o, ho, _⟩ b' hb
    rw [List.mem_singleton.mp hb]
    exact ⟨o, ho⟩
  · intro hm
    exact absurd F.ns.lt ((List.mem_singleton.mp hm) ▸ Nat.lt_irrefl _)
  · intro b' hb
    rw [List.mem_singleton.mp hb]
    exact next_is_new F
  · intro p hp hI
    exact absurd (Heap.lt_size (N p hp).1) ((List.mem_singleton.mp hI) ▸ Nat.lt_irrefl _)
  · rintro i v m₁ nx h tk own hi ⟨c, u, hc, rfl⟩ hoff hJ F₁ N₁
    exact turn i c u m₁ nx h tk own hc hoff hJ F₁ N₁
  · intro m₁ nx h tk hJ F₁ N₁
    exact done m₁ nx h tk hJ F₁ N₁

theorem ne_nil_cons {L a b : Addr} {news n₁ : List (Addr × Obj)} {vs : List Value} {ds : List Dat} {ka kb : Nat} {Q : Value → Shared → Prop}
    (N : News h₀ L s.heap news) (ma : (a, W.listOf vs.toArray ka) ∈ news) (D : DatAll n₁ vs ds) (sa : ∀ p ∈ n₁, p ∈ news) (hok : ∀ e ∈ ds, kqdOk 8 e = true) (hne : ds ≠ [])
    (mb : (b, W.listOf #[] kb) ∈ news) (hu : A.units + 64 < cLine) (h : Q (.bool true) s) : wpAny (model prog w) A (compareOp .NotEq (.ref a) (.ref b)) Q E s := by
  refine kqd_ne N ma rfl rfl D sa mb rfl (rfl : _ = Data.seq (([] : List Value).toArray) _) DatAll.nil (n₂ := []) (fun _ h => nomatch h) hok (fun _ h => nomatch h) hu ?_
  simpa [hne] using h
theorem ne_nil_nil {L a b : Addr} {news : List (Addr × Obj)} {ka kb : Nat} {Q : Value → Shared → Prop}
    (N : News h₀ L s.heap news) (ma : (a, W.listOf ([] : List Value).toArray ka) ∈ news)
    (mb : (b, W.listOf #[] kb) ∈ news) (hu : A.units + 64 < cLine) (h : Q (.bool false) s) : wpAny (model prog w) A (compareOp .NotEq (.ref a) (.ref b)) Q E s := by
  refine kqd_ne N ma rfl rfl DatAll.nil (n₁ := []) (fun _ h => nomatch h) mb rfl (rfl : _ = Data.seq (([] : List Value).toArray) _) DatAll.nil (n₂ := []) (fun _ h => nomatch h) (fun _ h => nomatch h) (fun _ h => nomatch h) hu ?_
  simpa using h

/-- the last item of a list -/
theorem item_last {value slice : PySem.Expr} {L l : Addr} {news : List (Addr × Obj)} {vs : List Value} {v : Value} {n : Nat} {u : Tok} {Q : Value → Shared → Prop}
    (N : News h₀ L s.heap news) (hm : (l, W.listOf (vs ++ [v]).toArray n) ∈ news) (hz : vs.length < 1000000) (h : Q v s)
    (hs : subscripted slice false (.ref l) (.int (-1) u) = operate [.ref l, .int (-1) u] (getItem (.ref l) (.int (-1) u)) := by with_unfolding_all rfl) :
    wpAny (model prog w) A (subscriptTail value slice (.ref l) (.int (-1) u)) Q E s := by
  have hl : s.heap.IsList l (vs ++ [v]).toArray := ⟨_, (N _ hm).1, rfl, n, rfl⟩
  refine tail_any hl.typeIs slot_list_getitem.lookup (wpAny_getItem_list_neg hl (x := v) (by decide) ?_ (by decide) ?_ h) hs
  · simp only [List.size_toArray, List.length_append, List.length_cons, List.length_nil]; omega
  · have : ((-1 : Int) + ((vs ++ [v]).toArray.size : Nat)).toNat = vs.length := by
      simp only [List.size_toArray, List.length_append, List.length_cons, List.length_nil]; omega
    rw [this]; simp

/-- the ledger behind a change of one object of it -/
def Turned (h₀ : Heap) (L : Addr) (h' : Heap) (news : List (Addr × Obj)) (D : Addr) (o : Obj) : Prop :=
  ∀ l' : List (Addr × Obj), (∀ p ∈ l', p = (D, o) ∨ (p ∈ news ∧ p.1 ≠ D)) → News h₀ L h' l'
theorem turned_of {h h' : Heap} {L D : Addr} {news : List (Addr × Obj)} {o o' : Obj} (N : News h₀ L h news) (hm : (D, o) ∈ news) (hs : Heap.SameBut D h h') (ho : h'.get? D = some o') : Turned h₀ L h' news D o' := by
  intro l' hl p hp
  rcases hl p hp with rfl | ⟨hp, hne⟩
  · exact ⟨ho, (N _ hm).2⟩
  · exact ⟨(hs.2 _ hne).trans (N p hp).1, (N p hp).2⟩

theorem set_last {m : PySem.Str → Option Value} {L D : Addr} {news : List (Addr × Obj)} {vs : List Value} {x v : Value} {n : Nat} {u : Tok} {Q : Unit → Shared → Prop}
    (F : Fr h₀ L s.heap m) (N : News h₀ L s.heap news) (hm : (D, W.listOf (vs ++ [x]).toArray n) ∈ news) (hz : vs.length < 1000000)
    (h : ∀ h', Fr h₀ L h' m → Turned h₀ L h' news D (W.listOf (vs ++ [v]).toArray n) → Q () { s with heap := h' }) :
    wpAny (model prog w) A (setItem (.ref D) (.int (-1) u) v) Q E s := by
  have z := N _ hm
  have hi : ((-1 : Int) + ((vs ++ [x]).toArray.size : Nat)).toNat = vs.length := by
    simp only [List.size_toArray, List.length_append, List.length_cons, List.length_nil]; omega
  refine ki_setBack z.1 (by decide) ?_ (by decide) (h _ (F.change (Heap.SameBut.update ..) z.2.1 z.2.2) (turned_of N hm (Heap.SameBut.update ..) ?_))
  · simp only [List.size_toArray, List.length_append, List.length_cons, List.length_nil]; omega
  · rw [hi]
    have q := PySem.IsL.update z.1 (·.setIfInBounds vs.length v)
    have e : (vs ++ [x]).toArray.setIfInBounds vs.length v = (vs ++ [v]).toArray := by
      apply Array.toList_inj.mp
      simp
    simp only [e] at q
    simpa using q

theorem append_any {m : PySem.Str → Option Value} {L D : Addr} {news : List (Addr × Obj)} {vs : List Value} {v : Value} {n : Nat} {Q : Value → Shared → Prop}
    (F : Fr h₀ L s.heap m) (N : News h₀ L s.heap news) (hm : (D, W.listOf vs.toArray n) ∈ news) (hz : vs.length < 1000000)
    (h : ∀ h', Fr h₀ L h' m → Turned h₀ L h' news D (W.listOf (vs ++ [v]).toArray (n + 1)) → Q .none { s with heap := h' }) :
    wpAny (model prog w) A (call (.builtin "list.append") [.ref D, v]) Q E s := by
  have z := N _ hm
  refine append_at z.1 (fun h' hs ho => h h' (F.change hs z.2.1 z.2.2) (turned_of N hm hs ?_)) ?_
  · rw [ho]; simp
  · rw [sizeLine_eq, List.size_toArray]; omega
end

theorem CT.use {w : World} {f : Addr} {d u : Nat} {vs : List Value} {Out : List (Addr × Obj) → Value → Prop} (C : CT w f d u vs Out)
    {mean : ExcName → Option Value} {mg mb : PySem.Str → Option Value} {dp un : Nat} {gd : Option (List Code)} {cn : PySem.Str} {cs : Scope} {a : Addr} {ccd : Value} {cl : List (PySem.Str × Addr)} {outer : List Env} {A₀ : Around} {base h₀ : Heap} {L : Addr} {m : PySem.Str → Option Value} {news : List (Addr × Obj)} {s : Shared} {Q E : Value → Shared → Prop}
    (B : Below A₀ base outer h₀) (F : Fr h₀ L s.heap m) (X : (hd.heap_39 w.params).In h₀) (N : News h₀ L s.heap news)
    (T : Top hd.view_39 (looseW hd.view_39 [PySem.Str.ofString "insort_left", PySem.Str.ofString "bisect_left"]) mean mg mb h₀)
    (hk : cs.kind = .function) (hd : dp + d < recursionLimit) (hu : un + u < cLine)
    (hret : ∀ r tl h' tk', Fr h₀ L h' m → News h₀ L h' (news ++ tl) → Out tl r → Q r { s with heap := h', toks := tk' }) :
    wpAny (model PySem.Challenge.rw_gx0001_01.row.prog w) (ktrTop dp un gd cn cs L a ccd cl outer) (call (.ref f) vs) Q E s :=
  C _ _ _ _ _ _ _ _ _ _ _ _ _ _ _ _ _ _ _ _ _ B F X N T hk hd hu hret
end Mine

end
theorem Mine.calmLoops : True ∧ True := by
  w_top off
  first | (walk1; all_goals trivial) | exact ⟨trivial, trivial⟩

section
open PySem PySem.W PyProof.Rows
set_option Elab.async false
namespace Mine
def rstep (acc : List (Nat × UInt8)) (c : UInt8) : List (Nat × UInt8) :=
  match acc.getLast? with
  | some (n, d) => if d = c then acc.dropLast ++ [(n + 1, c)] else acc ++ [(1, c)]
  | none => [(1, c)]
def runs (l : List UInt8) : List (Nat × UInt8) := l.foldl rstep []
def rdat (p : Nat × UInt8) : Dat := .tuple [.int (p.1 : Int), .int (p.2.toNat : Int)]
theorem rstep_nil (c : UInt8) : rstep [] c = [(1, c)] := rfl
theorem rstep_eq (rs : List (Nat × UInt8)) (n : Nat) (c : UInt8) : rstep (rs ++ [(n, c)]) c = rs ++ [(n + 1, c)] := by simp [rstep]
theorem rstep_ne (rs : List (Nat × UInt8)) (n : Nat) {c d : UInt8} (h : d ≠ c) : rstep (rs ++ [(n, d)]) c = rs ++ [(n, d)] ++ [(1, c)] := by simp [rstep, h]
theorem runs_snoc (l : List UInt8) (c : UInt8) : runs (l ++ [c]) = rstep (runs l) c := by simp [runs]
theorem rstep_length (rs : List (Nat × UInt8)) (c : UInt8) : (rstep rs c).length ≤ rs.length + 1 := by
  rcases List.eq_nil_or_concat rs with rfl | ⟨rs', ⟨n, d⟩, rfl⟩
  · simp [rstep]
  · rw [List.concat_eq_append]
    by_cases h : d = c
    · subst h; rw [rstep_eq]; simp
    · rw [rstep_ne _ _ h]; simp
theorem foldl_rstep_length : ∀ (l : List UInt8) (acc : List (Nat × UInt8)), (l.foldl rstep acc).length ≤ acc.length + l.length
  | [], acc => by simp
  | c :: l, acc => by
    have h1 := foldl_rstep_length l (rstep acc c)
    have h2 := rstep_length acc c
    simp only [List.foldl_cons, List.length_cons]
    omega
theorem runs_length (l : List UInt8) : (runs l).length ≤ l.length := by
  have := foldl_rstep_length l []
  simpa [runs] using this
theorem take_snoc {b : Array UInt8} {i : Nat} {c : UInt8} (h : b[i]? = some c) : b.toList.take (i + 1) = b.toList.take i ++ [c] := by
  rw [List.take_add_one]
  have : b.toList[i]? = some c := by simpa using h
  rw [this]; rfl
theorem kqd_rdat {rs : List (Nat × UInt8)} : ∀ e ∈ rs.map rdat, kqdOk 8 e = true := by
  intro e he
  obtain ⟨x, _, rfl⟩ := List.mem_map.mp he
  rfl
theorem lt_of_allLt {d : Addr} : ∀ {l : List (Addr × Obj)}, AllLt d l → ∀ p ∈ l, p.1 < d
  | [], _, p, hp => nomatch hp
  | q :: r, h, p, hp => by
    rcases List.mem_cons.mp hp with rfl | hp
    · exact h.1
    · exact lt_of_allLt h.2 p hp

abbrev tupO (vs : List Value) (n : Nat) : Obj := { cls := .type "tuple", data := .seq vs.toArray n }

def RunsJ (fl : Addr) (news : List (Addr × Obj)) (m₀ : PySem.Str → Option Value) (b : Array UInt8) (i : Nat) (m : PySem.Str → Option Value) (nx : List (Addr × Obj)) : Prop :=
  ∃ vs nn tl, nx = (fl, W.listOf (vs : List Value).toArray nn) :: (tl ++ news) ∧ DatAll tl vs ((runs (b.toList.take i)).map rdat) ∧ (∀ p ∈ tl ++ news, p.1 ≠ fl) ∧
    (∀ z, z ≠ PySem.Str.ofString "octet" → m z = m₀ z)

theorem runs_end {h₀ h' : Heap} {L fl D : Addr} {news tl led own : List (Addr × Obj)} {m' m₀ : PySem.Str → Option Value} {b : Array UInt8} {i : Nat} {vs : List Value} {nn : Nat} {x y : Value} {n1 : Nat} {s₁ : Shared} {tk : Nat}
    (F : Fr h₀ L h' m') (T : Turned h₀ L h' led fl (W.listOf (vs ++ [Value.ref D]).toArray nn)) (hm : (D, tupO [x, y] n1) ∈ led) (hs : ∀ p ∈ tl ++ news ++ own, p ∈ led)
    (hD : fl < D) (hlt : ∀ p ∈ tl ++ news ++ own, p.1 < D) (hne : ∀ p ∈ tl ++ news, p.1 ≠ fl) (hno : ∀ p ∈ own, p.1 ≠ fl) (hoff : OwnOff own ((tl ++ news).map (·.1)))
    (rs : List (Nat × UInt8)) (n : Nat) (d : UInt8) (hr : runs (b.toList.take (i + 1)) = rs ++ [(n, d)]) (hA : DatAll tl vs (rs.map rdat)) (tx ty : Tok) (hx : x = .int (n : Int) tx) (hy : y = .int (d.toNat : Int) ty)
    (hm' : ∀ z, z ≠ PySem.Str.ofString "octet" → m' z = m₀ z) :
    InvEndG h₀ L (RunsJ fl news m₀ b (i + 1)) own s₁ { s₁ with heap := h', toks := tk } := by
  have hD' : fl ≠ D := Nat.ne_of_lt hD
  have N := T ((fl, W.listOf (vs ++ [Value.ref D]).toArray nn) :: ((D, tupO [x, y] n1) :: tl ++ news) ++ own) (by
    intro p hp
    simp only [List.cons_append, List.mem_cons, List.append_assoc] at hp
    rcases hp with rfl | rfl | hp
    · exact .inl rfl
    · exact .inr ⟨hm, hD'.symm⟩
    · refine .inr ⟨hs p (by simpa [List.append_assoc] using hp), ?_⟩
      rcases List.mem_append.mp hp with hp | hp
      · exact hne p (List.mem_append.mpr (.inl hp))
      · rcases List.mem_append.mp hp with hp | hp
        · exact hne p (List.mem_append.mpr (.inr hp))
        · exact hno p hp)
  refine InvEndG.intro F N ⟨vs ++ [Value.ref D], nn, (D, tupO [x, y] n1) :: tl, rfl, ?_, ?_, hm'⟩ ?_ ?_ ?_
  · rw [hr, List.map_append]
    refine DatAll.append (hA.mono fun p hp => List.mem_cons_of_mem _ hp) (DatAll.one ?_)
    subst hx hy
    exact DatIn.tuple (List.mem_cons_self ..) (.cons (.int _ _) (.cons (.int _ _) .nil))
  · intro p hp
    simp only [List.cons_append, List.mem_cons] at hp
    rcases hp with rfl | hp
    · exact hD'.symm
    · exact hne p hp
  · intro p hp q hq
    simp only [List.cons_append, List.map_cons, List.mem_cons] at hq
    rcases hq with rfl | rfl | hq
    · exact hno p hp
    · exact Nat.ne_of_lt (hlt p (List.mem_append.mpr (.inr hp)))
    · exact hoff p hp q hq
  · intro p hp; exact List.mem_append.mpr (.inl hp)
  · intro p hp; exact List.mem_append.mpr (.inr hp)

set_option maxRecDepth 100000 in
set_option maxHeartbeats 8000000 in
theorem runs_ct (w : World) (b : Array UInt8) (t : Tok) (hb : b.size ≤ 1000) : CT w 46 10 200 [.bytes b t] (fun tl r => ∃ fl vs nn tl', r = .ref fl ∧ tl = (fl, W.listOf (vs : List Value).toArray nn) :: tl' ∧ DatAll tl' vs ((runs b.toList).map rdat) ∧ (∀ p ∈ tl', p.1 ≠ fl)) := by
  unfold CT; k_fill
  intro mean mg mb dp un gd cn cs a ccd cl outer A₀ base h₀ L m news s Q E B F X N T hk hd hu hret
  refine wpAny_call ?_
  k_dflt cell_enter
  k_steps
  rename_i fl h1 hlt h2 F1 N1
  refine bytes_loop (RunsJ fl news _ b) (by rfl) F1 N1 ⟨[], 0, [], rfl, .nil, ?_, fun _ _ => rfl⟩ ?_ ?_
  · intro p hp; exact Nat.ne_of_lt (hlt p hp)
  · rintro i c tc m₁ nx h tk own hc hoff ⟨vs, nn, tl, rfl, hD, hne, hm⟩ F₁ N₁
    have hno : ∀ p ∈ own, p.1 ≠ fl := fun p hp => hoff p hp _ (by simp)
    have hoff' : OwnOff own ((tl ++ news).map (·.1)) := fun p hp q hq => hoff p hp q (List.mem_cons_of_mem _ hq)
    have hi : i < b.size := (Array.getElem?_eq_some_iff.mp hc).1
    have hlen : vs.length < 999999 := by
      have e1 := hD.length
      have e2 := runs_length (b.toList.take i)
      simp only [List.length_map, List.length_take, Array.length_toList] at e1 e2
      omega
    have e1 : (fun y => if y = PySem.Str.ofString "octet" then some (Value.int (c.toNat : Int) tc) else m₁ y) = fun y => if y = PySem.Str.ofString "octet" then some (Value.int (c.toNat : Int) tc) else if y = PySem.Str.ofString "found" then some (Value.ref fl) else List.lookup y [(PySem.Str.ofString "row", Value.bytes b t)] := by
      funext y
      by_cases h : y = PySem.Str.ofString "octet"
      · simp [h]
      · simp only [if_neg h]; rw [hm y h]; rfl
    rw [e1] at F₁
    clear e1 hm F1 N1
    have hr1 := runs_snoc (b.toList.take i) c
    rw [← take_snoc hc] at hr1
    generalize hrs : runs (b.toList.take i) = rs at hD hr1
    rcases List.eq_nil_or_concat rs with rfl | ⟨rs', ⟨n, d⟩, rfl⟩
    · cases hD
      rw [rstep_nil] at hr1
      have N₂ := news_sub N₁ ((fl, W.listOf ([] : List Value).toArray nn) :: (tl ++ news ++ own)) (by intro p hp; simpa using hp)
      clear N₁
      dsimp only [envOf]
      k_steps
      rename (_ < _ ∧ _) => hl
      refine append_any (by assumption) (by assumption) (vs := []) (n := nn) (by simp) (by simp) ?_
      intro h5 F5 T5
      k_steps
      refine runs_end F5 T5 (List.mem_cons_self ..) (tl := tl) ?_ hl.2.1 (lt_of_allLt hl.2.2) hne hno hoff' [] 1 c hr1 .nil _ _ rfl rfl ?_
      · intro p hp; repeat' apply List.mem_cons_of_mem
        exact hp
      · intro z hz; simp only [if_neg hz]; rfl
    · rw [List.concat_eq_append] at hD hr1
      rw [List.map_append] at hD
      have hvs : ∃ vs' a t1 t2 n1, vs = vs' ++ [Value.ref a] ∧ DatAll tl vs' (rs'.map rdat) ∧ (a, ({ cls := .type "tuple", data := .seq [Value.int (n : Int) t1, .int (d.toNat : Int) t2].toArray n1 } : Obj)) ∈ tl := by
        rcases List.eq_nil_or_concat vs with rfl | ⟨vs', v, rfl⟩
        · exact absurd hD.length (by simp)
        · rw [List.concat_eq_append] at hD
          obtain ⟨es, d', he, h1, h2⟩ := hD.snoc
          obtain ⟨hes, hdd⟩ := List.append_inj' he rfl
          subst hes
          obtain rfl : rdat (n, d) = d' := by simpa using hdd
          cases h2 with
          | tuple hm ha =>
            cases ha with
            | cons h1' h2' =>
              cases h1'
              cases h2' with
              | cons h3 h4 =>
                cases h3
                cases h4
                exact ⟨vs', _, _, _, _, List.concat_eq_append .., h1, hm⟩
      obtain ⟨vs', at', t1, t2, n1, rfl, hD', hmem⟩ := hvs
      have N₂ := news_sub N₁ ((fl, W.listOf (vs' ++ [Value.ref at']).toArray nn) :: (at', ({ cls := .type "tuple", data := .seq [Value.int (n : Int) t1, .int (d.toNat : Int) t2].toArray n1 } : Obj)) :: (tl ++ news ++ own)) (by
        intro p hp
        rcases List.mem_cons.mp hp with rfl | hp
        · simp
        · rcases List.mem_cons.mp hp with rfl | hp
          · simp [hmem]
          · simp only [List.cons_append]; exact List.mem_cons_of_mem _ hp)
      clear N₁
      have hlen' : vs'.length < 999998 := by simp at hlen; omega
      have hok : ∀ e ∈ (rs'.map rdat ++ [(n, d)].map rdat : List Dat), kqdOk 8 e = true := by
        rw [← List.map_append]; exact kqd_rdat
      dsimp only [envOf]
      k_steps
      refine ne_nil_cons (by assumption) (List.mem_cons_of_mem _ (List.mem_cons_self ..)) hD ?_ hok (by simp) (List.mem_cons_self ..) (by ke_room) ?_
      · intro p hp; simp [hp]
      k_steps
      refine item_last (by assumption) (vs := vs') (v := Value.ref at') (n := nn) (by simp) (by omega) ?_
      k_steps
      · refine item_last (by assumption) (vs := vs') (v := Value.ref at') (n := nn) (by simp) (by omega) ?_
        k_steps
        rename (_ < _ ∧ _) => hl
        rename (_ : Int) = _ => hdc
        obtain rfl : d = c := UInt8.toNat_inj.mp (by omega)
        rw [rstep_eq] at hr1
        refine set_last (by assumption) (by assumption) (vs := vs') (x := Value.ref at') (n := nn) (by simp) (by omega) ?_
        intro h5 F5 T5
        k_steps
        refine runs_end F5 T5 (List.mem_cons_self ..) (tl := tl) ?_ hl.2.1 (lt_of_allLt hl.2.2.2) hne hno hoff' _ (n + 1) d hr1 hD' _ _ (by rw [Int.natCast_succ]) rfl ?_
        · intro p hp; repeat' apply List.mem_cons_of_mem
          exact hp
        · intro z hz; simp only [if_neg hz]; rfl
      · rename (_ < _ ∧ _) => hl
        refine append_any (by assumption) (by assumption) (vs := vs' ++ [Value.ref at']) (n := nn) (by simp) (by simp; omega) ?_
        intro h5 F5 T5
        k_steps
        rename (_ : Int) ≠ _ => hdc
        rw [rstep_ne _ _ (fun e => hdc (by rw [e]))] at hr1
        refine runs_end F5 T5 (List.mem_cons_self ..) (tl := tl) ?_ hl.2.1 (lt_of_allLt hl.2.2.2) hne hno hoff' _ 1 c hr1 (by rw [List.map_append]; exact hD) _ _ rfl rfl ?_
        · intro p hp; repeat' apply List.mem_cons_of_mem
          exact hp
        · intro z hz; simp only [if_neg hz]; rfl
  · rintro m₁ nx h tk ⟨vs, nn, tl, rfl, hD, hne, hm⟩ F₁ N₁
    have e1 : m₁ = fun y => if y = PySem.Str.ofString "octet" then m₁ (PySem.Str.ofString "octet") else if y = PySem.Str.ofString "found" then some (Value.ref fl) else List.lookup y [(PySem.Str.ofString "row", Value.bytes b t)] := by
      funext y
      by_cases h : y = PySem.Str.ofString "octet"
      · simp [h]
      · simp only [if_neg h]; rw [hm y h]; rfl
    rw [e1] at F₁
    clear e1 hm F1 N1
    dsimp only [envOf]
    k_steps
    rename News h₀ L _ _ => kN
    refine hret _ ((fl, W.listOf vs.toArray nn) :: tl) _ _ (by assumption) (news_sub kN _ ?_) ⟨fl, vs, nn, tl, rfl, rfl, ?_, fun p hp => hne p (List.mem_append.mpr (.inl hp))⟩
    · intro p hp
      rcases List.mem_append.mp hp with hp | hp
      · exact List.mem_cons_of_mem _ (List.mem_append.mpr (.inr hp))
      · rcases List.mem_cons.mp hp with rfl | hp
        · exact List.mem_cons_self ..
        · exact List.mem_cons_of_mem _ (List.mem_append.mpr (.inl hp))
    · have e : b.toList.take b.size = b.toList := by rw [← Array.length_toList]; exact List.take_length
      rw [e] at hD
      exact hD
end Mine

end
theorem Mine.calmTRuns : True ∧ True := by
  w_top off
  first | (walk1; all_goals trivial) | exact ⟨trivial, trivial⟩

section
open PySem PySem.W PyProof.Rows
set_option Elab.async false
namespace Mine
open PySem.Calls PyProof.V PySem.Spec PyProof.Rows.LCg
abbrev two (elt i1 i2 : PySem.Expr) (x1 x2 : PySem.Str) (p1 p2 : Pos) (scope : Scope) (pos : Pos) : PySem.Expr :=
  .ListComp elt [⟨.Name x1 p1, i1, [], 0⟩, ⟨.Name x2 p2, i2, [], 0⟩] scope pos
theorem two_turn0 (elt i1 i2 : PySem.Expr) (x1 x2 : PySem.Str) (p1 p2 : Pos) (scope : Scope) (pos : Pos) (it acc : Value) (env : Env) :
    compTurn (two elt i1 i2 x1 x2 p1 p2 scope pos) 0 it acc env = (standAt i1.pos >>= fun _ => pyNext it >>= fun r => match r with
      | none => pure (.done .next)
      | some v => letOwnedTupleGo (.Name x1 p1) it v >>= fun _ => assign (.Name x1 p1) env v >>= fun _ =>
        (eval i2 env >>= fun x => standAt i2.pos >>= fun _ => foldedSetIterable i2 env x >>= fun x => holding [x] (pyIter x) >>= fun it2 =>
          runOwn (.compStart (two elt i1 i2 x1 x2 p1 p2 scope pos) 1 it2 acc env) env >>= fun _ =>
          again (.compLoop (two elt i1 i2 x1 x2 p1 p2 scope pos) 0 it acc env))) := by rfl
theorem two_turn1 (elt i1 i2 : PySem.Expr) (x1 x2 : PySem.Str) (p1 p2 : Pos) (scope : Scope) (pos : Pos) (it acc : Value) (env : Env) :
    compTurn (two elt i1 i2 x1 x2 p1 p2 scope pos) 1 it acc env = (standAt i2.pos >>= fun _ => pyNext it >>= fun r => match r with
      | none => pure (.done .next)
      | some v => letOwnedTupleGo (.Name x2 p2) it v >>= fun _ => assign (.Name x2 p2) env v >>= fun _ =>
        (eval elt env >>= fun x => call (.builtin "list.append") [acc, x] >>= fun _ => pure ()) >>= fun _ =>
          again (.compLoop (two elt i1 i2 x1 x2 p1 p2 scope pos) 1 it acc env)) := by rfl

theorem ints_snoc {vs : List Value} {ns : List Int} (h : IntsAre vs ns) (n : Int) (t : Tok) : IntsAre (vs ++ [.int n t]) (ns ++ [n]) := by
  induction h with
  | nil => exact .cons n t .nil
  | cons k u _ ih => exact .cons k u ih
theorem ints_app {vs us : List Value} {ns ks : List Int} (h : IntsAre vs ns) (g : IntsAre us ks) : IntsAre (vs ++ us) (ns ++ ks) := by
  induction h with
  | nil => exact g
  | cons k u _ ih => exact .cons k u ih
section
variable {prog : Program} {w : World} {A : Around} {E : Value → Shared → Prop} {R : Result → Shared → Prop} {s : Shared} {env : Env}

theorem two_inner {i1 i2 : PySem.Expr} {x1 x2 : PySem.Str} {p1 p2 pe : Pos} {scope : Scope} {cl : List (PySem.Str × Addr)} {pos : Pos} {I2 D C : Addr} {fp : List Addr} {ms : List Int} {St : Nat → Heap → Prop} {m : PySem.Str → Option Value} {ys : List Value}
    (W : Walks prog w A I2 fp [I2] ms.length (fun j v => ∃ t, v = .int (ms.getD j 0) t) St)
    (hkind : scope.kind = .function) (hx : scope.names.lookup x2 = some .local) (hdbg : (x2 == PySem.Str.ofString "__debug__") = false)
    (hDC : D ≠ C) (hDf : D ∉ fp) (hCf : C ∉ fp) (hst : St 0 s.heap) (hD : s.heap.get? D = some (lst ys)) (hn : s.heap.Ns C m) (hz : ys.length + ms.length ≤ sizeLine)
    (hR : ∀ h' tk m' zs, IntsAre zs ms → h'.get? D = some (lst (ys ++ zs)) → h'.Ns C m' → (∀ b o, b ≠ C → b ≠ D → b ≠ I2 → s.heap.get? b = some o → h'.get? b = some o) → R (.ok .next) { s with heap := h', toks := tk }) :
    codeAny (model prog w) A (.compLoop (two (.Name x2 pe) i1 i2 x1 x2 p1 p2 scope pos) 1 (.ref I2) (.ref D) (compEnvC scope cl C env)) R s := by
  have hI2 : I2 ∈ fp := W.sub I2 (List.mem_singleton.mpr rfl)
  have hDI : D ≠ I2 := fun e => hDf (e ▸ hI2)
  have hCI : C ≠ I2 := fun e => hCf (e ▸ hI2)
  refine codeAny_loop rfl (fun k s' => ∃ h' tk j m' zs, s' = { s with heap := h', toks := tk } ∧ j ≤ ms.length ∧ k = ms.length + 1 - j ∧ St j h' ∧ h'.get? D = some (lst (ys ++ zs)) ∧ IntsAre zs (ms.take j) ∧ h'.Ns C m' ∧ (∀ b o, b ≠ C → b ≠ D → b ≠ I2 → s.heap.get? b = some o → h'.get? b = some o)) ?_ (ms.length + 1)
    ⟨s.heap, s.toks, 0, m, [], rfl, Nat.zero_le _, rfl, hst, by simpa using hD, .nil, hn, fun _ _ _ _ _ e => e⟩
  rintro k s' ⟨h', tk, j, m', zs, rfl, hj, rfl, hst', hD', hI, hn', hk⟩
  show wpAny _ A ((compTurn (two (.Name x2 pe) i1 i2 x1 x2 p1 p2 scope pos) 1 (.ref I2) (.ref D) (compEnvC scope cl C env)).onRaise (fun x => do noteFrame x (compEnvC scope cl C env); theTreesLotGoes x)) _ _ _
  refine wpAny_noted ?_
  rw [two_turn1]
  refine wpAny_bind (wpAny_standAt (wpAny_bind ?_))
  by_cases hlt : j < ms.length
  · refine W.item j _ _ _ hlt hst' fun v h₁ tk₁ hP hst₁ hk₁ => ?_
    obtain ⟨t, rfl⟩ := hP
    refine wpAny_bind (wpAny_of_eq rfl ?_)
    refine wpAny_bind (wpAny_assign_Name (wpAny_storeName_local (lookup_relabel_local hx) (hn'.at' fun o e => hk₁ _ o (by simpa using hCI) e) (fun h₂ hn₂ hs₂ => ?_) (by simp [compEnvC, relabel, hkind])))
    refine wpAny_bind (wpAny_bind (ldVarK hn₂ (v := .int (ms.getD j 0) t) (by simp) ?_ (by simp [compEnvC, relabel, hkind]) (lookup_relabel_local hx) hdbg))
    have hD₂ : h₂.get? D = some (lst (ys ++ zs)) := hs₂.extBut _ _ hDC (hk₁ _ _ (by simpa using hDI) hD')
    have hzl : zs.length = j := by rw [hI.length, List.length_take]; omega
    refine wpAny_bind (append_at hD₂ (fun h₃ hs₃ hD₃ => ?_) ?_)
    · refine wpAny_pure (wpAny_pure ⟨rfl, ms.length + 1 - (j + 1), by omega, h₃, _, j + 1, _, zs ++ [.int (ms.getD j 0) t], rfl, hlt, rfl, ?_, ?_, ?_, hn₂.sameBut hs₃ hDC.symm, ?_⟩)
      · refine W.frame _ _ _ hst₁ fun b hb o e => hs₃.extBut b o (fun q => hDf (q ▸ hb)) (hs₂.extBut b o (fun q => hCf (by have q' : b = C := q; rw [← q']; exact hb)) e)
      · rw [hD₃, ← List.append_assoc]; exact congrArg some (lst_snoc (ys ++ zs) _)
      · have : ms.take (j + 1) = ms.take j ++ [ms.getD j 0] := by
          rw [List.take_add_one, List.getElem?_eq_getElem hlt, List.getD_eq_getElem?_getD, List.getElem?_eq_getElem hlt]; rfl
        rw [this]; exact ints_snoc hI _ _
      · intro b o h1 h2 h3 e
        exact hs₃.extBut b o h2 (hs₂.extBut b o h1 (hk₁ b o (by simpa using h3) (hk b o h1 h2 h3 e)))
    · show (ys ++ zs).toArray.size ≤ sizeLine
      rw [List.size_toArray, List.length_append, hzl]; omega
  · obtain rfl : j = ms.length := by omega
    refine W.done _ _ _ hst' fun h₁ tk₁ hk₁ => ?_
    rw [List.take_length] at hI
    exact wpAny_pure (hR h₁ tk₁ m' zs hI (hk₁ _ _ (by simpa using hDI) hD') (hn'.at' fun o e => hk₁ _ o (by simpa using hCI) e) fun b o h1 h2 h3 e => hk₁ b o (by simpa using h3) (hk b o h1 h2 h3 e))

def ItInts (prog : Program) (w : World) (A : Around) (xv : Value) (ms : List Int) (h : Heap) (base : Nat) : Prop :=
  ∀ (s : Shared) (Q E : Value → Shared → Prop), (∀ b o, h.get? b = some o → s.heap.get? b = some o) →
    (∀ I2 fp h' St, s.heap.get? I2 = none → (∀ b o, s.heap.get? b = some o → h'.get? b = some o) → Walks prog w A I2 fp [I2] ms.length (fun j v => ∃ t, v = .int (ms.getD j 0) t) St → St 0 h' → (∀ b ∈ fp, b = I2 ∨ b < base) →
      Q (.ref I2) { s with heap := h' }) → wpAny (model prog w) A (pyIter xv) Q E s
noncomputable def flatMs (ms : Nat → List Int) : Nat → List Int
  | 0 => []
  | n + 1 => flatMs ms n ++ ms n
theorem flatMs_le (ms : Nat → List Int) {i n : Nat} (h : i < n) : (flatMs ms i).length + (ms i).length ≤ (flatMs ms n).length := by
  induction n with
  | zero => omega
  | succ n ih =>
    rcases Nat.lt_succ_iff_lt_or_eq.mp h with h | rfl
    · have := ih h
      simp only [flatMs, List.length_append]; omega
    · simp [flatMs]

theorem two_start {i1 i2 : PySem.Expr} {x1 x2 : PySem.Str} {p1 p2 pe : Pos} {scope : Scope} {pos : Pos} {it acc : Value}
    (h0 : codeAny (model prog w) A (.compLoop (two (.Name x2 pe) i1 i2 x1 x2 p1 p2 scope pos) 1 it acc env) R s)
    (h : wpAny (model prog w) A (pyIter it) (fun it' s' => codeAny (model prog w) A (.compLoop (two (.Name x2 pe) i1 i2 x1 x2 p1 p2 scope pos) 1 it' acc env) R s')
      (notedBy (model prog w) A env fun x s' => R (.error x) s') s) :
    codeAny (model prog w) A (.compStart (two (.Name x2 pe) i1 i2 x1 x2 p1 p2 scope pos) 1 it acc env) R s := by
  refine codeAny_of_tree ?_
  show wpAny _ _ ((compStart (two (.Name x2 pe) i1 i2 x1 x2 p1 p2 scope pos) 1 it acc env).onRaise (fun x => do noteFrame x env; standAt theWindowsPlace)) _ _ s
  refine wpAny_notedAt ?_
  unfold compStart
  show wpAny _ _ (ask >>= _) _ _ s
  refine wpAny_bind (wpAny_askSetting (wpAny_ite ?_))
  split
  · first
      | exact wpAny_bind (wpAny_pure (wpAny_pure (And.intro rfl h0)))
      | exact wpAny_pure (And.intro rfl h0)
  · first
      | exact wpAny_bind (wpAny_rule (wpAny_bind (wpAny_standAt (wpAny_bind (wpAny_mono h (fun it' s' h' => wpAny_pure (And.intro rfl h')) fun _ _ x => x)))))
      | (refine wpAny_bind (wpAny_rule ?_); show wpAny _ _ (standAt i2.pos >>= _) _ _ s; exact wpAny_bind (wpAny_standAt (wpAny_bind (wpAny_mono h (fun it' s' h' => wpAny_pure (And.intro rfl h')) fun _ _ x => x))))

theorem two_block {i1 i2 : PySem.Expr} {x1 x2 : PySem.Str} {p1 p2 pe : Pos} {scope : Scope} {cl : List (PySem.Str × Addr)} {pos : Pos} {s₂ : Shared} {I : Addr} {fp : List Addr} {n : Nat} {P : Nat → Value → Prop} {St : Nat → Heap → Prop} {ms : Nat → List Int} {RR : Value → Addr → Result → Shared → Prop}
    (W : Walks prog w A I fp [I] n P St)
    (hcell : ∀ y ∈ scope.names, y.2 ≠ .cell) (hkind : scope.kind = .function) (hx1 : scope.names.lookup x1 = some .local) (hx : scope.names.lookup x2 = some .local) (hdbg : (x2 == PySem.Str.ofString "__debug__") = false)
    (hz : (flatMs ms n).length ≤ sizeLine) (hst : St 0 s₂.heap) (hfp : ∀ b ∈ fp, b < s₂.heap.objs.size) (hs2 : ∀ env' x, foldedSetIterable i2 env' x = pure x)
    (inner : ∀ C i v s₃ m₃ (E' : Value → Shared → Prop), i < n → P i v → s₃.heap.Ns C m₃ → m₃ x1 = some v → (∃ h tk, s₃ = { s₂ with heap := h, toks := tk }) → (∀ b o, b ∉ [I] → s₂.heap.get? b = some o → s₃.heap.get? b = some o) →
      wpAny (model prog w) A (eval i2 (compEnvC scope cl C env)) (fun xv s₄ => Keeps s₃ s₄ ∧ ItInts prog w A xv (ms i) s₄.heap s₂.heap.objs.size) E' s₃)
    (hRR : ∀ D C h' tk m' ys, s₂.heap.objs.size ≤ D → s₂.heap.get? D = none → s₂.heap.get? C = none → D ≠ C → h'.Ns C m' → h'.get? D = some (lst ys) → IntsAre ys (flatMs ms n) → (∀ b o, b ∉ [I] → s₂.heap.get? b = some o → h'.get? b = some o) →
      RR (.ref D) C (.ok .next) { s₂ with heap := h', toks := tk }) :
    wpAny (model prog w) A (newList []) (fun acc s₃ => wpAny (model prog w) A (newFunctionEnv scope env.globals cl [] env.qual none .none (some env)) (fun cenv s₄ =>
      codeAny (model prog w) A (.compStart (two (.Name x2 pe) i1 i2 x1 x2 p1 p2 scope pos) 0 (.ref I) acc { cenv with scope := relabel scope env }) (RR acc cenv.locals) s₄) E s₃) E s₂ := by
  refine wpAny_newObj_type (wpAny_newFunctionEnv hcell (by intro y hy; simp at hy) (fun h₁ hns₁ hsb₁ => ?_) hkind)
  dsimp only at hns₁ hsb₁ ⊢
  generalize hH2 : s₂.heap.push { cls := .type "list", dict := none, data := .seq ([] : List Value).toArray } = H2 at hns₁ hsb₁ ⊢
  have hC : H2.objs.size = s₂.heap.objs.size + 1 := by rw [← hH2, Heap.size_push]
  have hDC : s₂.heap.objs.size ≠ H2.objs.size := by rw [hC]; exact Nat.ne_of_lt (Nat.lt_succ_self _)
  have below : ∀ b, b < s₂.heap.objs.size → b ≠ H2.objs.size ∧ b ≠ s₂.heap.objs.size := fun b hb => ⟨by rw [hC]; exact Nat.ne_of_lt (Nat.lt_succ_of_lt hb), Nat.ne_of_lt hb⟩
  have hDf : s₂.heap.objs.size ∉ fp := fun hm => Nat.lt_irrefl _ (hfp _ hm)
  have hCf : H2.objs.size ∉ fp := fun hm => by have := hfp _ hm; rw [hC] at this; exact Nat.lt_irrefl _ (Nat.lt_of_succ_lt this)
  have hIf : I ∈ fp := W.sub I (List.mem_singleton.mpr rfl)
  have hIlt : I < s₂.heap.objs.size := hfp I hIf
  have hDI : s₂.heap.objs.size ≠ I := Ne.symm (below I hIlt).2
  have hCI : H2.objs.size ≠ I := Ne.symm (below I hIlt).1
  have old : ∀ b o, s₂.heap.get? b = some o → h₁.get? b = some o := fun b o e => hsb₁.extBut b o (below b (Heap.lt_size e)).1 (Heap.get?_push_of_some _ (hH2 ▸ Heap.get?_push_of_some _ e))
  have hacc : h₁.get? s₂.heap.objs.size = some (lst []) := hsb₁.extBut _ _ hDC (Heap.get?_push_of_some _ (hH2 ▸ Heap.get?_push_size _ rfl))
  have hst₁ : St 0 h₁ := W.frame _ _ _ hst fun b _ o e => old b o e
  have fresh : ∀ a, s₂.heap.objs.size ≤ a → s₂.heap.get? a = none := fun a ha => by
    cases e : s₂.heap.get? a with
    | none => rfl
    | some o' => exact absurd (Heap.lt_size e) (Nat.not_lt.mpr ha)
  have hD₀ := fresh _ (Nat.le_refl _)
  have hC₀ := fresh H2.objs.size (by rw [hC]; exact Nat.le_succ _)
  have loop : ∀ s₃ : Shared, s₃ = { s₂ with heap := h₁, toks := s₂.toks + ([] : List (PySem.Str × Value)).length } →
      codeAny (model prog w) A (.compLoop (two (.Name x2 pe) i1 i2 x1 x2 p1 p2 scope pos) 0 (.ref I) (.ref s₂.heap.objs.size) (compEnvC scope cl H2.objs.size env))
        (RR (.ref s₂.heap.objs.size) H2.objs.size) s₃ := by
    rintro s₃ rfl
    refine codeAny_loop rfl (fun k s' => ∃ h' tk i m' ys, s' = { s₂ with heap := h', toks := tk } ∧ i ≤ n ∧ k = n + 1 - i ∧ St i h' ∧ h'.get? s₂.heap.objs.size = some (lst ys) ∧ IntsAre ys (flatMs ms i) ∧ h'.Ns H2.objs.size m' ∧ (∀ b o, b ∉ [I] → s₂.heap.get? b = some o → h'.get? b = some o)) ?_ (n + 1)
      ⟨h₁, _, 0, _, [], rfl, Nat.zero_le _, rfl, hst₁, hacc, .nil, hns₁, fun b o _ e => old b o e⟩
    rintro k s' ⟨h', tk, i, m', ys, rfl, hi, rfl, hst', hD', hI, hn', hk⟩
    show wpAny _ A ((compTurn (two (.Name x2 pe) i1 i2 x1 x2 p1 p2 scope pos) 0 (.ref I) (.ref s₂.heap.objs.size) (compEnvC scope cl H2.objs.size env)).onRaise (fun x => do noteFrame x (compEnvC scope cl H2.objs.size env); theTreesLotGoes x)) _ _ _
    refine wpAny_noted ?_
    rw [two_turn0]
    refine wpAny_bind (wpAny_standAt (wpAny_bind ?_))
    by_cases hlt : i < n
    · refine W.item i _ _ _ hlt hst' fun v h₂ tk₂ hP hst₂ hk₂ => ?_
      refine wpAny_bind (wpAny_of_eq rfl ?_)
      refine wpAny_bind (wpAny_assign_Name (wpAny_storeName_local (lookup_relabel_local hx1) (hn'.at' fun o e => hk₂ _ o (by simpa using hCI) e) (fun h₃ hn₃ hs₃ => ?_) (by simp [compEnvC, relabel, hkind])))
      have up₃ : ∀ b o, b ∉ [I] → s₂.heap.get? b = some o → h₃.get? b = some o := fun b o hb e => hs₃.extBut b o (fun q => by rw [show b = H2.objs.size from q, hC₀] at e; cases e) (hk₂ b o hb (hk b o hb e))
      have hst₃ : St (i + 1) h₃ := W.frame _ _ _ hst₂ fun b hb o e => hs₃.extBut b o (fun q => hCf (by rw [← (show b = H2.objs.size from q)]; exact hb)) e
      have hD₃ : h₃.get? s₂.heap.objs.size = some (lst ys) := hs₃.extBut _ _ hDC (hk₂ _ _ (by simpa using hDI) hD')
      refine wpAny_bind (wpAny_mono (inner H2.objs.size i v _ _ _ hlt hP hn₃ (by simp) ⟨_, _, rfl⟩ up₃) (fun xv s₄ h₄ => ?_) fun _ _ e => e)
      obtain ⟨⟨h₄, tk₄, rfl, hk₄⟩, hit⟩ := h₄
      refine wpAny_bind (wpAny_standAt (wpAny_bind (wpAny_of_eq (hs2 _ _) (wpAny_bind (wpAny_holding (hit _ _ _ (fun _ _ e => e) fun I2 fp2 h₅ St2 hI2 hk₅ W2 hst2 hfp2 => ?_))))))
      replace hI2 : h₄.get? I2 = none := hI2
      replace hk₄ : ∀ b o, h₃.get? b = some o → h₄.get? b = some o := hk₄
      replace hk₅ : ∀ b o, h₄.get? b = some o → h₅.get? b = some o := hk₅
      replace hn₃ : h₃.Ns H2.objs.size _ := hn₃
      have hD₅ := hk₅ _ _ (hk₄ _ _ hD₃)
      have hn₅ := (hn₃.keeps hk₄).keeps hk₅
      have hI2D : I2 ≠ s₂.heap.objs.size := fun e => by rw [e] at hI2; have := hk₄ _ _ hD₃; rw [hI2] at this; cases this
      have hI2C : I2 ≠ H2.objs.size := fun e => by
        obtain ⟨o, ho, _⟩ := ns_obj (hn₃.keeps hk₄)
        rw [e] at hI2
        rw [hI2] at ho; cases ho
      have hlen := flatMs_le ms hlt
      refine wpAny_bind (wpAny_runOwn ?_)
      have fin : ∀ h₆ tk₆ m₆ zs, IntsAre zs (ms i) → h₆.get? s₂.heap.objs.size = some (lst (ys ++ zs)) → h₆.Ns H2.objs.size m₆ → (∀ b o, b ≠ H2.objs.size → b ≠ s₂.heap.objs.size → b ≠ I2 → h₅.get? b = some o → h₆.get? b = some o) →
          ∃ h' tk i' m' ys', ({ s₂ with heap := h₆, toks := tk₆ } : Shared) = { s₂ with heap := h', toks := tk } ∧ i' ≤ n ∧ n + 1 - (i + 1) = n + 1 - i' ∧ St i' h' ∧ h'.get? s₂.heap.objs.size = some (lst ys') ∧ IntsAre ys' (flatMs ms i') ∧ h'.Ns H2.objs.size m' ∧ (∀ b o, b ∉ [I] → s₂.heap.get? b = some o → h'.get? b = some o) := by
        intro h₆ tk₆ m₆ zs hzs hD₆ hn₆ hk₆
        refine ⟨h₆, tk₆, i + 1, m₆, ys ++ zs, rfl, hlt, rfl, ?_, hD₆, ints_app hI hzs, hn₆, ?_⟩
        · refine W.frame _ _ _ hst₃ fun b hb o e => hk₆ b o (fun q => hCf (q ▸ hb)) (fun q => hDf (q ▸ hb)) (fun q => ?_) (hk₅ b o (hk₄ b o e))
          have := hk₄ b o e
          rw [q, hI2] at this; cases this
        · intro b o hb e
          have e3 := hk₄ b o (up₃ b o hb e)
          refine hk₆ b o (fun q => by rw [q, hC₀] at e; cases e) (fun q => by rw [q, hD₀] at e; cases e) (fun q => ?_) (hk₅ b o e3)
          rw [q, hI2] at e3; cases e3
      have loop2 : codeAny (model prog w) A (.compLoop (two (.Name x2 pe) i1 i2 x1 x2 p1 p2 scope pos) 1 (.ref I2) (.ref s₂.heap.objs.size) (compEnvC scope cl H2.objs.size env))
          (fun r s' => match r with
            | .ok f => wpAny (model prog w) A (again (.compLoop (two (.Name x2 pe) i1 i2 x1 x2 p1 p2 scope pos) 0 (.ref I) (.ref s₂.heap.objs.size) (compEnvC scope cl H2.objs.size env)))
                (fun fin s' => match fin with | .done f => RR (.ref s₂.heap.objs.size) H2.objs.size (.ok f) s' | .again c' => c' = .compLoop (two (.Name x2 pe) i1 i2 x1 x2 p1 p2 scope pos) 0 (.ref I) (.ref s₂.heap.objs.size) (compEnvC scope cl H2.objs.size env) ∧ ∃ m, m < n + 1 - i ∧ ∃ h' tk i m' ys, s' = { s₂ with heap := h', toks := tk } ∧ i ≤ n ∧ m = n + 1 - i ∧ St i h' ∧ h'.get? s₂.heap.objs.size = some (lst ys) ∧ IntsAre ys (flatMs ms i) ∧ h'.Ns H2.objs.size m' ∧ (∀ b o, b ∉ [I] → s₂.heap.get? b = some o → h'.get? b = some o))
                (notedBy (model prog w) A (compEnvC scope cl H2.objs.size env) fun e s' => RR (.ref s₂.heap.objs.size) H2.objs.size (.error e) s') s'
            | .error e => cameBackBy (model prog w) A (compEnvC scope cl H2.objs.size env) (notedBy (model prog w) A (compEnvC scope cl H2.objs.size env) fun e s' => RR (.ref s₂.heap.objs.size) H2.objs.size (.error e) s') e s')
          { s₂ with heap := h₅, toks := tk₄ } := by
        refine two_inner W2 hkind hx hdbg hDC ?_ ?_ hst2 hD₅ hn₅ ?_ fun h₆ tk₆ m₆ zs hzs hD₆ hn₆ hk₆ => wpAny_pure ⟨rfl, n + 1 - (i + 1), by omega, fin h₆ tk₆ m₆ zs hzs hD₆ hn₆ hk₆⟩
        · intro hm
          rcases hfp2 _ hm with e | e
          · exact hI2D e.symm
          · exact Nat.lt_irrefl _ e
        · intro hm
          rcases hfp2 _ hm with e | e
          · exact hI2C e.symm
          · rw [hC] at e; exact absurd e (Nat.not_lt.mpr (Nat.le_succ _))
        · have := hI.length
          omega
      exact two_start loop2 (W2.self 0 _ _ _ hst2 loop2)
    · obtain rfl : i = n := Nat.le_antisymm hi (Nat.not_lt.mp hlt)
      refine W.done _ _ _ hst' fun h₂ tk₂ hk₂ => ?_
      exact wpAny_pure (hRR _ _ h₂ tk₂ m' ys (Nat.le_refl _) hD₀ hC₀ hDC (hn'.at' fun o e => hk₂ _ o (by simpa using hCI) e) (hk₂ _ _ (by simpa using hDI) hD') hI fun b o hb e => hk₂ b o hb (hk b o hb e))
  exact codeAny_compStart_list (loop _ rfl) (W.self 0 _ _ _ hst₁ (loop _ rfl))

theorem it_tuple {T : Addr} {items : Array Value} {ms : List Int} {h : Heap} {base : Nat} (hh : A.handled = none) (hT : h.IsTuple T items) (hi : IntsAre items.toList ms) (hlt : T < base) : ItInts prog w A (.ref T) ms h base := by
  intro s Q E hk hQ
  have hTs : s.heap.IsTuple T items := hT.at fun o e => hk _ _ e
  have hlt' : T < s.heap.objs.size := by obtain ⟨_, e, _⟩ := hTs; exact Heap.lt_size e
  have hne : T ≠ s.heap.objs.size := Nat.ne_of_lt hlt'
  refine wpAny_pyIter_tuple hTs ?_
  have W := Walks.tuple (prog := prog) (w := w) hh s.heap.objs.size T hne items
  have hlen : items.size = ms.length := by rw [← Array.length_toList]; exact hi.length
  rw [hlen] at W
  refine hQ s.heap.objs.size _ _ _ ?_ (fun b o e => Heap.get?_push_of_some _ e) { sub := W.sub, frame := W.frame, done := W.done, self := W.self, item := fun i s Q E hi' st hQ' => W.item i s Q E hi' st fun v h' tk hP => hQ' v h' tk ?_ } ⟨⟨_, Heap.get?_push_size _ rfl, rfl, rfl⟩, hTs.at fun o e => Heap.get?_push_of_some _ e⟩ ?_
  · cases e : s.heap.get? s.heap.objs.size with
    | none => rfl
    | some o => exact absurd (Heap.lt_size e) (Nat.lt_irrefl _)
  · have hi'' : ms[i]? = some (ms.getD i 0) := by rw [List.getD_eq_getElem?_getD, List.getElem?_eq_getElem hi']; rfl
    obtain ⟨t, hx⟩ := hi.get i _ hi''
    refine ⟨t, ?_⟩
    have hP' : items.toList[i]? = some v := by simpa using hP
    rw [hx] at hP'
    exact (Option.some.inj hP').symm
  · intro b hb
    rcases List.mem_cons.mp hb with rfl | hb
    · exact .inl rfl
    · rw [List.mem_singleton.mp hb]; exact .inr hlt
theorem it_bytes {b : Array UInt8} {t : Tok} {h : Heap} {base : Nat} (hh : A.handled = none) : ItInts prog w A (.bytes b t) (KBw.bInts b) h base := by
  intro s Q E hk hQ
  refine KBw.pyIter_bytes ?_
  have W := KBw.walks (prog := prog) (w := w) hh s.heap.objs.size b t
  rw [← KBw.ints_length] at W
  refine hQ s.heap.objs.size _ _ _ ?_ (fun b o e => Heap.get?_push_of_some _ e) { sub := W.sub, frame := W.frame, done := W.done, self := W.self, item := fun i s Q E hi' st hQ' => W.item i s Q E hi' st fun v h' tk hP => hQ' v h' tk ?_ } ⟨_, Heap.get?_push_size _ rfl, rfl, rfl⟩ ?_
  · cases e : s.heap.get? s.heap.objs.size with
    | none => rfl
    | some o => exact absurd (Heap.lt_size e) (Nat.lt_irrefl _)
  · obtain ⟨c, u, hc, rfl⟩ := hP
    refine ⟨u, ?_⟩
    rw [List.getD_eq_getElem?_getD, KBw.ints_get hc]; rfl
  · intro b hb
    exact .inl (List.mem_singleton.mp hb)

def TwoInner (prog : Program) (w : World) (A : Around) (env : Env) (scope : Scope) (cl : List (PySem.Str × Addr)) (i2 : PySem.Expr) (x1 : PySem.Str) (P : Nat → Value → Prop) (ms : Nat → List Int) (n : Nat) (s₁ : Shared) : Prop :=
  ∀ C i v s₃ m₃ base (E' : Value → Shared → Prop), i < n → P i v → s₁.heap.objs.size ≤ base → s₃.heap.Ns C m₃ → m₃ x1 = some v → (∃ h tk, s₃ = { s₁ with heap := h, toks := tk }) → (∀ b o, s₁.heap.get? b = some o → s₃.heap.get? b = some o) →
      wpAny (model prog w) A (eval i2 (compEnvC scope cl C env)) (fun xv s₄ => Keeps s₃ s₄ ∧ ItInts prog w A xv (ms i) s₄.heap base) E' s₃

def TwoFin (h₀ : Heap) (L : Addr) (m : PySem.Str → Option Value) (news : List (Addr × Obj)) (ns : List Int) (s₁ : Shared) (Q : Value → Shared → Prop) : Prop :=
  ∀ D h' tk ys, Fr h₀ L h' m → News h₀ L h' ((D, lst ys) :: news) → (∀ p ∈ news, p.1 < D) → IntsAre ys ns → Q (.ref D) { s₁ with heap := h', toks := tk }

section
variable {h₀ : Heap} {L : Addr} {m : PySem.Str → Option Value}
theorem two_any {i1 i2 : PySem.Expr} {x1 x2 : PySem.Str} {p1 p2 pe : Pos} {scope : Scope} {cl : List (PySem.Str × Addr)} {pos : Pos} {Q : Value → Shared → Prop} (F₀ : Fr h₀ L s.heap m)
    (hclos : closureFor scope env = pure cl) (hcell : ∀ y ∈ scope.names, y.2 ≠ .cell) (hkind : scope.kind = .function)
    (hnames : ∀ y ∈ scope.names, y.2 = .local → scope.names.lookup y.1 = some .local) (hx1 : scope.names.lookup x1 = some .local) (hx : scope.names.lookup x2 = some .local) (hdbg : (x2 == PySem.Str.ofString "__debug__") = false)
    (hs1 : ∀ x, foldedSetIterable i1 env x = pure x) (hs2 : ∀ env' x, foldedSetIterable i2 env' x = pure x)
    (h : wpAny (model prog w) A (eval i1 env) (fun xv s₁ => ∃ news ms n, Fr h₀ L s₁.heap m ∧ News h₀ L s₁.heap news ∧ (flatMs ms n).length ≤ sizeLine ∧ TwoFin h₀ L m news (flatMs ms n) s₁ Q ∧
      ∀ (Q' : Value → Shared → Prop), (∀ fp P St h₂, (∀ b o, s₁.heap.get? b = some o → h₂.get? b = some o) → Walks prog w A s₁.heap.objs.size fp [s₁.heap.objs.size] n P St → St 0 h₂ → (∀ b ∈ fp, b < h₂.objs.size) → s₁.heap.objs.size < h₂.objs.size →
        TwoInner prog w A env scope cl i2 x1 P ms n s₁ → Q' (.ref s₁.heap.objs.size) { s₁ with heap := h₂ }) → wpAny (model prog w) A (pyIter xv) Q' E s₁) E s) :
    wpAny (model prog w) A (eval (two (.Name x2 pe) i1 i2 x1 x2 p1 p2 scope pos) env) Q E s := by
  show wpAny _ _ (eval (.ListComp _ _ _ _) _) _ _ _
  rw [eval_ListComp]
  refine wpAny_comprehension_free (use := none) rfl hs1 hclos hkind hnames (wpAny_mono h (fun xv s₁ h₁ => ?_) fun _ _ e => e)
  obtain ⟨news, ms, n, F, N, hz, fin, it⟩ := h₁
  refine it _ fun fp P St h₂ hk W hst hfp hsz inner => ?_
  have freshI : s₁.heap.get? s₁.heap.objs.size = none := by
    cases e : s₁.heap.get? s₁.heap.objs.size with
    | none => rfl
    | some o => exact absurd (Heap.lt_size e) (Nat.lt_irrefl _)
  have offI : ∀ b o, s₁.heap.get? b = some o → b ∉ [s₁.heap.objs.size] := fun b o e hb => by rw [List.mem_singleton.mp hb, freshI] at e; cases e
  refine two_block W hcell hkind hx1 hx hdbg hz hst hfp hs2 ?_ ?_
  · rintro C i v s₃ m₃ E' hi hP hn hm ⟨h₃, tk₃, rfl⟩ hk₃
    exact inner C i v _ m₃ _ E' hi hP (Nat.le_of_lt hsz) hn hm ⟨h₃, tk₃, rfl⟩ fun b o e => hk₃ b o (offI b o e) (hk b o e)
  · intro D C h' tk m' ys hDge hD hC hDC hn hl hI hk'
    refine ⟨m', hn, fun h'' hs'' => ?_⟩
    have hD1 : s₁.heap.get? D = none := by
      cases e : s₁.heap.get? D with
      | none => rfl
      | some o => rw [hk D o e] at hD; cases hD
    have hC1 : s₁.heap.get? C = none := by
      cases e : s₁.heap.get? C with
      | none => rfl
      | some o => rw [hk C o e] at hC; cases hC
    have keep : ∀ b o, s₁.heap.get? b = some o → h''.get? b = some o := fun b o e => hs''.extBut b o (fun q => by rw [show b = C from q, hC1] at e; cases e) (hk' b o (offI b o e) (hk b o e))
    have hDL : D ≠ L := fun e => by obtain ⟨o, ho, _⟩ := ns_obj F.ns; rw [← e, hD1] at ho; cases ho
    have hD0 : h₀.get? D = none := by
      cases e : h₀.get? D with
      | none => rfl
      | some o => rw [F.keep D o e] at hD1; cases hD1
    refine fin D h'' tk ys (F.keeps keep) ?_ ?_ hI
    · intro p hp
      rcases List.mem_cons.mp hp with rfl | hp
      · exact ⟨hs''.extBut _ _ hDC hl, hDL, hD0⟩
      · exact ⟨keep _ _ (N p hp).1, (N p hp).2⟩
    · intro p hp
      exact Nat.lt_of_lt_of_le (Nat.lt_trans (Heap.lt_size (N p hp).1) hsz) hDge

theorem list_turns {news : List (Addr × Obj)} {i2 : PySem.Expr} {x1 : PySem.Str} {scope : Scope} {cl : List (PySem.Str × Addr)} {ms : Nat → List Int} {l : Addr} {vs : List Value} {nn : Nat} {s₁ : Shared}
    (hh : A.handled = none) (N : News h₀ L s₁.heap news) (hm : (l, W.listOf vs.toArray nn) ∈ news) (inner : TwoInner prog w A env scope cl i2 x1 (fun i v => vs[i]? = some v) ms vs.length s₁) :
    ∀ (Q' : Value → Shared → Prop), (∀ fp P St h₂, (∀ b o, s₁.heap.get? b = some o → h₂.get? b = some o) → Walks prog w A s₁.heap.objs.size fp [s₁.heap.objs.size] vs.length P St → St 0 h₂ → (∀ b ∈ fp, b < h₂.objs.size) → s₁.heap.objs.size < h₂.objs.size →
        TwoInner prog w A env scope cl i2 x1 P ms vs.length s₁ → Q' (.ref s₁.heap.objs.size) { s₁ with heap := h₂ }) → wpAny (model prog w) A (pyIter (.ref l)) Q' E s₁ := by
  intro Q' hQ
  have hl : s₁.heap.IsList l vs.toArray := ⟨_, (N _ hm).1, rfl, nn, rfl⟩
  have hlt : l < s₁.heap.objs.size := Heap.lt_size (N _ hm).1
  have W := Walks.list (prog := prog) (w := w) hh s₁.heap.objs.size l (Nat.ne_of_lt hlt) vs.toArray
  have e : vs.toArray.size = vs.length := by simp
  rw [e] at W
  refine wpAny_pyIter_list hl (hQ _ _ _ _ (fun b o e => Heap.get?_push_of_some _ e) W ⟨⟨_, Heap.get?_push_size _ rfl, rfl, rfl⟩, hl.push _⟩ ?_ (by rw [Heap.size_push]; exact Nat.lt_succ_self _) ?_)
  · intro b hb
    rw [Heap.size_push]
    rcases List.mem_cons.mp hb with rfl | hb
    · exact Nat.lt_succ_self _
    · rw [List.mem_singleton.mp hb]; exact Nat.lt_succ_of_lt hlt
  · intro C i v s₃ m₃ base E' hi hP
    exact inner C i v s₃ m₃ base E' hi (by simpa using hP)
end
end
end Mine

end
theorem Mine.calmNest : True ∧ True := by
  w_top off
  first | (walk1; all_goals trivial) | exact ⟨trivial, trivial⟩

section
open PySem PySem.W PyProof.Rows
set_option Elab.async false
namespace Mine
def sfold (rs : List (Nat × UInt8)) : List UInt8 := rs.flatMap fun p => [p.1.toUInt8, p.2]
def said (l : List UInt8) : List UInt8 := sfold (runs l)
def sints (p : Nat × UInt8) : List Int := [(p.1 : Int), (p.2.toNat : Int)]
theorem flatMs_list {α : Type} (f : α → List Int) (l : List α) (n : Nat) (h : n ≤ l.length) : flatMs (fun i => (l[i]?).elim [] f) n = (l.take n).flatMap f := by
  induction n with
  | zero => simp [flatMs]
  | succ n ih =>
    rw [flatMs, ih (Nat.le_of_succ_le h), List.take_add_one, List.flatMap_append]
    congr 1
    rw [List.getElem?_eq_getElem (Nat.lt_of_succ_le h)]
    simp
theorem runs_count : ∀ (l : List UInt8) (acc : List (Nat × UInt8)) (k : Nat), (∀ p ∈ acc, 1 ≤ p.1 ∧ p.1 ≤ k) → ∀ p ∈ l.foldl rstep acc, 1 ≤ p.1 ∧ p.1 ≤ k + l.length
  | [], acc, k, h, p, hp => by simpa using h p hp
  | c :: l, acc, k, h, p, hp => by
    rw [List.foldl_cons] at hp
    have := runs_count l (rstep acc c) (k + 1) ?_ p hp
    · simp only [List.length_cons]; omega
    · intro q hq
      rcases List.eq_nil_or_concat acc with rfl | ⟨rs', ⟨n, d⟩, rfl⟩
      · rw [rstep_nil] at hq
        rw [List.mem_singleton.mp hq]; exact ⟨Nat.le_refl _, by omega⟩
      · rw [List.concat_eq_append] at hq h
        by_cases hd : d = c
        · subst hd
          rw [rstep_eq] at hq
          rcases List.mem_append.mp hq with hq | hq
          · have := h q (List.mem_append.mpr (.inl hq)); omega
          · rw [List.mem_singleton.mp hq]
            have := h (n, d) (by simp)
            simp only at this ⊢; omega
        · rw [rstep_ne _ _ hd] at hq
          rcases List.mem_append.mp hq with hq | hq
          · have := h q hq; omega
          · rw [List.mem_singleton.mp hq]; simp only; omega
theorem runs_bound (l : List UInt8) : ∀ p ∈ runs l, 1 ≤ p.1 ∧ p.1 ≤ l.length := by
  intro p hp
  have := runs_count l [] 0 (fun _ h => nomatch h) p hp
  exact ⟨this.1, by omega⟩

theorem sints_length : ∀ (rs : List (Nat × UInt8)), (rs.flatMap sints).length = 2 * rs.length
  | [] => rfl
  | p :: rs => by
    have := sints_length rs
    simp only [List.flatMap_cons, List.length_append, sints, List.length_cons, List.length_nil] at this ⊢
    omega
theorem rdat_get {news : List (Addr × Obj)} {vs : List Value} {rs : List (Nat × UInt8)} {i : Nat} {v : Value} (hD : DatAll news vs (rs.map rdat)) (hv : vs[i]? = some v) :
    ∃ T n d t1 t2 k, rs[i]? = some (n, d) ∧ v = .ref T ∧ (T, tupO [.int (n : Int) t1, .int (d.toNat : Int) t2] k) ∈ news := by
  have hi : i < vs.length := (List.getElem?_eq_some_iff.mp hv).1
  have hlen := hD.length
  obtain ⟨v', hv', h⟩ := hD.get (k := i) (by rw [← hlen]; exact hi)
  rw [hv] at hv'
  cases hv'
  have hi' : i < rs.length := by rw [List.length_map] at hlen; omega
  rw [List.getElem_map] at h
  cases hnd : rs[i] with
  | mk n d =>
    rw [hnd] at h
    cases h with
    | tuple hm ha =>
      cases ha with
      | cons h1 h2 =>
        cases h1
        cases h2 with
        | cons h3 h4 =>
          cases h3
          cases h4
          exact ⟨_, n, d, _, _, _, by rw [List.getElem?_eq_getElem hi', hnd], rfl, hm⟩
theorem sints_bound {l : List UInt8} (hl : l.length ≤ 255) : ∀ k ∈ (runs l).flatMap sints, 0 ≤ k ∧ k < 256 := by
  intro k hk
  obtain ⟨p, hp, hk⟩ := List.mem_flatMap.mp hk
  have hb := runs_bound l p hp
  have h2 := p.2.toNat_lt
  simp only [sints, List.mem_cons, List.not_mem_nil, or_false] at hk
  rcases hk with rfl | rfl <;> omega
theorem sints_bytes (rs : List (Nat × UInt8)) : (rs.flatMap sints).map (fun n => n.toNat.toUInt8) = sfold rs := by
  induction rs with
  | nil => rfl
  | cons p rs ih =>
    rw [List.flatMap_cons, List.map_append, ih]
    simp [sints, sfold]

set_option maxRecDepth 100000 in
set_option maxHeartbeats 8000000 in
theorem said_ct (w : World) (b : Array UInt8) (t : Tok) (hb : b.size ≤ 255) : CT w 51 20 400 [.bytes b t] (fun tl r => ∃ t', r = .bytes (said b.toList).toArray t') := by
  unfold CT; k_fill
  intro mean mg mb dp un gd cn cs a ccd cl outer A₀ base h₀ L m news s Q E B F X N T hk hd hu hret
  refine wpAny_call ?_
  k_dflt cell_enter
  k_steps
  refine two_any (by k_asm) (by with_unfolding_all rfl) (by decide) (by rfl) (by decide) (by rfl) (by rfl) (by rfl) (by intro _; with_unfolding_all rfl) (by intro _ _; with_unfolding_all rfl) ?_
  k_steps
  k_dflt (refine' CT.use (runs_ct w b t (by omega)) ?kB ?kF ?kX ?kN ?kT ?kk ?kd ?ku ?_)
  case kB => k_asm
  case kF => k_asm
  case kX => k_asm
  case kN => k_asm
  case kT => k_asm
  case kk => rfl
  case kd => ktr_room
  case ku => ktr_units
  rintro r tl h1 tk1 F1 N1 ⟨fl, vs, nn, tl', rfl, rfl, hD, hne⟩
  have hvl := hD.length
  have hrl : (runs b.toList).length ≤ b.size := by have := runs_length b.toList; simpa using this
  rw [List.length_map] at hvl
  have hms := flatMs_list sints (runs b.toList) vs.length (by omega)
  rw [hvl, List.take_length, ← hvl] at hms
  refine ⟨_, (fun i => ((runs b.toList)[i]?).elim [] sints), vs.length, F1, N1, ?_, ?_, list_turns (by rfl) N1 (List.mem_append.mpr (.inr (List.mem_cons_self ..))) ?_⟩
  · rw [hms, sints_length, sizeLine_eq]; omega
  · rw [hms]
    intro D h2 tk2 ys F2 N2 hlt hI
    k_steps
    refine bytes_K F2 N2 ⟨_, (N2 _ (List.mem_cons_self ..)).1, rfl, _, rfl⟩ hI (sints_bound (by simpa using hb)) ?_ (by rfl) ?_
    · rw [hI.length, sints_length, sizeLine_eq]; omega
    · intro h3 t3 k3 F3 N3 _
      rw [sints_bytes]
      k_steps
      rename News h₀ L _ _ => kN
      exact hret _ [] _ _ (by assumption) (news_sub kN _ (by intro p hp; simp only [List.append_nil] at hp; simp [hp])) ⟨t3, rfl⟩
  · rintro C i v s₃ m₃ base E' hi hP hbase hn hm ⟨h₃, tk₃, rfl⟩ hk₃
    obtain ⟨T, n, d, t1, t2, k, hr, rfl, hmem⟩ := rdat_get hD hP
    have hT := (N1 _ (List.mem_append.mpr (.inr (List.mem_cons_of_mem _ hmem)))).1
    refine ldVarK hn hm ⟨⟨h₃, _, rfl, fun _ _ e => e⟩, ?_⟩ (by rfl) (by rfl) (by decide)
    show ItInts _ _ _ _ (((runs b.toList)[i]?).elim [] sints) _ _
    rw [hr]
    exact it_tuple (by rfl) ⟨_, hk₃ _ _ hT, rfl, _, rfl⟩ (.cons _ _ (.cons _ _ .nil)) (Nat.lt_of_lt_of_le (Heap.lt_size hT) hbase)
end Mine

end
theorem Mine.calmTSaid : True ∧ True := by
  w_top off
  first | (walk1; all_goals trivial) | exact ⟨trivial, trivial⟩

section
open PySem PySem.W PyProof.Rows
namespace Mine
open Builtin PySem.Calls
set_option maxRecDepth 100000
theorem slot_bytes_join : Slot "bytes" "join" "bytes.join" :=
  .of (owner := "bytes") (n := "join") (by rw [typeLookup_type, builtinLookup_eq_fast]; kernel_rfl) (by decide +kernel) (by decide +kernel) (by decide +kernel)
    (by first | exact .inl (by decide +kernel) | exact .inr (by decide +kernel)) (by rw [isSubtype_type]; kernel_rfl)
theorem type_bytes_join : typeOf (.builtin "bytes.join") = pure (.type "method_descriptor") := by show builtinType _ = _; rw [builtinType_eq_fast]; kernel_rfl
theorem entry_bytes_join : entryFor table "bytes.join" = some Builtin.«bytes.join» := entryFor_of_tree (by kernel_rfl)
theorem args_bytes_join_2 (a b : Value) : argsOk "bytes.join" ⟨[a, b], []⟩ := by
  unfold argsOk; rw [signature?_of (id := "bytes.join") (n := ['n', 'i', 'o', 'j']) (o := ['s', 'e', 't', 'y', 'b']) (by kernel_rfl) FB.owner_bytes]; kernel_rfl

theorem method_join {M : Model} {A : Around} {E : Value → Shared → Prop} {s : Shared} {b : Array UInt8} {t : Tok} {pl : Sem Bool} {Q : Value × List Value → Shared → Prop} (h : Q (.builtin "bytes.join", [.bytes b t]) s) : wpAny M A (getMethod (.bytes b t) "join" pl) Q E s := by
  with_reducible exact KBd.method_of (.bytes b t) (typeIs_bytes _ _ _) slot_bytes_join type_bytes_join KBd.noRef h

def oneOr {β : Type} (items : Array Value) (f : Value → β) (g : β) : β := match items with
  | #[x] => f x
  | _ => g
theorem oneOr_of {β : Type} {items : Array Value} {f : Value → β} {g : β} (P : β → Prop) (h1 : ∀ x, items = #[x] → P (f x)) (h2 : items.size ≠ 1 → P g) : P (oneOr items f g) := by
  obtain ⟨l⟩ := items
  match l, h1, h2 with
  | [], h1, h2 => exact h2 (by simp)
  | [x], h1, h2 => exact h1 x rfl
  | x :: y :: r, h1, h2 => exact h2 (by simp)

theorem take_eq {id : String} {b : Array UInt8} {t : Tok} : Bytes.takeBufferQuiet? id (.bytes b t) 0 = pure (some (b, none)) := by
  have h : Bytes.takeBuffer? id (.bytes b t) 0 = pure (some (b, none)) := by
    unfold Bytes.takeBuffer?
    rw [KBy.special_eq KBy.look_buffer, KBy.own_buffer]
    have e : (0 == Bytes.fullReadOnly : Bool) = false := by decide +kernel
    rw [e]
    show (Bytes.buffer? id (.bytes b t) >>= fun r => pure (r.map (·, none))) = _
    rw [KBy.buffer_eq]
    rfl
  unfold Bytes.takeBufferQuiet?
  rw [h]
  rfl
theorem zip_joined : ∀ (ps : List (Array UInt8)) (k : Nat) (out : Array UInt8), (ps.zipIdx k).foldl (fun out (x : Array UInt8 × Nat) => (if x.2 > 0 then out ++ (#[] : Array UInt8) else out) ++ x.1) out = (out.toList ++ (ps.map Array.toList).flatten).toArray
  | [], k, out => by simp
  | p :: ps, k, out => by
    rw [List.zipIdx_cons, List.foldl_cons, zip_joined ps]
    apply Array.toList_inj.mp
    by_cases h : k > 0
    · simp [h]
    · simp [h]
theorem joined_nil (ps : List (Array UInt8)) : Bytes.joined #[] ps = ((ps.map Array.toList).flatten).toArray := by
  unfold Bytes.joined
  have := zip_joined ps 0 #[]
  simpa using this
section
variable {prog : Program} {w : World} {A : Around} {E : Value → Shared → Prop} {s : Shared}
theorem joinLetGo_ok : ∀ (taken : List (Value × Option Value)) (keep : List Value) (Q : Unit → Shared → Prop), (∀ p ∈ taken, p.2 = none) → Q () s → wpAny (model prog w) A (Bytes.joinLetGo taken keep) Q E s
  | [], _, Q, _, h => wpAny_pure h
  | (x, w') :: rest, keep, Q, hn, h => by
    obtain rfl : w' = none := hn (x, w') (List.mem_cons_self ..)
    unfold Bytes.joinLetGo
    refine wpAny_bind ?_
    show wpAny _ _ (holding _ point >>= fun _ => letGo [] _) _ _ _
    exact wpAny_bind (wpAny_holding (wpAny_point (wpAny_pure (joinLetGo_ok rest keep Q (fun p hp => hn p (List.mem_cons_of_mem _ hp)) h))))

def BytesAre (vs : List Value) (bs : List (Array UInt8)) : Prop := vs.length = bs.length ∧ ∀ (i : Nat) (b : Array UInt8), bs[i]? = some b → ∃ t : Tok, vs[i]? = some (Value.bytes b t)

theorem foldl_size (ps : List (Array UInt8)) (n : Nat) : ps.foldl (fun a p => a + p.size) n = n + (ps.map Array.toList).flatten.length := by
  induction ps generalizing n with
  | nil => simp
  | cons p ps ih => rw [List.foldl_cons, ih]; simp; omega
set_option maxHeartbeats 1000000 in
theorem join_bytes {l : Addr} {vs : List Value} {bs : List (Array UInt8)} {t : Tok} {Q : Value → Shared → Prop} (hl : s.heap.IsList l vs.toArray) (hb : BytesAre vs bs) (hz : (bs.map Array.toList).flatten.length ≤ 16777216)
    (h : ∀ t k, Q (.bytes ((bs.map Array.toList).flatten).toArray t) { s with toks := k }) : wpAny (model prog w) A (call (.builtin "bytes.join") [.bytes #[] t, .ref l]) Q E s := by
  obtain ⟨o, ho, hc, ne, hd⟩ := id hl
  refine wpAny_call_entry slot_bytes_join (typeIs_bytes _ _ _) entry_bytes_join ?_ (args_bytes_join_2 _ _)
  unfold Builtin.«bytes.join» Bytes.joinM
  refine wpAny_bind (wpAny_of_eq (a := (.bytes #[] t, .ref l)) rfl ?_)
  show wpAny _ _ (Bytes.joinItems (.ref l) >>= fun seq => _) _ _ _
  refine wpAny_bind ?_
  unfold Bytes.joinItems
  refine wpAny_bind (wpAny_typeOf hl.typeIs ?_)
  show wpAny _ _ (pure (Value.ref l)) _ _ _
  refine wpAny_pure ?_
  refine wpAny_bind (wpAny_seqItems ho hd ?_)
  show wpAny _ _ (oneOr vs.toArray _ _) _ _ _
  refine oneOr_of (fun t => wpAny (model prog w) A.in1 t _ _ s) ?_ ?_
  · intro x hx
    obtain ⟨v, rfl⟩ : ∃ v, vs = [v] := by
      have := congrArg Array.toList hx
      exact ⟨x, by simpa using this⟩
    obtain ⟨b, rfl⟩ : ∃ b, bs = [b] := by
      have := hb.1
      cases bs with
      | nil => simp at this
      | cons b r => cases r with
        | nil => exact ⟨b, rfl⟩
        | cons _ _ => simp at this
    obtain ⟨u, hu⟩ := hb.2 0 b rfl
    obtain rfl : v = Value.bytes b u := by simpa using hu
    obtain rfl : x = Value.bytes b u := by have := congrArg Array.toList hx; simp at this; exact this.symm
    refine wpAny_bind (wpAny_typeOf (typeIs_bytes _ _ _) ?_)
    show wpAny _ _ (rule _ >>= fun _ => ret _) _ _ _
    refine wpAny_bind (wpAny_rule (wpAny_pure ⟨_, rfl, ?_⟩))
    have := h u s.toks
    simpa using this
  · intro _
    refine wpAny_bind ?_
    rw [Std.Legacy.Range.forIn_eq_forIn_range']
    simp only [Std.Legacy.Range.size, Nat.sub_zero, Nat.add_sub_cancel, Nat.div_one]
    have hlen : vs.toArray.size = bs.length := by rw [List.size_toArray]; exact hb.1
    rw [hlen]
    refine wpAny_forIn_list _
      (fun rest b s' => s = s' ∧ ∃ i, rest = List.range' i (bs.length - i) ∧ i ≤ bs.length ∧ b.1 = (bs.take i).toArray ∧ (∀ p ∈ b.2, p.2 = none ∧ p.1.onHeap = false))
      _ ?_ ?_ _ _ ⟨rfl, 0, by simp, Nat.zero_le _, by simp, fun _ h => nomatch h⟩
    · rintro x rest ⟨parts, taken⟩ s' ⟨rfl, i, hr, hi, hp, ht⟩
      dsimp only at hp ht ⊢
      have hlt : i < bs.length := by
        rcases Nat.lt_or_ge i bs.length with h | h
        · exact h
        · rw [Nat.sub_eq_zero_of_le h] at hr; simp at hr
      have hxr : x = i ∧ rest = List.range' (i + 1) (bs.length - (i + 1)) := by
        have e : bs.length - i = (bs.length - (i + 1)) + 1 := by omega
        rw [e, List.range'_succ] at hr
        injection hr with h1 h2
        exact ⟨h1, h2⟩
      obtain ⟨hxi, hrest⟩ := hxr
      subst hxi
      obtain ⟨u, hu⟩ := hb.2 x bs[x] (List.getElem?_eq_getElem hlt)
      refine wpAny_bind (wpAny_seqItems ho hd ?_)
      have hx : vs.toArray.getD x Value.none = Value.bytes bs[x] u := by
        rw [Array.getD_eq_getD_getElem?]
        simp [hu]
      dsimp only
      rw [hx]
      have hany : (taken.any fun x => x.1.onHeap) = false := by
        rw [List.any_eq_false]
        intro p hp
        rw [(ht p hp).2]; exact Bool.false_ne_true
      rw [hany]
      show wpAny _ _ (holding _ (Bytes.takeBufferQuiet? _ (Value.bytes bs[x] u) 0) >>= fun r => _) _ _ _
      rw [take_eq]
      refine wpAny_bind (wpAny_holding (wpAny_pure ?_))
      dsimp only
      refine wpAny_bind (wpAny_seqItems ho hd ?_)
      dsimp only
      rw [if_neg (by simp [hlen])]
      refine wpAny_pure ⟨rfl, x + 1, hrest, hlt, ?_, ?_⟩
      · dsimp only
        rw [hp]
        apply Array.toList_inj.mp
        rw [List.take_add_one, List.getElem?_eq_getElem hlt]
        simp
      · intro p hp'
        rcases List.mem_append.mp hp' with h | h
        · exact ht p h
        · rw [List.mem_singleton.mp h]; exact ⟨rfl, rfl⟩
    · rintro ⟨parts, taken⟩ s' ⟨rfl, i, hr, hi, hp, ht⟩
      dsimp only at hp ht ⊢
      have hi' : i = bs.length := by
        rcases Nat.lt_or_ge i bs.length with h | h
        · have : (List.range' i (bs.length - i)).length = bs.length - i := by simp
          rw [← hr] at this; simp at this; omega
        · omega
      subst hi'
      rw [List.take_length] at hp
      subst hp
      refine wpAny_bind (wpAny_of_eq (a := (#[] : Array UInt8)) rfl ?_)
      have hfold : Bytes.tooLong (Array.foldl (fun x1 (x2 : Array UInt8) => x1 + x2.size) ((#[] : Array UInt8).size * (bs.toArray.size - 1)) bs.toArray) = false := by
        refine KBy.tooLong_not ?_
        rw [List.foldl_toArray, foldl_size]
        simpa using hz
      rw [hfold]
      show wpAny _ _ (Bytes.Kind.new .bytes _ >>= fun r => _) _ _ _
      rw [List.toList_toArray, joined_nil]
      refine wpAny_bind ?_
      show wpAny _ _ (mkBytes _) _ _ _
      refine wpAny_mkBytes ?_ (by rw [sizeLine_eq, List.size_toArray]; exact hz)
      refine wpAny_bind (wpAny_holding (wpAny_point ?_))
      refine wpAny_bind (joinLetGo_ok _ _ _ (fun p hp => (ht p hp).1) ?_)
      exact wpAny_pure ⟨_, rfl, h _ _⟩
end
end Mine

end
theorem Mine.calmJoin : True ∧ True := by
  w_top off
  first | (walk1; all_goals trivial) | exact ⟨trivial, trivial⟩

section
open PySem PySem.W PyProof.Rows
set_option Elab.async false
namespace Mine
open PySem.Calls PyProof.V PySem.Spec PyProof.Rows.LCg
section
variable {prog : Program} {w : World} {A : Around} {E : Value → Shared → Prop} {s : Shared} {h₀ : Heap} {L : Addr} {m : PySem.Str → Option Value} {env : Env}
theorem step_walks {I : Addr} (hh : A.handled = none) (a c : Int) (n : Nat) : Walks prog w A I [I] [I] n (fun i v => ∃ t, v = .int (a + (i : Int) * c) t) (fun i h => IsRangeIter h I (a + (i : Nat) * c) ((n : Int) - (i : Nat)) c) := Walks.range hh I a c n
theorem step_st {I : Addr} {a c : Int} {n : Nat} : ∀ i (h h' : Heap) (o : Obj) (nw : List (Addr × Obj)), IsRangeIter h I (a + (i : Nat) * c) ((n : Int) - (i : Nat)) c → h.get? I = some o → h'.get? I = some o → (∀ b o, h₀.get? b = some o → h'.get? b = some o) → News h₀ L h' nw → True → IsRangeIter h' I (a + (i : Nat) * c) ((n : Int) - (i : Nat)) c :=
  fun i h h' o nw st e e' _ _ _ => by
    have st' : h.get? I = some _ := st
    show h'.get? I = some _
    rw [e', ← e]; exact st'

def RSrc (prog : Program) (w : World) (A : Around) (h₀ : Heap) (L : Addr) (m : PySem.Str → Option Value) (env : Env) (elt : PySem.Expr) (x : PySem.Str) (scope : Scope) (cl : List (PySem.Str × Addr)) (Q : Value → Shared → Prop) (xv : Value) (s₁ : Shared) : Prop :=
  ∃ r a b c t u v n news, xv = .ref r ∧ A.handled = none ∧ Fr h₀ L s₁.heap m ∧ News h₀ L s₁.heap news ∧ IsRange s₁.heap r a b c t u v ∧ Builtin.Range.small a b c = true ∧ Builtin.Range.rangeSize a b c = ((n : Nat) : Int) ∧ n ≤ sizeLine ∧
      ∀ s₂ : Shared, (∃ h, s₂ = { s₁ with heap := h }) → CompRest prog w A h₀ L m env elt x scope cl s₂ (fun _ => True) (fun i v => ∃ t, v = .int (a + (i : Int) * c) t) (FinE h₀ L m s₂ Q) n 0 [] news
theorem RSrc.intro {elt : PySem.Expr} {x : PySem.Str} {scope : Scope} {cl : List (PySem.Str × Addr)} {Q : Value → Shared → Prop} {s₁ : Shared} {r : Addr} {a b c : Int} {t u v : Tok} {news : List (Addr × Obj)} (n : Nat)
    (hh : A.handled = none) (F : Fr h₀ L s₁.heap m) (N : News h₀ L s₁.heap news) (hr : IsRange s₁.heap r a b c t u v) (hsm : Builtin.Range.small a b c = true) (hn : Builtin.Range.rangeSize a b c = ((n : Nat) : Int)) (hsz : n ≤ sizeLine)
    (h : ∀ g, CompRest prog w A h₀ L m env elt x scope cl { s₁ with heap := g } (fun _ => True) (fun i v => ∃ t, v = .int (a + (i : Int) * c) t) (FinE h₀ L m { s₁ with heap := g } Q) n 0 [] news) :
    RSrc prog w A h₀ L m env elt x scope cl Q (.ref r) s₁ := ⟨r, a, b, c, t, u, v, n, news, rfl, hh, F, N, hr, hsm, hn, hsz, fun _ ⟨g, e⟩ => e ▸ h g⟩

/-- a list comprehension over a range by any step -/
theorem ListComp_R {elt iter : PySem.Expr} {x : PySem.Str} {px : Pos} {scope : Scope} {cl : List (PySem.Str × Addr)} {pos : Pos} {Q : Value → Shared → Prop} (_F₀ : Fr h₀ L s.heap m)
    (hclos : closureFor scope env = pure cl) (hcell : ∀ y ∈ scope.names, y.2 ≠ .cell) (hkind : scope.kind = .function)
    (hnames : ∀ y ∈ scope.names, y.2 = .local → scope.names.lookup y.1 = some .local) (hx : scope.names.lookup x = some .local)
    (h : wpAny (model prog w) A (eval iter env) (RSrc prog w A h₀ L m env elt x scope cl Q) E s)
    (hs : ∀ x, foldedSetIterable iter env x = pure x) :
    wpAny (model prog w) A (eval (.ListComp elt [⟨.Name x px, iter, [], 0⟩] scope pos) env) Q E s := by
  rw [eval_ListComp]
  refine wpAny_comprehension_free (use := none) rfl hs hclos hkind hnames (wpAny_mono h (fun xv s₁ h₁ => ?_) fun _ _ e => e)
  obtain ⟨r, a, b, c, t, u, v, n, news, rfl, hh, F, N, hr, hsm, hn, hsz, R⟩ := h₁
  refine wpAny_pyIter_range hr hsm ?_
  refine block_U (step_walks hh a c n) hsz (fun i h st => ⟨_, st⟩) step_st hcell hkind hx (by show IsRangeIter _ _ _ _ _; rw [hn]; simpa using Heap.get?_push_size _ rfl) (fun b hb => ?_)
    (F.keeps fun _ _ e => Heap.get?_push_of_some _ e) (N.grown fun _ _ e => Heap.get?_push_of_some _ e) (Nat.ne_of_lt F.ns.lt) (next_is_new F) (fun p hp => Nat.ne_of_lt (Heap.lt_size (N p hp).1)) trivial (R _ ⟨_, rfl⟩) ?_
  · rw [List.mem_singleton.mp hb]
    show s₁.heap.objs.size < (s₁.heap.push _).objs.size
    rw [Heap.size_push]; exact Nat.lt_succ_self _
  · intro D C h' tk m' ys news' F' N' o1 hn hC₀ hD₀ hCL hDL hCD offC fin
    refine ⟨m', hn, fun h'' hs'' => fin D h'' tk (F'.change hs'' hCL hC₀) (fun p hp => ?_) o1⟩
    refine ⟨hs''.extBut _ _ ?_ (N' p hp).1, (N' p hp).2⟩
    rcases List.mem_cons.mp hp with rfl | hp
    · exact Ne.symm hCD
    · exact offC p hp

/-- the turns of a comprehension by what its list holds after each -/
theorem compRest_ind {elt : PySem.Expr} {x : PySem.Str} {scope : Scope} {cl : List (PySem.Str × Addr)} {S : List (Addr × Obj) → Prop} {P : Nat → Value → Prop} {Fin : List Value → List (Addr × Obj) → Prop} {news : List (Addr × Obj)} {n : Nat}
    (J : Nat → List Value → Prop) (h0 : J 0 [])
    (step : ∀ i ys, i < n → J i ys → ∀ v I oI C oC D m₂ h tk (E' : Value → Shared → Prop), P i v → NsObj oC m₂ → m₂ x = some v → Fr h₀ L h m → News h₀ L h ((I, oI) :: (C, oC) :: (D, lst ys) :: news) → Off3 I C D news → ((@Ne Nat I C) ∧ (@Ne Nat I D) ∧ (@Ne Nat C D)) →
      wpAny (model prog w) A (eval elt (compEnvC scope cl C env)) (CompEnd h₀ L m { s with heap := h, toks := tk } I oI C oC D (lst ys) S (fun y news' => news' = news ∧ J (i + 1) (ys ++ [y]))) E' { s with heap := h, toks := tk })
    (fin : ∀ ys, J n ys → Fin ys news) : CompRest prog w A h₀ L m env elt x scope cl s S P Fin n 0 [] news := by
  have key : ∀ k i ys, i + k = n → J i ys → CompRest prog w A h₀ L m env elt x scope cl s S P Fin k i ys news := by
    intro k
    induction k with
    | zero => intro i ys hi hJ; exact CompRest.zero (fin ys (by rw [← hi]; exact hJ))
    | succ k ih =>
      intro i ys hi hJ
      refine CompRest.succ fun v I oI C oC D m₂ h tk E' hP hC hx F N off ne => ?_
      refine wpAny_mono (step i ys (by omega) hJ v I oI C oC D m₂ h tk E' hP hC hx F N off ne) (fun y s₂ hy => ?_) fun _ _ e => e
      obtain ⟨h', tk', news', rfl, F', N', off', hS, rfl, hJ'⟩ := hy
      exact ⟨h', tk', news', rfl, F', N', off', hS, ih (i + 1) _ (by omega) hJ'⟩
  exact key n 0 [] (by omega) h0
end
set_option maxRecDepth 100000 in
theorem range2 (n : Nat) (hn : n ≤ 1000) : Builtin.Range.small 0 ((2 * n : Nat) : Int) 2 = true ∧ Builtin.Range.rangeSize 0 ((2 * n : Nat) : Int) 2 = ((n : Nat) : Int) := by
  have h : Builtin.Range.rangeSize 0 ((2 * n : Nat) : Int) 2 = ((n : Nat) : Int) := by
    unfold Builtin.Range.rangeSize
    rw [if_pos (by decide)]
    split <;> omega
  refine ⟨?_, h⟩
  unfold Builtin.Range.small
  rw [h]
  obtain ⟨b, hb⟩ : ∃ b : Int, b = ((2 * n : Nat) : Int) := ⟨_, rfl⟩
  obtain ⟨c, hc⟩ : ∃ c : Int, c = ((n : Nat) : Int) := ⟨_, rfl⟩
  rw [← hb, ← hc]
  have h1 : 0 ≤ b ∧ b ≤ 2000 ∧ 0 ≤ c ∧ c ≤ 1000 := by omega
  clear hb hc h
  obtain ⟨h1, h2, h3, h4⟩ := h1
  simp only [Builtin.Range.rangeFitsLong, Bool.and_eq_true, Bool.or_eq_true, decide_eq_true_eq, beq_iff_eq, show (2 : Int) > 0 by decide, if_true]
  omega
set_option maxRecDepth 100000 in
theorem rangeDown2 (n : Nat) (hn : n ≤ 1000) : Builtin.Range.small (((2 * n : Nat) : Int) - 2) (-1) (-2) = true ∧ Builtin.Range.rangeSize (((2 * n : Nat) : Int) - 2) (-1) (-2) = ((n : Nat) : Int) := by
  have h : Builtin.Range.rangeSize (((2 * n : Nat) : Int) - 2) (-1) (-2) = ((n : Nat) : Int) := by
    unfold Builtin.Range.rangeSize
    rw [if_neg (by decide), show (-(-2) : Int) = 2 from rfl]
    split <;> omega
  refine ⟨?_, h⟩
  unfold Builtin.Range.small
  rw [h]
  obtain ⟨b, hb⟩ : ∃ b : Int, b = ((2 * n : Nat) : Int) - 2 := ⟨_, rfl⟩
  obtain ⟨c, hc⟩ : ∃ c : Int, c = ((n : Nat) : Int) := ⟨_, rfl⟩
  rw [← hb, ← hc]
  have h1 : -2 ≤ b ∧ b ≤ 2000 ∧ 0 ≤ c ∧ c ≤ 1000 := by omega
  clear hb hc h
  obtain ⟨h1, h2, h3, h4⟩ := h1
  simp only [Builtin.Range.rangeFitsLong, Bool.and_eq_true, Bool.or_eq_true, decide_eq_true_eq, beq_iff_eq, show ¬ ((-2 : Int) > 0) by decide, if_false]
  omega
end Mine

end
theorem Mine.calmCompR : True ∧ True := by
  w_top off
  first | (walk1; all_goals trivial) | exact ⟨trivial, trivial⟩

section
open PySem PySem.W PyProof.Rows
set_option Elab.async false
namespace Mine
local macro_rules | `(tactic| cell_enter) => `(tactic| (refine' code_defC ?k1 ?k2 ?k3 ?k4 ?k5 ?kA ?kF ?kK ?k6 ?k7 ?k8 ?k9 ?kB ?kD ?_ ?c2 ?c3 ?c4; (case kA => exact rfl); (case kF => exact rfl); (case kK => assumption); (case k1 => k_asm); (case k2 => k_asm); (case k3 => k_asm); (case k4 => k_asm); (case k5 => k_asm); (case k6 => k_is); (case k7 => k_is); (case k8 => ktr_room); (case k9 => exact BindsTo.of_eq rfl); (case kB => exact rfl); (case kD => decide +kernel); (case c2 => exact rfl); (case c3 => exact rfl); (case c4 => exact rfl); k_whole; intro g' L' h' tk' cells' FG' F' N' Y' B' X' T' l1; (try k_lt l1); k_cells Y'; (try simp only [List.cons_append, List.nil_append] at N'); (try dsimp only); (try k_lift B'); (try k_fold)))
theorem sfold_length : ∀ (rs : List (Nat × UInt8)), (sfold rs).length = 2 * rs.length
  | [] => rfl
  | p :: rs => by
    have := sfold_length rs
    simp only [sfold, List.flatMap_cons, List.length_append, List.length_cons, List.length_nil] at this ⊢
    omega
theorem sfold_get : ∀ {rs : List (Nat × UInt8)} {i n : Nat} {d : UInt8}, rs[i]? = some (n, d) → (sfold rs).getD (2 * i) 0 = n.toUInt8 ∧ (sfold rs).getD (2 * i + 1) 0 = d
  | [], i, n, d, h => by simp at h
  | p :: rs, 0, n, d, h => by
    obtain rfl : p = (n, d) := by simpa using h
    simp [sfold]
  | p :: rs, i + 1, n, d, h => by
    have := sfold_get (rs := rs) (i := i) (n := n) (d := d) (by simpa using h)
    simp only [sfold, List.flatMap_cons, List.cons_append, List.nil_append] at this ⊢
    have e1 : 2 * (i + 1) = 2 * i + 1 + 1 := by omega
    rw [e1]
    simpa using this
theorem bytesAre_snoc {vs : List Value} {bs : List (Array UInt8)} (h : BytesAre vs bs) (b : Array UInt8) (t : Tok) : BytesAre (vs ++ [.bytes b t]) (bs ++ [b]) := by
  refine ⟨by rw [List.length_append, List.length_append, h.1]; rfl, fun i c hc => ?_⟩
  rcases Nat.lt_or_ge i bs.length with hi | hi
  · rw [List.getElem?_append_left hi] at hc
    rw [List.getElem?_append_left (by rw [h.1]; exact hi)]
    exact h.2 i c hc
  · rw [List.getElem?_append_right hi] at hc
    rw [List.getElem?_append_right (by rw [h.1]; exact hi), h.1]
    cases hk : i - bs.length with
    | zero => rw [hk] at hc; cases hc; exact ⟨t, rfl⟩
    | succ k => rw [hk] at hc; simp at hc
theorem meant_flat (rs : List (Nat × UInt8)) : ((rs.map fun p => (List.replicate p.1 p.2).toArray).map Array.toList).flatten = rs.flatMap fun p => List.replicate p.1 p.2 := by
  induction rs with
  | nil => rfl
  | cons p rs ih => simp only [List.map_cons, List.flatten_cons, List.flatMap_cons, ih]
theorem meant_length : ∀ {rs : List (Nat × UInt8)}, (∀ p ∈ rs, p.1 ≤ 255) → (rs.flatMap fun p => List.replicate p.1 p.2).length ≤ 255 * rs.length
  | [], _ => by simp
  | p :: rs, h => by
    have h1 := meant_length (rs := rs) fun q hq => h q (List.mem_cons_of_mem _ hq)
    have h2 := h p (List.mem_cons_self ..)
    simp only [List.flatMap_cons, List.length_append, List.length_replicate, List.length_cons]
    omega
local macro_rules | `(tactic| walk_at "eval ListComp") => `(tactic| (k_here; k_dflt (refine ListComp_R (by k_asm) (by with_unfolding_all rfl) (by decide) (by rfl) (by decide) (by rfl) ?_ (by intro _; with_unfolding_all rfl))))
set_option maxRecDepth 100000 in
set_option maxHeartbeats 8000000 in
theorem meant_ct (w : World) (rs : List (Nat × UInt8)) (t : Tok) (hb : rs.length ≤ 255) (hr : ∀ p ∈ rs, p.1 ≤ 255) : CT w 56 20 400 [.bytes (sfold rs).toArray t] (fun tl r => ∃ t', r = .bytes (rs.flatMap fun p => List.replicate p.1 p.2).toArray t') := by
  unfold CT; k_fill
  intro mean mg mb dp un gd cn cs a ccd cl outer A₀ base h₀ L m news s Q E B F X N T hk hd hu hret
  refine wpAny_call ?_
  k_dflt cell_enter
  k_steps
  refine method_join ?_
  k_steps
  refine len_bytes (by rw [List.size_toArray, sfold_length]; omega) ?_
  rw [List.size_toArray, sfold_length]
  k_steps
  rename IsRange _ _ _ _ _ _ _ _ => hR
  refine RSrc.intro rs.length (by rfl) (by k_asm) (by k_asm) hR ?_ ?_ ?_ ?_
  · exact (range2 _ (by omega)).1
  · exact (range2 _ (by omega)).2
  · rw [sizeLine_eq]; omega
  intro g
  refine compRest_ind (fun i ys => BytesAre ys ((rs.take i).map fun p => (List.replicate p.1 p.2).toArray)) ⟨rfl, fun _ _ h => by simp at h⟩ ?_ ?_
  · rintro i ys hi hJ v I oI C oC D m₂ h tk E' ⟨t9, rfl⟩ hoC hx F5 N5 off ne
    obtain ⟨⟨n, d⟩, hnd⟩ : ∃ p, rs[i]? = some p := ⟨_, List.getElem?_eq_getElem hi⟩
    have hn := hr _ (List.mem_of_getElem? hnd)
    obtain ⟨hg1, hg2⟩ := sfold_get hnd
    have hl := sfold_length rs
    k_steps
    rename Fr _ _ _ _ => F6
    rename News _ _ _ (_ :: (I, _) :: _) => N6
    rw [show (0 + (i : Int) * 2 + 1).toNat = 2 * i + 1 by omega, hg2] at N6
    have hd9 := d.toNat_lt
    refine bytes_K F6 N6 ⟨_, (N6 _ (List.mem_cons_self ..)).1, rfl, _, rfl⟩ (.cons (d.toNat : Int) _ .nil) (by intro k hk; rw [List.mem_singleton.mp hk]; omega) (by simp [sizeLine_eq]) (by rfl) ?_
    intro h7 t7 k7 F7 N7 _
    have e7 : ([(d.toNat : Int)].map fun n => n.toNat.toUInt8) = [d] := by simp
    rw [e7]
    k_steps
    rw [show (0 + (i : Int) * 2).toNat = 2 * i by omega, hg1]
    have hn' : ((n.toUInt8.toNat : Nat) : Int) = (n : Int) := by
      have : n.toUInt8.toNat = n % 256 := rfl
      omega
    rw [hn']
    refine bytes_mul_any (by simp) (by omega) (by omega) (by simp) ?_
    intro t8 k8
    k_steps
    refine LCg.CompEnd.intro F7 N7 _ (fun p hp => List.mem_cons_of_mem _ hp) off trivial ⟨rfl, ?_⟩
    have e8 : (rs.take (i + 1)).map (fun p => (List.replicate p.1 p.2).toArray) = (rs.take i).map (fun p => (List.replicate p.1 p.2).toArray) ++ [((List.replicate (Int.toNat (n : Int)) [d]).flatten).toArray] := by
      rw [List.take_add_one, hnd, List.map_append, List.flatten_replicate_singleton]; rfl
    rw [e8]
    exact bytesAre_snoc hJ _ _
  · intro ys hJ D h5 tk5 F5 N5 o1
    rw [List.take_length] at hJ
    k_steps
    refine join_bytes ⟨_, (N5 _ (List.mem_cons_self ..)).1, rfl, _, rfl⟩ hJ (by rw [meant_flat]; have := meant_length hr; omega) ?_
    intro t9 k9
    rw [meant_flat]
    k_steps
    rename News h₀ L _ _ => kN
    exact hret _ [] _ _ (by assumption) (news_sub kN _ (by intro p hp; simp only [List.append_nil] at hp; simp [hp])) ⟨t9, rfl⟩
end Mine

end
theorem Mine.calmTMeant : True ∧ True := by
  w_top off
  first | (walk1; all_goals trivial) | exact ⟨trivial, trivial⟩

section
open PySem PySem.W PySem.Calls PyProof.Rows
set_option Elab.async false
set_option maxRecDepth 100000
namespace Mine
section
variable {prog : Program} {w : World} {A A₀ : Around} {s : Shared} {base h₀ : Heap} {outer : List Env} {L : Addr} {m : PySem.Str → Option Value} {env : Env} {news : List (Addr × Obj)} {K : Frag} {p : Program} {loose : List PySem.Str} {mean : ExcName → Option Value} {mg mb : PySem.Str → Option Value}
  {R : Result → Shared → Prop} {name qual : PySem.Str} {params : PySem.Arguments} {body : List Stmt} {scope : Scope} {dV kV doc pm cdv ct oc : Value} {an od : Option Addr} {osl : Array (Option Value)} {f : Addr} {args : Args} {binds : List (PySem.Str × Value)}

theorem codeN_def
    (B : Below A₀ base outer h₀) (F : Fr h₀ L s.heap m) (X₀ : K.In h₀) (N : News h₀ L s.heap news) (T : Top p loose mean mg mb h₀) (hA : A.frames = some (env :: outer)) (hf : env.frame = some L) (hke : env.scope.kind = .function)
    (ho : K.lookup f = some ⟨oc, od, .func (fnOf name qual params body scope dV kV doc pm an cdv ct), osl⟩) (hcd : codeIn K cdv qual = true) (hroom : A.depth < recursionLimit)
    (hbind : BindsTo s (fnOf name qual params body scope dV kV doc pm an cdv ct) args binds) (hloc : ∀ y ∈ binds, scope.names.lookup y.1 = some .local)
    (h : ∀ g L' h₁, Fr h₀ L g m → Fr g L' h₁ (fun y => binds.reverse.lookup y) → News g L' h₁ news → Below A base (env :: outer) g → K.In g → Top p loose mean mg mb g →
      wpN (model prog w) (A.deeper (envOf qual scope L' f cdv)) (execs body (envOf qual scope L' f cdv))
        (fun fl s' => LeaveK h₀ L m g R (match fl with | .ret v => v | _ => .none) s')
        (fun e s' => wpAny (model prog w) (A.deeper (envOf qual scope L' f cdv)) (leaving (envOf qual scope L' f cdv) e) (fun _ s'' => R (.error e) s'') (fun e' s'' => R (.error e') s'') s')
        { s with heap := h₁, toks := s.toks + binds.length })
    (hco : scope.isCoroutine = false) (hgen : scope.isGenerator = false) (hk : scope.kind = .function)
    (hcell : ∀ x ∈ scope.names, x.2 ≠ .cell) : codeN (model prog w) A (.call (.ref f) args) R s := by
  obtain ⟨FG, BG, st, lv⟩ := groundX (R := R) B F N hA hf hke
  refine codeN_call_function hroom ((X₀.keeps F.keep) _ _ ho) rfl hco hgen rfl (codeRec_of (X₀.keeps F.keep) hcd) (hbind _ _ _ _ ?_)
  refine wpAny_newFunctionEnv hcell hloc (fun h₁ hns hsb => ⟨(T.nolimit.keeps F.keep).fresh _ hsb, codeN_func ?_⟩) hk
  have hk₁ : ∀ b o, s.heap.get? b = some o → h₁.get? b = some o := fun b o e => hsb.extBut b o (Nat.ne_of_lt (Heap.lt_size e)) (Heap.get?_push_of_some _ e)
  exact wpN_mono (h _ s.heap.objs.size h₁ FG ⟨hns, fun b o e => hk₁ b o (of_hideAll _ e), Nat.le_of_eq (hideAll_size _ _)⟩
    (fun p hp => ⟨hk₁ _ _ (N p hp).1, Nat.ne_of_lt (Heap.lt_size (N p hp).1), hideAll_none _ (List.mem_map_of_mem hp)⟩) BG (X₀.keeps st) (T.keeps st)) (fun fl s' hl => lv _ _ hl) fun _ _ y => y

theorem fnAt {h : Heap} (X : K.In h) (hl : K.lookup f = some ⟨oc, od, .func (fnOf name qual params body scope dV kV doc pm an cdv ct), osl⟩) : ∃ o fd, h.get? f = some o ∧ o.data = .func fd := ⟨_, _, X _ _ hl, rfl⟩
theorem fnAt' {h : Heap} {fd : FuncData} (X : K.In h) (hl : K.lookup f = some ⟨oc, od, .func fd, osl⟩) : ∃ o fd, h.get? f = some o ∧ o.data = .func fd := ⟨_, _, X _ _ hl, rfl⟩
end

/-- as CT, where the stack holds no decoder -/
abbrev CTN (w : World) (f : Addr) (d u : Nat) (vs : List Value) (Out : List (Addr × Obj) → Value → Prop) : Prop :=
  ∀ (mean : ExcName → Option Value) (mg mb : PySem.Str → Option Value) (dp un : Nat) (gd : Option (List Code)) (cn : PySem.Str) (cs : Scope) (a : Addr) (ccd : Value) (cl : List (PySem.Str × Addr)) (outer : List Env) (A₀ : Around) (base h₀ : Heap) (L : Addr) (m : PySem.Str → Option Value) (news : List (Addr × Obj)) (s : Shared) (Q E : Value → Shared → Prop),
    Below A₀ base outer h₀ → Fr h₀ L s.heap m → (hd.heap_39 w.params).In h₀ → News h₀ L s.heap news →
    Top hd.view_39 (looseW hd.view_39 [PySem.Str.ofString "insort_left", PySem.Str.ofString "bisect_left"]) mean mg mb h₀ →
    cs.kind = .function → dp + d < recursionLimit → un + u < cLine →
    (∀ r tl h' tk', Fr h₀ L h' m → News h₀ L h' (news ++ tl) → Out tl r → Q r { s with heap := h', toks := tk' }) →
    wpN (model PySem.Challenge.rw_gx0001_01.row.prog w) (ktrTop dp un gd cn cs L a ccd cl outer) (PySem.call (.ref f) vs) Q E s
theorem CTN.use {w : World} {f : Addr} {d u : Nat} {vs : List Value} {Out : List (Addr × Obj) → Value → Prop} (C : CTN w f d u vs Out)
    {mean : ExcName → Option Value} {mg mb : PySem.Str → Option Value} {dp un : Nat} {gd : Option (List Code)} {cn : PySem.Str} {cs : Scope} {a : Addr} {ccd : Value} {cl : List (PySem.Str × Addr)} {outer : List Env} {A₀ : Around} {base h₀ : Heap} {L : Addr} {m : PySem.Str → Option Value} {news : List (Addr × Obj)} {s : Shared} {Q E : Value → Shared → Prop}
    (B : Below A₀ base outer h₀) (F : Fr h₀ L s.heap m) (X : (hd.heap_39 w.params).In h₀) (N : News h₀ L s.heap news)
    (T : Top hd.view_39 (looseW hd.view_39 [PySem.Str.ofString "insort_left", PySem.Str.ofString "bisect_left"]) mean mg mb h₀)
    (hk : cs.kind = .function) (hd : dp + d < recursionLimit) (hu : un + u < cLine)
    (hret : ∀ r tl h' tk', Fr h₀ L h' m → News h₀ L h' (news ++ tl) → Out tl r → Q r { s with heap := h', toks := tk' }) :
    wpN (model PySem.Challenge.rw_gx0001_01.row.prog w) (ktrTop dp un gd cn cs L a ccd cl outer) (PySem.call (.ref f) vs) Q E s :=
  C _ _ _ _ _ _ _ _ _ _ _ _ _ _ _ _ _ _ _ _ _ B F X N T hk hd hu hret
end Mine

end
theorem Mine.calmNCall : True ∧ True := by
  w_top off
  first | (walk1; all_goals trivial) | exact ⟨trivial, trivial⟩

section
open PySem PySem.W PyProof.Rows
set_option Elab.async false
namespace Mine
open PySem.Calls PyProof.V PySem.Spec PyProof.Rows.LCg
section
variable {prog : Program} {w : World} {A : Around} {E : Value → Shared → Prop} {s : Shared} {env : Env} {h₀ : Heap} {x : PySem.Str} {body : List Stmt} {L : Addr} {m : PySem.Str → Option Value} {news : List (Addr × Obj)}

theorem ba_call_K {n : Int} {t : Tok} {Q : Value → Shared → Prop} (F : Fr h₀ L s.heap m) (N : News h₀ L s.heap news) (h0 : 0 ≤ n) (hz : n.toNat ≤ sizeLine)
    (h : ∀ D h', Fr h₀ L h' m → News h₀ L h' ((D, baOf (Array.replicate n.toNat 0)) :: news) → (∀ p ∈ news, p.1 < D) → Q (.ref D) { s with heap := h' }) :
    wpN (model prog w) A (PySem.call (.type "bytearray") [.int n t]) Q E s :=
  ba_call h0 hz fun _ e1 e2 => h _ _ (F.filled e2) (News.filled F N e2 e1) fun p hp => Heap.lt_size (N p hp).1

theorem ba_set_K {D : Addr} {b : Array UInt8} {i v : Int} {t u : Tok} {Q : Unit → Shared → Prop} (F : Fr h₀ L s.heap m) (N : News h₀ L s.heap news) (hm : (D, baOf b) ∈ news) (h0 : 0 ≤ i) (hi : i < b.size) (v0 : 0 ≤ v) (v1 : v < 256) (hz : b.size ≤ 1000000)
    (h : ∀ h', Fr h₀ L h' m → Turned h₀ L h' news D (baOf (b.setIfInBounds i.toNat v.toNat.toUInt8)) → Q () { s with heap := h' }) :
    wpAny (model prog w) A (setItem (.ref D) (.int i t) (.int v u)) Q E s := by
  have z := N _ hm
  exact ba_setItem z.1 h0 hi v0 v1 hz fun h' e1 e2 => h h' (F.change e2 z.2.1 z.2.2) (turned_of N hm e2 e1)

theorem ba_bytes_K {D : Addr} {b : Array UInt8} {Q : Value → Shared → Prop} (N : News h₀ L s.heap news) (hm : (D, baOf b) ∈ news) (hz : b.size ≤ 1000000)
    (hQ : ∀ t k, Q (.bytes b t) { s with toks := k }) : wpAny (model prog w) A (PySem.call (.type "bytes") [.ref D]) Q E s :=
  ba_toBytes (N _ hm).1 (Nat.le_trans hz (Nat.le_of_ble_eq_true rfl)) hQ

/-- a loop over a range by any step, any state over a ledger that may grow -/
theorem range_loop {r : Addr} {a b c : Int} {t u v : Tok} {n : Nat} {m₀ : PySem.Str → Option Value} {Q : Flow → Shared → Prop}
    (J : Nat → (PySem.Str → Option Value) → List (Addr × Obj) → Prop)
    (hh : A.handled = none) (hr : IsRange s.heap r a b c t u v) (hsm : Builtin.Range.small a b c = true) (hn : Builtin.Range.rangeSize a b c = ((n : Nat) : Int))
    (F : Fr h₀ env.locals s.heap m₀) (N : News h₀ env.locals s.heap news) (hj : J 0 m₀ news)
    (turn : ∀ i t m₁ nx h tk own, i < n → OwnOff own (nx.map (·.1)) → J i m₁ nx →
      Fr h₀ env.locals h (fun y => if y = x then some (.int (a + (i : Int) * c) t) else m₁ y) → News h₀ env.locals h (nx ++ own) →
      wpAny (model prog w) A (execs body env) (InvPostG h₀ env.locals (J (i + 1)) own { s with heap := h, toks := tk } Q) E { s with heap := h, toks := tk })
    (done : ∀ m₁ nx h tk, J n m₁ nx → Fr h₀ env.locals h m₁ → News h₀ env.locals h nx → Q .next { s with heap := h, toks := tk }) :
    wpAny (model prog w) A (pyIter (.ref r)) (fun it s₂ => LoopAtV prog w A h₀ env x body Q E it s₂) E s := by
  refine wpAny_pyIter_range hr hsm ?_
  refine kdr_loop J (step_walks hh a c n) (fun _ h => h) (fun _ h => h) ?_ ?_ ?_ ?_ (by show IsRangeIter _ _ _ _ _; rw [hn]; simpa using Heap.get?_push_size _ rfl) (F.keeps fun _ _ e => Heap.get?_push_of_some _ e) (N.grown fun _ _ e => Heap.get?_push_of_some _ e) hj ?_ ?_
  · rintro i h st b' hb
    rw [List.mem_singleton.mp hb]
    exact ⟨_, st⟩
  · intro hm
    exact absurd F.ns.lt ((List.mem_singleton.mp hm) ▸ Nat.lt_irrefl _)
  · intro b' hb
    rw [List.mem_singleton.mp hb]
    exact next_is_new F
  · intro p hp hI
    exact absurd (Heap.lt_size (N p hp).1) ((List.mem_singleton.mp hI) ▸ Nat.lt_irrefl _)
  · rintro i v m₁ nx h tk own hi ⟨t, rfl⟩ hoff hJ F₁ N₁
    exact turn i t m₁ nx h tk own hi hoff hJ F₁ N₁
  · intro m₁ nx h tk hJ F₁ N₁
    exact done m₁ nx h tk hJ F₁ N₁
end

section
variable {prog : Program} {w : World} {A : Around} {E : Value → Shared → Prop} {s : Shared}
theorem item_bytes_arr {b : Array UInt8} {i : Int} {t ui : Tok} {value slice : PySem.Expr} {Q : Value → Shared → Prop} (hz : b.size ≤ 1000000) (h0 : 0 ≤ i) (h1 : i < (b.size : Int))
    (h : Q (.int ((b.toList.getD i.toNat 0).toNat : Int) s.toks) { s with toks := s.toks + 1 })
    (hs : subscripted slice false (.bytes b t) (.int i ui) = operate [.bytes b t, .int i ui] (getItem (.bytes b t) (.int i ui)) := by with_unfolding_all rfl)
    (ht : ∀ r, letTemporaryGo value (.bytes b t) r = pure () := by intro _; with_unfolding_all rfl) :
    wpAny (model prog w) A (subscriptTail value slice (.bytes b t) (.int i ui)) Q E s := by
  obtain ⟨l⟩ := b
  exact KBy.item_N (by simp only [List.size_toArray] at hz; omega) h0 h1 h hs ht
end
/-- a goal that the walk is to leave alone -/
def Stop (P : Prop) : Prop := P
theorem Stop.go {P : Prop} (h : Stop P) : P := h
theorem Stop.of {P : Prop} (h : P) : Stop P := h

theorem fill_step (n j : Nat) (l : List UInt8) (x : UInt8) (h : j < n) : (List.replicate (n - j) (0 : UInt8) ++ l).toArray.setIfInBounds (n - 1 - j) x = (List.replicate (n - (j + 1)) (0 : UInt8) ++ x :: l).toArray := by
  apply Array.toList_inj.mp
  obtain ⟨k, rfl⟩ : ∃ k, n = j + 1 + k := ⟨n - (j + 1), by omega⟩
  have e1 : j + 1 + k - j = k + 1 := by omega
  have e2 : j + 1 + k - 1 - j = k := by omega
  have e3 : j + 1 + k - (j + 1) = k := by omega
  rw [e1, e2, e3, List.replicate_succ']
  simp
def swapArr (b : Array UInt8) (j : Nat) : Array UInt8 := (List.replicate (b.size - j) (0 : UInt8) ++ (b.toList.take j).reverse).toArray
theorem swapArr_size {b : Array UInt8} {j : Nat} (h : j ≤ b.size) : (swapArr b j).size = b.size := by
  simp only [swapArr, List.size_toArray, List.length_append, List.length_replicate, List.length_reverse, List.length_take, Array.length_toList]
  omega
theorem swapArr_step {b : Array UInt8} {j : Nat} {i : Nat} {v : Nat} (h : j < b.size) (hi : i = b.size - 1 - j) (hv : v = (b.toList.getD j 0).toNat) : (swapArr b j).setIfInBounds i v.toUInt8 = swapArr b (j + 1) := by
  subst hi hv
  unfold swapArr
  rw [fill_step _ _ _ _ h]
  have e : b.toList[j]? = some (b.toList.getD j 0) := by
    rw [List.getD_eq_getElem?_getD, List.getElem?_eq_getElem (by simpa using h)]; rfl
  rw [List.take_add_one, e]
  simp
theorem swapArr_zero (b : Array UInt8) : swapArr b 0 = Array.replicate b.size 0 := by simp [swapArr]
theorem swapArr_all (b : Array UInt8) : swapArr b b.size = b.reverse := by
  apply Array.toList_inj.mp
  have e : List.take b.size b.toList = b.toList := by rw [← Array.length_toList]; exact List.take_length
  simp [swapArr, e]
end Mine

end
theorem Mine.calmSwapL : True ∧ True := by
  w_top off
  first | (walk1; all_goals trivial) | exact ⟨trivial, trivial⟩

section
open PySem PySem.W PyProof.Rows
set_option Elab.async false
namespace Mine
local macro_rules | `(tactic| walk_at "pyIter ref") => `(tactic| (k_here; refine Stop.go ?_))
def swapM (D : Addr) (b : Array UInt8) (t u : Tok) (y : PySem.Str) : Option Value :=
  if y = PySem.Str.ofString "swapped_data" then some (Value.ref D) else List.lookup y [(PySem.Str.ofString "width", Value.int (b.size : Int) u), (PySem.Str.ofString "data", Value.bytes b t)]
def SwapJ (D : Addr) (news : List (Addr × Obj)) (b : Array UInt8) (t u : Tok) (i : Nat) (m₁ : PySem.Str → Option Value) (nx : List (Addr × Obj)) : Prop :=
  ∃ arr, nx = (D, baOf arr) :: news ∧ (i = 0 → arr = Array.replicate b.size 0) ∧ (i ≠ 0 → arr = b.reverse) ∧ ∀ z, z ≠ PySem.Str.ofString "i" → z ≠ PySem.Str.ofString "j" → m₁ z = swapM D b t u z
def SwapI (D : Addr) (rest : List (Addr × Obj)) (b : Array UInt8) (t u ti : Tok) (j : Nat) (m₁ : PySem.Str → Option Value) (nx : List (Addr × Obj)) : Prop :=
  nx = (D, baOf (swapArr b j)) :: rest ∧ ∀ z, z ≠ PySem.Str.ofString "j" → m₁ z = if z = PySem.Str.ofString "i" then some (Value.int 0 ti) else swapM D b t u z
set_option maxRecDepth 100000 in
theorem rangeOne {n : Nat} (h0 : 0 < n) (hn : n ≤ 1000) : Builtin.Range.small 0 (n : Int) (n : Int) = true ∧ Builtin.Range.rangeSize 0 (n : Int) (n : Int) = ((1 : Nat) : Int) := by
  have h : Builtin.Range.rangeSize 0 (n : Int) (n : Int) = ((1 : Nat) : Int) := by
    unfold Builtin.Range.rangeSize
    rw [if_pos (by omega)]
    rw [if_pos (by omega), Int.ediv_eq_zero_of_lt (by omega) (by omega)]
    rfl
  refine ⟨?_, h⟩
  unfold Builtin.Range.small
  rw [h]
  obtain ⟨c, hc⟩ : ∃ c : Int, c = (n : Int) := ⟨_, rfl⟩
  rw [← hc]
  have h1 : 0 < c ∧ c ≤ 1000 := by omega
  clear hc h
  obtain ⟨h1, h2⟩ := h1
  simp only [Builtin.Range.rangeFitsLong, Bool.and_eq_true, Bool.or_eq_true, decide_eq_true_eq, beq_iff_eq, show c > 0 by omega, if_true]
  have k1 : (-2 ^ 63 : Int) ≤ 0 := by decide
  have k2 : (1000000 : Int) < 2 ^ 63 := by decide
  refine ⟨⟨⟨⟨⟨k1, ?_⟩, ?_, ?_⟩, ?_, ?_⟩, ?_, ?_⟩, .inr ⟨?_, ?_⟩⟩ <;> first | exact Int.lt_of_le_of_lt (by omega) k2 | exact Int.le_trans k1 (by omega)
theorem rangeUp {n : Nat} (hn : n ≤ 1000) : Builtin.Range.small 0 (n : Int) 1 = true ∧ Builtin.Range.rangeSize 0 (n : Int) 1 = ((n : Nat) : Int) := by
  have h : Builtin.Range.rangeSize 0 (n : Int) 1 = ((n : Nat) : Int) := by
    rw [PySem.rangeSize_one]; split <;> omega
  exact ⟨PySem.small_one (by decide) (by decide) (by omega) (by omega), h⟩
set_option maxRecDepth 100000 in
set_option maxHeartbeats 8000000 in
theorem swap_ct (w : World) (b : Array UInt8) (t u : Tok) (h0 : 0 < b.size) (hb : b.size ≤ 255) : CTN w 21 10 200 [.bytes b t, .int (b.size : Int) u] (fun tl r => ∃ t', r = .bytes b.reverse t') := by
  unfold CTN; k_fill
  intro mean mg mb dp un gd cn cs a ccd cl outer A₀ base h₀ L m news s Q E B F X N T hk hd hu hret
  refine wpN_call ?_
  k_dflt (refine' codeN_def ?k1 ?k2 ?k3 ?k4 ?k5 ?kA ?kF ?kK ?k6 ?k7 ?k8 ?k9 ?kB ?_ ?c2 ?c3 ?c4 ?c5; (case kA => exact rfl); (case kF => exact rfl); (case kK => assumption); (case k1 => k_asm); (case k2 => k_asm); (case k3 => k_asm); (case k4 => k_asm); (case k5 => k_asm); (case k6 => k_is); (case k7 => k_is); (case k8 => ktr_room); (case k9 => exact PySem.BindsTo.of_eq rfl); (case c5 => decide); (case kB => exact locs rfl); (case c2 => exact rfl); (case c3 => exact rfl); (case c4 => exact rfl); k_whole; intro g' L' h' FG' F' N' B' X' T'; (try dsimp only); (try k_lift B'); (try k_fold))
  refine wpN_execs_cons (wpN_Assign_Name (wpN_Call_Name1 ?_))
  k_steps
  rename Fr g' _ _ _ => kF
  have kF' : Fr g' L' h' (fun y => List.lookup y [(PySem.Str.ofString "width", Value.int (b.size : Int) u), (PySem.Str.ofString "data", Value.bytes b t)]) := kF
  clear kF
  refine callWithN_type rfl (evalArgsN_one (wpN_of ?_))
  k_fold
  k_steps
  refine ba_call_K kF' N' (Int.natCast_nonneg _) (by rw [Int.toNat_natCast, sizeLine_eq]; omega) ?_
  intro D h1 F1 N1 hlt
  clear kF' N'
  rw [Int.toNat_natCast] at N1
  dsimp only
  k_fold
  k_steps
  refine wpN_of ?_
  k_fold
  k_steps
  refine Stop.of ?_
  rename IsRange _ _ _ _ _ _ _ _ => hR
  rename Fr g' L' _ _ => F2
  rename News g' L' _ _ => N2
  refine range_loop (n := 1) (SwapJ D news b t u) (by rfl) hR ?_ ?_ F2 N2 ⟨_, rfl, fun _ => rfl, fun h => absurd rfl h, fun _ _ _ => rfl⟩ ?_ ?_
  · exact (rangeOne h0 (by omega)).1
  · exact (rangeOne h0 (by omega)).2
  · rintro i ti m₁ nx h tk own hi hoff ⟨arr, rfl, harr, _, hm⟩ F₁ N₁
    obtain rfl : i = 0 := by omega
    obtain rfl := harr rfl
    clear harr F2 N2 hR
    have e1 : (fun y => if y = PySem.Str.ofString "i" then some (Value.int (0 + ((0 : Nat) : Int) * (b.size : Int)) ti) else m₁ y) = fun y => if y = PySem.Str.ofString "i" then some (Value.int 0 ti) else if y = PySem.Str.ofString "j" then m₁ (PySem.Str.ofString "j") else if y = PySem.Str.ofString "swapped_data" then some (Value.ref D) else List.lookup y [(PySem.Str.ofString "width", Value.int (b.size : Int) u), (PySem.Str.ofString "data", Value.bytes b t)] := by
      funext y
      by_cases h : y = PySem.Str.ofString "i"
      · simp [h]
      · simp only [if_neg h]
        by_cases h2 : y = PySem.Str.ofString "j"
        · simp [h2]
        · simp only [if_neg h2]; rw [hm y h h2]; rfl
    rw [e1] at F₁
    clear e1 hm
    dsimp only [envOf]
    k_steps
    refine Stop.of ?_
    rename IsRange _ _ _ _ _ _ _ _ => hR
    rename Fr g' _ _ _ => F3
    rename News g' _ _ _ => N3
    refine range_loop (n := b.size) (SwapI D (news ++ own) b t u ti) (by rfl) hR ?_ ?_ F3 N3 ⟨?_, ?_⟩ ?_ ?_
    · exact (rangeUp (by omega)).1
    · exact (rangeUp (by omega)).2
    · rw [swapArr_zero]; rfl
    · intro z hz
      show (if z = PySem.Str.ofString "i" then _ else if z = PySem.Str.ofString "j" then _ else _) = _
      rw [if_neg hz]; rfl
    · rintro j tj m₂ nx2 h2 tk2 own2 hj hoff2 ⟨rfl, hm2⟩ F₄ N₄
      clear F3 N3 hR
      have e2 : (fun y => if y = PySem.Str.ofString "j" then some (Value.int (0 + (j : Int) * 1) tj) else m₂ y) = fun y => if y = PySem.Str.ofString "j" then some (Value.int (j : Int) tj) else if y = PySem.Str.ofString "i" then some (Value.int 0 ti) else if y = PySem.Str.ofString "swapped_data" then some (Value.ref D) else List.lookup y [(PySem.Str.ofString "width", Value.int (b.size : Int) u), (PySem.Str.ofString "data", Value.bytes b t)] := by
        funext y
        by_cases h : y = PySem.Str.ofString "j"
        · simp [h]
        · simp only [if_neg h]; rw [hm2 y h]; rfl
      rw [e2] at F₄
      clear e2 hm2
      dsimp only
      k_steps
      refine item_bytes_arr (by omega) (by omega) (by omega) ?_
      k_steps
      have hd9 := (b.toList.getD (0 + (j : Int)).toNat 0).toNat_lt
      refine ba_set_K F₄ N₄ (List.mem_cons_self ..) (by omega) (by rw [swapArr_size (Nat.le_of_lt hj)]; omega) (by omega) (by omega) (by rw [swapArr_size (Nat.le_of_lt hj)]; omega) ?_
      intro h5 F5 T5
      rw [Int.toNat_natCast, swapArr_step hj (by omega) (by rw [show (0 + (j : Int)).toNat = j by omega])] at T5
      k_steps
      refine InvEndG.intro F5 (T5 ((D, baOf (swapArr b (j + 1))) :: (news ++ own) ++ own2) ?_) ⟨rfl, ?_⟩ hoff2 (fun p hp => List.mem_append.mpr (.inl hp)) fun p hp => List.mem_append.mpr (.inr hp)
      · intro p hp
        simp only [List.cons_append, List.mem_cons, List.mem_append] at hp
        rcases hp with rfl | (hp | hp) | hp
        · exact .inl rfl
        · exact .inr ⟨by simp [hp], Nat.ne_of_lt (hlt p hp)⟩
        · exact .inr ⟨by simp [hp], hoff p hp D (by simp)⟩
        · exact .inr ⟨by simp [hp], hoff2 p hp D (by simp)⟩
      · intro z hz
        simp only [if_neg hz]; rfl
    · rintro m₂ nx2 h2 tk2 ⟨rfl, hm2⟩ F₄ N₄
      clear F3 N3 hR
      rw [swapArr_all] at N₄
      k_steps
      refine InvEndG.intro F₄ N₄ ⟨b.reverse, rfl, fun h => absurd h (by decide), fun _ => rfl, ?_⟩ hoff (fun p hp => ?_) fun p hp => ?_
      · intro z h1 h2
        rw [hm2 z h2, if_neg h1]
      · rcases List.mem_cons.mp hp with rfl | hp
        · exact List.mem_cons_self ..
        · exact List.mem_cons_of_mem _ (List.mem_append.mpr (.inl hp))
      · exact List.mem_cons_of_mem _ (List.mem_append.mpr (.inr hp))
  · rintro m₁ nx h tk ⟨arr, rfl, _, harr, hm⟩ F₁ N₁
    obtain rfl := harr (by decide)
    clear harr F2 N2 hR
    have e1 : m₁ = fun y => if y = PySem.Str.ofString "i" then m₁ (PySem.Str.ofString "i") else if y = PySem.Str.ofString "j" then m₁ (PySem.Str.ofString "j") else if y = PySem.Str.ofString "swapped_data" then some (Value.ref D) else List.lookup y [(PySem.Str.ofString "width", Value.int (b.size : Int) u), (PySem.Str.ofString "data", Value.bytes b t)] := by
      funext y
      by_cases h : y = PySem.Str.ofString "i"
      · simp [h]
      · simp only [if_neg h]
        by_cases h2 : y = PySem.Str.ofString "j"
        · simp [h2]
        · simp only [if_neg h2]; rw [hm y h h2]; rfl
    rw [e1] at F₁
    clear e1 hm
    dsimp only [envOf]
    k_steps
    refine ba_bytes_K N₁ (List.mem_cons_self ..) (by rw [Array.size_reverse]; omega) ?_
    intro t9 k9
    k_steps

    rename News h₀ L _ _ => kN
    exact hret _ [] _ _ (by assumption) (news_sub kN _ (by intro p hp; simp only [List.append_nil] at hp; simp [hp])) ⟨t9, rfl⟩
end Mine

end
theorem Mine.calmTSwap : True ∧ True := by
  w_top off
  first | (walk1; all_goals trivial) | exact ⟨trivial, trivial⟩

section
open PySem PySem.W PyProof.Rows
set_option Elab.async false
namespace Mine
open PySem.Calls PyProof.V PySem.Spec PyProof.Rows.LCg
section
variable {prog : Program} {w : World} {A : Around} {s : Shared} {env : Env} {h₀ : Heap} {x : PySem.Str} {body : List Stmt}

def LoopN (prog : Program) (w : World) (A : Around) (h₀ : Heap) (env : Env) (x : PySem.Str) (body : List Stmt) (Q : Flow → Shared → Prop) (xv : Value) (s₁ : Shared) : Prop :=
  ∃ (r : Addr) (a b c : Int) (t u v : Tok) (n : Nat) (m₀ : PySem.Str → Option Value) (news : List (Addr × Obj)) (J : Nat → (PySem.Str → Option Value) → List (Addr × Obj) → Prop), xv = .ref r ∧ A.handled = none ∧ IsRange s₁.heap r a b c t u v ∧ Builtin.Range.small a b c = true ∧ Builtin.Range.rangeSize a b c = ((n : Nat) : Int) ∧ Fr h₀ env.locals s₁.heap m₀ ∧ News h₀ env.locals s₁.heap news ∧
    J 0 m₀ news ∧
    (∀ (i : Nat) (t : Tok) (m₁ : PySem.Str → Option Value) (nx : List (Addr × Obj)) (h : Heap) (tk : Nat) (own : List (Addr × Obj)), i < n → OwnOff own (nx.map (·.1)) → J i m₁ nx →
      Fr h₀ env.locals h (fun y => if y = x then some (.int (a + (i : Int) * c) t) else m₁ y) → News h₀ env.locals h (nx ++ own) →
      wpN (model prog w) A (execs body env) (InvPostG h₀ env.locals (J (i + 1)) own { s₁ with heap := h, toks := tk } Q) (fun _ _ => False) { s₁ with heap := h, toks := tk }) ∧
    ∀ m₁ nx h tk, J n m₁ nx → Fr h₀ env.locals h m₁ → News h₀ env.locals h nx → Q .next { s₁ with heap := h, toks := tk }

theorem LoopN.intro {Q : Flow → Shared → Prop} {s₁ : Shared} {r : Addr} {a b c : Int} {t u v : Tok} {n : Nat} {m₀ : PySem.Str → Option Value} {news : List (Addr × Obj)} (J : Nat → (PySem.Str → Option Value) → List (Addr × Obj) → Prop)
    (hh : A.handled = none) (hr : IsRange s₁.heap r a b c t u v) (hsm : Builtin.Range.small a b c = true) (hn : Builtin.Range.rangeSize a b c = ((n : Nat) : Int))
    (F : Fr h₀ env.locals s₁.heap m₀) (N : News h₀ env.locals s₁.heap news) (hj : J 0 m₀ news)
    (turn : ∀ i t m₁ nx h tk own, i < n → OwnOff own (nx.map (·.1)) → J i m₁ nx →
      Fr h₀ env.locals h (fun y => if y = x then some (.int (a + (i : Int) * c) t) else m₁ y) → News h₀ env.locals h (nx ++ own) →
      wpN (model prog w) A (execs body env) (InvPostG h₀ env.locals (J (i + 1)) own { s₁ with heap := h, toks := tk } Q) (fun _ _ => False) { s₁ with heap := h, toks := tk })
    (done : ∀ m₁ nx h tk, J n m₁ nx → Fr h₀ env.locals h m₁ → News h₀ env.locals h nx → Q .next { s₁ with heap := h, toks := tk }) :
    LoopN prog w A h₀ env x body Q (.ref r) s₁ := ⟨r, a, b, c, t, u, v, n, m₀, news, J, rfl, hh, hr, hsm, hn, F, N, hj, turn, done⟩

theorem forLoopN {R : Result → Shared → Prop} {px : Pos} {I : Addr} {n : Nat} {a c : Int} {m : PySem.Str → Option Value} {news : List (Addr × Obj)} (hh : A.handled = none) (hx : env.kindOf x = some .local)
    (hp : (env.scope.kind == .class || (env.scope.kind == .module && env.locals != env.globals)) = false)
    (hLI : env.locals ≠ I) (hI : h₀.get? I = none) (hnw : ∀ p ∈ news, p.1 ≠ I) (hst : IsRangeIter s.heap I (a + ((0 : Nat) : Nat) * c) ((n : Int) - (0 : Nat)) c) (F : Fr h₀ env.locals s.heap m) (N : News h₀ env.locals s.heap news)
    (J : Nat → (PySem.Str → Option Value) → List (Addr × Obj) → Prop) (h0 : J 0 m news)
    (step : ∀ i t m₁ nx h tk own, i < n → OwnOff own (nx.map (·.1)) → J i m₁ nx →
      Fr h₀ env.locals h (fun y => if y = x then some (.int (a + (i : Int) * c) t) else m₁ y) → News h₀ env.locals h (nx ++ own) →
      wpN (model prog w) A (execs body env) (InvPostG h₀ env.locals (J (i + 1)) own { s with heap := h, toks := tk } fun f s' => R (.ok f) s') (fun _ _ => False) { s with heap := h, toks := tk })
    (hR : ∀ m₁ nx h tk, J n m₁ nx → Fr h₀ env.locals h m₁ → News h₀ env.locals h nx → R (.ok .next) { s with heap := h, toks := tk }) :
    codeN (model prog w) A (.forLoop (.Name x px) (.ref I) body [] env) R s := by
  have W := step_walks (prog := prog) (w := w) (A := A) (I := I) hh a c n
  refine codeN_forLoop
    (fun k s' => ∃ h' tk m' news' i, s' = { s with heap := h', toks := tk } ∧ IsRangeIter h' I (a + ((i : Nat) : Nat) * c) ((n : Int) - (i : Nat)) c ∧ Fr h₀ env.locals h' m' ∧ News h₀ env.locals h' news' ∧ (∀ p ∈ news', p.1 ≠ I) ∧ J i m' news' ∧ i ≤ n ∧ k = n + 1 - i) ?_ (n + 1)
    ⟨s.heap, s.toks, m, news, 0, rfl, hst, F, N, hnw, h0, Nat.zero_le _, rfl⟩
  rintro k s' ⟨h', tk, m', news', i, rfl, hst', F', N', hnw', hJ, hi, rfl⟩
  have next : ∀ h₁ : Heap, (∀ b o, b ∉ [I] → h'.get? b = some o → h₁.get? b = some o) → Fr h₀ env.locals h₁ m' ∧ News h₀ env.locals h₁ news' := fun h₁ hk₁ =>
    ⟨⟨F'.ns.at' fun o e => hk₁ _ o (fun q => hLI (List.mem_singleton.mp q)) e, fun b o e => hk₁ b o (fun q => by rw [List.mem_singleton.mp q, hI] at e; cases e) (F'.keep b o e), F'.above⟩,
      fun p hp => ⟨hk₁ _ _ (fun q => hnw' p hp (List.mem_singleton.mp q)) (N' p hp).1, (N' p hp).2⟩⟩
  by_cases hlt : i < n
  · refine W.item i _ _ _ hlt hst' fun v h₁ tk₁ hP hst₁ hk₁ => ?_
    obtain ⟨t, rfl⟩ := hP
    obtain ⟨F₁, N₁⟩ := next h₁ hk₁
    refine wpAny_assign_Name (wpAny_storeName_local hx F₁.ns (fun h₂ hn₂ hs₂ => ?_) hp)
    have F₂ := F₁.set hn₂ hs₂
    have hst₂ : IsRangeIter h₂ I (a + (((i + 1 : Nat)) : Nat) * c) ((n : Int) - ((i + 1 : Nat))) c := W.frame _ _ _ hst₁ fun b hb o e => (hs₂.2 b fun q => hLI (by rw [← q]; exact List.mem_singleton.mp hb)).trans e
    obtain ⟨ob, hob⟩ : ∃ ob, h₂.get? I = some ob := ⟨_, hst₂⟩
    have Nown : News h₀ env.locals h₂ (news' ++ [(I, ob)]) := by
      intro p hp
      rcases List.mem_append.mp hp with hp | hp
      · exact (N₁.set hs₂) p hp
      · rw [List.mem_singleton.mp hp]
        exact ⟨hob, Ne.symm hLI, hI⟩
    refine wpN_mono (step i t m' news' h₂ _ [(I, ob)] hlt (by
      intro p hp b hb
      rw [List.mem_singleton.mp hp]
      obtain ⟨q, hq, rfl⟩ := List.mem_map.mp hb
      exact Ne.symm (hnw' q hq)) hJ F₂ Nown) (fun f s₃ h₃ => ?_) fun _ _ e => e.elim
    have fin : InvEndG h₀ env.locals (J (i + 1)) [(I, ob)] { s with heap := h₂, toks := tk₁ + 1 } s₃ → ∃ m, m < n + 1 - i ∧ ∃ h' tk m' news' i, s₃ = { s with heap := h', toks := tk } ∧ IsRangeIter h' I (a + ((i : Nat) : Nat) * c) ((n : Int) - (i : Nat)) c ∧ Fr h₀ env.locals h' m' ∧ News h₀ env.locals h' news' ∧ (∀ p ∈ news', p.1 ≠ I) ∧ J i m' news' ∧ i ≤ n ∧ m = n + 1 - i := by
      rintro ⟨hq, tk₃, m₃, news₃, nx, rfl, F₃, N₃, hn₃, ho₃, hoff, hJ₃⟩
      refine ⟨n + 1 - (i + 1), by omega, hq, tk₃, m₃, nx, i + 1, rfl, ?_, F₃, fun p hp => N₃ p (hn₃ p hp), ?_, hJ₃, hlt, rfl⟩
      · have e1 := (N₃ _ (ho₃ _ (List.mem_singleton.mpr rfl))).1
        show hq.get? I = some _
        rw [e1, ← hob]
        exact hst₂
      · intro p hp
        exact Ne.symm (hoff _ (List.mem_singleton.mpr rfl) p.1 (List.mem_map.mpr ⟨p, hp, rfl⟩))
    cases f with
    | ret v => exact h₃
    | brk => exact h₃
    | cont => exact fin h₃
    | next => exact fin h₃
  · have hin : i = n := by omega
    subst hin
    refine W.done _ _ _ hst' fun h₁ tk₁ hk₁ => wpAny_execs_nil ?_
    obtain ⟨F₁, N₁⟩ := next h₁ hk₁
    exact hR m' news' h₁ tk₁ hJ F₁ N₁

theorem For_N {Q : Flow → Shared → Prop} {px pos : Pos} {iter : PySem.Expr} (h₀ : Heap) (hx : env.kindOf x = some .local)
    (hp : (env.scope.kind == .class || (env.scope.kind == .module && env.locals != env.globals)) = false)
    (h : wpAny (model prog w) A (eval iter env) (fun xv s₁ => LoopN prog w A h₀ env x body Q xv s₁) (fun _ _ => False) s)
    (hs : ∀ x, foldedSetIterable iter env x = pure x := by intro _; rfl) :
    wpN (model prog w) A (exec (.For (.Name x px) iter body [] pos) env) Q (fun _ _ => False) s := by
  refine wpN_For (wpAny_mono h (fun xv s₁ h₁ => ?_) fun _ _ e => e) hs
  obtain ⟨r, a, b, c, t, u, v, n, m₀, news, J, rfl, hh, hr, hsm, hn, F, N, hj, turn, done⟩ := h₁
  refine wpAny_pyIter_range hr hsm ?_
  refine forLoopN (R := fun r s' => match r with | .ok f => Q f s' | .error e => cameBackBy (model prog w) A env (fun _ _ => False) e s') hh hx hp (Nat.ne_of_lt F.ns.lt) (next_is_new F) (fun p hp => Nat.ne_of_lt (Heap.lt_size (N p hp).1))
    (by show IsRangeIter _ _ _ _ _; rw [hn]; simpa using Heap.get?_push_size _ rfl) (F.keeps fun _ _ e => Heap.get?_push_of_some _ e) (N.grown fun _ _ e => Heap.get?_push_of_some _ e) J hj ?_ ?_
  · intro i t m₁ nx h tk own hi ho hJ F₁ N₁
    exact turn i t m₁ nx h tk own hi ho hJ F₁ N₁
  · intro m₁ nx h tk hJ F₁ N₁
    exact done m₁ nx h tk hJ F₁ N₁
end
end Mine

end
theorem Mine.calmNFor : True ∧ True := by
  w_top off
  first | (walk1; all_goals trivial) | exact ⟨trivial, trivial⟩

section
open PySem PySem.W PyProof.Rows
set_option Elab.async false
namespace Mine
def unrun (rs : List (Nat × UInt8)) : List UInt8 := rs.flatMap fun p => List.replicate p.1 p.2
theorem unrun_append (a b : List (Nat × UInt8)) : unrun (a ++ b) = unrun a ++ unrun b := List.flatMap_append ..
theorem unrun_one (n : Nat) (d : UInt8) : unrun [(n, d)] = List.replicate n d := by simp [unrun]
theorem unrun_rstep (acc : List (Nat × UInt8)) (c : UInt8) : unrun (rstep acc c) = unrun acc ++ [c] := by
  rcases List.eq_nil_or_concat acc with rfl | ⟨rs, ⟨n, d⟩, rfl⟩
  · rfl
  · rw [List.concat_eq_append]
    by_cases h : d = c
    · subst h
      rw [rstep_eq, unrun_append, unrun_append, unrun_one, unrun_one, List.replicate_succ', List.append_assoc]
    · rw [rstep_ne _ _ h, unrun_append _ [(1, c)], unrun_one]; rfl
theorem unrun_foldl : ∀ (l : List UInt8) (acc : List (Nat × UInt8)), unrun (l.foldl rstep acc) = unrun acc ++ l
  | [], acc => by simp
  | c :: l, acc => by rw [List.foldl_cons, unrun_foldl l, unrun_rstep, List.append_assoc]; rfl
theorem unrun_runs (l : List UInt8) : unrun (runs l) = l := by
  unfold runs; rw [unrun_foldl]; rfl

noncomputable def altFrom : Option UInt8 → List (Nat × UInt8) → Prop
  | _, [] => True
  | o, (n, d) :: rs => o ≠ some d ∧ 1 ≤ n ∧ altFrom (some d) rs
def lastD (o : Option UInt8) (rs : List (Nat × UInt8)) : Option UInt8 := rs.foldl (fun _ p => some p.2) o
theorem lastD_snoc (o : Option UInt8) (rs : List (Nat × UInt8)) (p : Nat × UInt8) : lastD o (rs ++ [p]) = some p.2 := by simp [lastD]
theorem alt_append : ∀ (o : Option UInt8) (a b : List (Nat × UInt8)), altFrom o (a ++ b) ↔ altFrom o a ∧ altFrom (lastD o a) b
  | o, [], b => by simp [altFrom, lastD]
  | o, (n, d) :: a, b => by
    have := alt_append (some d) a b
    simp only [List.cons_append, altFrom, this, lastD, List.foldl_cons]
    simp only [and_assoc]
theorem alt_weaken : ∀ {o : Option UInt8} {rs : List (Nat × UInt8)}, altFrom o rs → altFrom none rs
  | _, [], _ => trivial
  | _, (_, _) :: _, h => ⟨by simp, h.2⟩
theorem alt_rstep {acc : List (Nat × UInt8)} (h : altFrom none acc) (c : UInt8) : altFrom none (rstep acc c) := by
  rcases List.eq_nil_or_concat acc with rfl | ⟨rs, ⟨n, d⟩, rfl⟩
  · exact ⟨by simp, Nat.le_refl _, trivial⟩
  · rw [List.concat_eq_append] at h ⊢
    by_cases hd : d = c
    · subst hd
      rw [rstep_eq]
      rw [alt_append] at h ⊢
      exact ⟨h.1, h.2.1, by omega, trivial⟩
    · rw [rstep_ne _ _ hd, alt_append]
      refine ⟨h, ?_, Nat.le_refl _, trivial⟩
      rw [lastD_snoc]
      simpa using hd
theorem alt_foldl : ∀ (l : List UInt8) {acc : List (Nat × UInt8)}, altFrom none acc → altFrom none (l.foldl rstep acc)
  | [], _, h => h
  | c :: l, _, h => alt_foldl l (alt_rstep h c)
theorem alt_runs (l : List UInt8) : altFrom none (runs l) := alt_foldl l trivial

theorem foldl_same (d : UInt8) (rs : List (Nat × UInt8)) : ∀ (k m : Nat), (List.replicate k d).foldl rstep (rs ++ [(m, d)]) = rs ++ [(m + k, d)]
  | 0, m => rfl
  | k + 1, m => by
    rw [List.replicate_succ, List.foldl_cons, rstep_eq, foldl_same d rs k (m + 1)]
    congr 3; omega
theorem foldl_fresh {acc : List (Nat × UInt8)} {d : UInt8} {n : Nat} (h : lastD none acc ≠ some d) (hn : 1 ≤ n) : (List.replicate n d).foldl rstep acc = acc ++ [(n, d)] := by
  obtain ⟨k, rfl⟩ : ∃ k, n = k + 1 := ⟨n - 1, by omega⟩
  rw [List.replicate_succ, List.foldl_cons]
  have e : rstep acc d = acc ++ [(1, d)] := by
    rcases List.eq_nil_or_concat acc with rfl | ⟨rs, ⟨m, c⟩, rfl⟩
    · rfl
    · rw [List.concat_eq_append] at h ⊢
      rw [lastD_snoc] at h
      exact rstep_ne _ _ (by simpa using h)
  rw [e, foldl_same]
  congr 3; omega
theorem foldl_unrun : ∀ (rs acc : List (Nat × UInt8)), altFrom (lastD none acc) rs → (unrun rs).foldl rstep acc = acc ++ rs
  | [], acc, _ => by simp [unrun]
  | (n, d) :: rs, acc, h => by
    show (List.replicate n d ++ unrun rs).foldl rstep acc = _
    rw [List.foldl_append, foldl_fresh h.1 h.2.1, foldl_unrun rs _ (by rw [lastD_snoc]; exact h.2.2), List.append_assoc]; rfl
theorem runs_unrun {rs : List (Nat × UInt8)} (h : altFrom none rs) : runs (unrun rs) = rs := by
  unfold runs; rw [foldl_unrun rs [] h]; rfl
theorem unrun_reverse : ∀ rs : List (Nat × UInt8), unrun rs.reverse = (unrun rs).reverse
  | [] => rfl
  | (n, d) :: rs => by
    rw [List.reverse_cons, unrun_append, unrun_one, unrun_reverse rs]
    show _ = (List.replicate n d ++ unrun rs).reverse
    rw [List.reverse_append, List.reverse_replicate]
theorem alt_reverse : ∀ {rs : List (Nat × UInt8)}, altFrom none rs → altFrom none rs.reverse
  | [], _ => trivial
  | (n, d) :: rs, h => by
    rw [List.reverse_cons, alt_append]
    refine ⟨alt_reverse (alt_weaken h.2.2), ?_, h.2.1, trivial⟩
    cases rs with
    | nil => simp [lastD]
    | cons p rs =>
      rw [List.reverse_cons, lastD_snoc]
      have := h.2.2.1
      simpa using fun e : p.2 = d => this (by rw [e])
theorem runs_reverse (l : List UInt8) : runs l.reverse = (runs l).reverse := by
  have h := runs_unrun (alt_reverse (alt_runs l))
  rw [unrun_reverse, unrun_runs] at h
  exact h
theorem said_reverse (l : List UInt8) : said l.reverse = sfold (runs l).reverse := by unfold said; rw [runs_reverse]

theorem alt_next : ∀ {rs : List (Nat × UInt8)} {o : Option UInt8} {k : Nat} {p q : Nat × UInt8}, altFrom o rs → rs[k]? = some p → rs[k + 1]? = some q → p.2 ≠ q.2
  | [], _, _, _, _, _, h1, _ => by simp at h1
  | (n, d) :: rs, o, 0, p, q, h, h1, h2 => by
    obtain rfl : (n, d) = p := by simpa using h1
    cases rs with
    | nil => simp at h2
    | cons r rs =>
      obtain rfl : r = q := by simpa using h2
      have := h.2.2.1
      exact fun e => this (by rw [← e])
  | (n, d) :: rs, o, k + 1, p, q, h, h1, h2 => alt_next (k := k) h.2.2 (by simpa using h1) (by simpa using h2)
theorem unrun_at : ∀ {rs : List (Nat × UInt8)} {p : Nat × UInt8}, p ∈ rs → ∃ i, ∀ j < p.1, (unrun rs)[i + j]? = some p.2
  | [], _, h => nomatch h
  | (n, d) :: rs, p, h => by
    rcases List.mem_cons.mp h with rfl | h
    · refine ⟨0, fun j hj => ?_⟩
      show (List.replicate n d ++ unrun rs)[0 + j]? = some d
      rw [Nat.zero_add, List.getElem?_append_left (by simpa using hj), List.getElem?_replicate, if_pos hj]
    · obtain ⟨i, hi⟩ := unrun_at h
      refine ⟨n + i, fun j hj => ?_⟩
      show (List.replicate n d ++ unrun rs)[n + i + j]? = some p.2
      rw [List.getElem?_append_right (by simp; omega), List.length_replicate, show n + i + j - n = i + j by omega]
      exact hi j hj
theorem sfold_at {rs : List (Nat × UInt8)} {i : Nat} {x : UInt8} (h : (sfold rs)[2 * i + 1]? = some x) : ∃ n, rs[i]? = some (n, x) := by
  have hlen := sfold_length rs
  have hi : 2 * i + 1 < (sfold rs).length := (List.getElem?_eq_some_iff.mp h).1
  have hi' : i < rs.length := by omega
  obtain ⟨⟨n, d⟩, hr⟩ : ∃ p, rs[i]? = some p := ⟨_, List.getElem?_eq_getElem hi'⟩
  obtain ⟨_, g2⟩ := sfold_get hr
  rw [List.getD_eq_getElem?_getD, h] at g2
  exact ⟨n, by rw [hr]; simp at g2; rw [g2]⟩
theorem runs_said_le (l : List UInt8) : ∀ p ∈ runs (said l), p.1 ≤ 3 := by
  intro p hp
  apply Nat.le_of_not_lt
  intro h4
  obtain ⟨i, hi⟩ := unrun_at hp
  rw [unrun_runs] at hi
  obtain ⟨k, hk⟩ : ∃ k, i = 2 * k ∨ i = 2 * k + 1 := ⟨i / 2, by omega⟩
  have h1 : (sfold (runs l))[2 * k + 1]? = some p.2 := by
    rcases hk with rfl | rfl
    · exact hi 1 (by omega)
    · exact hi 0 (by omega)
  have h2 : (sfold (runs l))[2 * (k + 1) + 1]? = some p.2 := by
    rcases hk with rfl | rfl
    · exact hi 3 (by omega)
    · exact hi 2 (by omega)
  obtain ⟨n1, g1⟩ := sfold_at h1
  obtain ⟨n2, g2⟩ := sfold_at h2
  exact alt_next (alt_runs l) g1 g2 rfl
theorem said_length (l : List UInt8) : (said l).length = 2 * (runs l).length := sfold_length _
theorem said_le (l : List UInt8) : (said l).length ≤ 2 * l.length := by have := runs_length l; rw [said_length]; omega
theorem mem_runs_digit {l : List UInt8} {p : Nat × UInt8} (h : p ∈ runs l) : p.2 ∈ l := by
  obtain ⟨i, hi⟩ := unrun_at h
  rw [unrun_runs] at hi
  exact List.mem_of_getElem? (hi 0 (runs_bound l p h).1)
theorem mem_said {l : List UInt8} {x : UInt8} : x ∈ said l ↔ ∃ p ∈ runs l, x = p.1.toUInt8 ∨ x = p.2 := by
  simp [said, sfold]
theorem runs_ne_nil {l : List UInt8} (h : l ≠ []) : runs l ≠ [] := fun e => h (by rw [← unrun_runs l, e]; rfl)
theorem said_ne_nil {l : List UInt8} (h : l ≠ []) : said l ≠ [] := fun e => by
  have h1 := said_length l
  rw [e] at h1
  exact runs_ne_nil h (List.length_eq_zero_iff.mp (by simp only [List.length_nil] at h1; omega))
end Mine

end
theorem Mine.calmPureRuns : True ∧ True := by
  w_top off
  first | (walk1; all_goals trivial) | exact ⟨trivial, trivial⟩

section
open PySem PySem.W PyProof.Rows
set_option Elab.async false
namespace Mine
open PySem.Calls PyProof.V PySem.Spec PyProof.Rows.LCg PyProof.Rows.LCp
section
variable {prog : Program} {w : World} {A : Around} {E : Value → Shared → Prop} {s : Shared} {h₀ : Heap} {L : Addr} {m : PySem.Str → Option Value} {env : Env} {news : List (Addr × Obj)}

/-- the largest octet -/
theorem max_bytes {b : Array UInt8} {t : Tok} {Q : Value → Shared → Prop} (hh : A.handled = none) (F : Fr h₀ L s.heap m) (N : News h₀ L s.heap news) (hne : 0 < b.size)
    (h : ∀ h' (c : UInt8) (u : Tok) tk, Fr h₀ L h' m → News h₀ L h' news → c ∈ b.toList → (∀ d ∈ b.toList, d.toNat ≤ c.toNat) → Q (.int (c.toNat : Int) u) { s with heap := h', toks := tk }) :
    wpAny (model prog w) A (PySem.call (.builtin "max") [.bytes b t]) Q E s := by
  refine call_max_walk (KBw.pyIter_bytes ?_)
  refine ⟨_, _, _, _, _, _, _, rfl, KBw.walks (A := A.in1) hh s.heap.objs.size b t, ⟨_, Heap.get?_push_size _ rfl, rfl, rfl⟩, fun x hx => ?_, hne, CmpOf.ints_gt (fun i => ((b.toList.getD i 0).toNat : Int)) ?_, fun v h' tk hP hk => ?_⟩
  · rw [List.mem_singleton.mp hx, Heap.size_push]; exact Nat.lt_succ_self _
  · rintro i v ⟨c, u, hc, rfl⟩
    refine ⟨u, ?_⟩
    have : b.toList[i]? = some c := by simpa using hc
    rw [List.getD_eq_getElem?_getD, this]; rfl
  · obtain ⟨c, u, hc, rfl⟩ := hP
    obtain ⟨h1, h2⟩ := argBest_gt (fun i => ((b.toList.getD i 0).toNat : Int)) (b.size - 1)
    have hc' : b.toList[argBest (fun i j => decide (((b.toList.getD i 0).toNat : Int) > ((b.toList.getD j 0).toNat : Int))) (b.size - 1)]? = some c := by simpa using hc
    have old : ∀ x o, s.heap.get? x = some o → h'.get? x = some o := fun x o e => hk x o (fun hm => by
      rw [List.mem_singleton.mp hm] at e; exact Nat.lt_irrefl _ (Heap.lt_size e)) (Heap.get?_push_of_some _ e)
    refine h h' c u tk (F.keeps old) (N.grown old) (List.mem_of_getElem? hc') fun d hd => ?_
    obtain ⟨j, hj⟩ := List.getElem?_of_mem hd
    have hjl := (List.getElem?_eq_some_iff.mp hj).1
    have := h2 j (by simp only [Array.length_toList] at hjl; omega)
    rw [List.getD_eq_getElem?_getD, hj, List.getD_eq_getElem?_getD, hc'] at this
    simpa using this
theorem min_bytes {b : Array UInt8} {t : Tok} {Q : Value → Shared → Prop} (hh : A.handled = none) (F : Fr h₀ L s.heap m) (N : News h₀ L s.heap news) (hne : 0 < b.size)
    (h : ∀ h' (c : UInt8) (u : Tok) tk, Fr h₀ L h' m → News h₀ L h' news → c ∈ b.toList → Q (.int (c.toNat : Int) u) { s with heap := h', toks := tk }) :
    wpAny (model prog w) A (PySem.call (.builtin "min") [.bytes b t]) Q E s := by
  refine call_min_walk (KBw.pyIter_bytes ?_)
  refine ⟨_, _, _, _, _, _, _, rfl, KBw.walks (A := A.in1) hh s.heap.objs.size b t, ⟨_, Heap.get?_push_size _ rfl, rfl, rfl⟩, fun x hx => ?_, hne, CmpOf.ints_lt (fun i => ((b.toList.getD i 0).toNat : Int)) ?_, fun v h' tk hP hk => ?_⟩
  · rw [List.mem_singleton.mp hx, Heap.size_push]; exact Nat.lt_succ_self _
  · rintro i v ⟨c, u, hc, rfl⟩
    refine ⟨u, ?_⟩
    have : b.toList[i]? = some c := by simpa using hc
    rw [List.getD_eq_getElem?_getD, this]; rfl
  · obtain ⟨c, u, hc, rfl⟩ := hP
    have hc' : b.toList[argBest (fun i j => decide (((b.toList.getD i 0).toNat : Int) < ((b.toList.getD j 0).toNat : Int))) (b.size - 1)]? = some c := by simpa using hc
    have old : ∀ x o, s.heap.get? x = some o → h'.get? x = some o := fun x o e => hk x o (fun hm => by
      rw [List.mem_singleton.mp hm] at e; exact Nat.lt_irrefl _ (Heap.lt_size e)) (Heap.get?_push_of_some _ e)
    exact h h' c u tk (F.keeps old) (N.grown old) (List.mem_of_getElem? hc')

def rcount (p : Nat × UInt8) : Int := (p.1 : Int)
/-- [many for many, octet in runs] -/
theorem many_turns {px : Pos} {x x₂ : PySem.Str} {scope : Scope} {cl : List (PySem.Str × Addr)} {rs : List (Nat × UInt8)} {fl : Addr} {vs : List Value} {nn : Nat} {tl : List (Addr × Obj)} {s₁ : Shared} {Q : Value → Shared → Prop}
    (hh : A.handled = none) (F : Fr h₀ L s₁.heap m) (N : News h₀ L s₁.heap news) (hm : (fl, W.listOf vs.toArray nn) ∈ news) (hD : DatAll tl vs (rs.map rdat)) (hs : ∀ p ∈ tl, p ∈ news) (hsz : vs.length ≤ 1000)
    (hk : ∀ C, (compEnvC scope cl C env).scope.kind = .function) (hl : ∀ C, (compEnvC scope cl C env).kindOf x = some .local) (hd : (x == PySem.Str.ofString "__debug__") = false)
    (fin : ∀ ys D h tk, IntsAre ys (rs.map rcount) → Fr h₀ L h m → News h₀ L h ((D, lst ys) :: news) → Q (.ref D) { s₁ with heap := h, toks := tk }) :
    SrcLP prog w A h₀ L m env (.Name x px) x x₂ scope cl (fun s₂ => FinE h₀ L m s₂ Q) (.ref fl) s₁ := by
  have hlen := hD.length
  rw [List.length_map] at hlen
  refine SrcLP.ledger hh F N hm (by rw [List.size_toArray, sizeLine_eq]; omega) fun g => ?_
  have key : ∀ k i ys, i + k = vs.length → IntsAre ys ((rs.take i).map rcount) → CompRestP prog w A h₀ L m env (.Name x px) x x₂ scope cl { s₁ with heap := g } (SrcAt h₀ fl vs.toArray) (fun i v => vs.toArray[i]? = some v) (FinE h₀ L m { s₁ with heap := g } Q) k i ys news := by
    intro k
    induction k with
    | zero =>
      intro i ys hi hI
      refine CompRestP.zero fun D h tk F' N' o1 => ?_
      rw [show i = rs.length by omega, List.take_length] at hI
      exact fin ys D h tk hI F' N'
    | succ k ih =>
      intro i ys hi hI
      refine CompRestP.succ fun v hv => ?_
      obtain ⟨T, n, d, t1, t2, kk, hr, rfl, hmem⟩ := rdat_get hD (by simpa using hv)
      refine ⟨T, _, _, _, kk, rfl, hs _ hmem, rfl, rfl, ?_⟩
      intro I oI C oC D m₂ h tk E' hC hx1 hx2 F' N' off ne
      refine ldVarK (hC.ns (N' (C, oC) (by simp)).1) hx1 ?_ (hk C) (hl C) hd
      refine CompEnd.intro F' N' news (fun p hp => hp) off (.inr ⟨_, hm, rfl, _, rfl⟩) (ih (i + 1) _ (by omega) ?_)
      rw [List.take_add_one, hr, List.map_append]
      exact ints_snoc hI _ _
  have := key vs.length 0 [] (by omega) .nil
  simpa using this

theorem max_counts {rs : List (Nat × UInt8)} {M : Int} (hm : M ∈ rs.map rcount) (ha : ∀ a, a ∈ rs.map rcount → a ≤ M) : (M ≤ 3 ↔ ∀ p ∈ rs, p.1 ≤ 3) := by
  constructor
  · intro h p hp
    have := ha _ (List.mem_map.mpr ⟨p, hp, rfl⟩)
    simp only [rcount] at this
    omega
  · intro h
    obtain ⟨p, hp, rfl⟩ := List.mem_map.mp hm
    have := h p hp
    simp only [rcount]
    omega
end
end Mine

end
theorem Mine.calmLawL : True ∧ True := by
  w_top off
  first | (walk1; all_goals trivial) | exact ⟨trivial, trivial⟩

section
open PySem PySem.W PyProof.Rows
set_option Elab.async false
set_option maxRecDepth 100000
namespace Mine
open PySem.Calls PyProof.V PySem.Spec PyProof.Rows.LCg
section
variable {prog : Program} {w : World} {A : Around} {E : Value → Shared → Prop} {s : Shared} {h₀ : Heap} {L : Addr} {m : PySem.Str → Option Value} {env : Env} {news : List (Addr × Obj)}
theorem range_turns {i2 : PySem.Expr} {x1 : PySem.Str} {scope : Scope} {cl : List (PySem.Str × Addr)} {ms : Nat → List Int} {r : Addr} {a b c : Int} {t u v : Tok} {n : Nat} {s₁ : Shared}
    (hh : A.handled = none) (hr : IsRange s₁.heap r a b c t u v) (hsm : Builtin.Range.small a b c = true) (hn : Builtin.Range.rangeSize a b c = ((n : Nat) : Int))
    (inner : TwoInner prog w A env scope cl i2 x1 (fun i v => ∃ t, v = .int (a + (i : Int) * c) t) ms n s₁) :
    ∀ (Q' : Value → Shared → Prop), (∀ fp P St h₂, (∀ b o, s₁.heap.get? b = some o → h₂.get? b = some o) → Walks prog w A s₁.heap.objs.size fp [s₁.heap.objs.size] n P St → St 0 h₂ → (∀ b ∈ fp, b < h₂.objs.size) → s₁.heap.objs.size < h₂.objs.size →
        TwoInner prog w A env scope cl i2 x1 P ms n s₁ → Q' (.ref s₁.heap.objs.size) { s₁ with heap := h₂ }) → wpAny (model prog w) A (pyIter (.ref r)) Q' E s₁ := by
  intro Q' hQ
  refine wpAny_pyIter_range hr hsm (hQ _ _ _ _ (fun b o e => Heap.get?_push_of_some _ e) (step_walks hh a c n) (by show IsRangeIter _ _ _ _ _; rw [hn]; simpa using Heap.get?_push_size _ rfl) ?_ (by rw [Heap.size_push]; exact Nat.lt_succ_self _) inner)
  intro b hb
  rw [List.mem_singleton.mp hb, Heap.size_push]
  exact Nat.lt_succ_self _

def TwoSrc (prog : Program) (w : World) (A : Around) (E : Value → Shared → Prop) (h₀ : Heap) (L : Addr) (m : PySem.Str → Option Value) (env : Env) (scope : Scope) (cl : List (PySem.Str × Addr)) (i2 : PySem.Expr) (x1 : PySem.Str) (Q : Value → Shared → Prop) (xv : Value) (s₁ : Shared) : Prop :=
  ∃ news ms n, Fr h₀ L s₁.heap m ∧ News h₀ L s₁.heap news ∧ (flatMs ms n).length ≤ sizeLine ∧ TwoFin h₀ L m news (flatMs ms n) s₁ Q ∧
      ∀ (Q' : Value → Shared → Prop), (∀ fp P St h₂, (∀ b o, s₁.heap.get? b = some o → h₂.get? b = some o) → Walks prog w A s₁.heap.objs.size fp [s₁.heap.objs.size] n P St → St 0 h₂ → (∀ b ∈ fp, b < h₂.objs.size) → s₁.heap.objs.size < h₂.objs.size →
        TwoInner prog w A env scope cl i2 x1 P ms n s₁ → Q' (.ref s₁.heap.objs.size) { s₁ with heap := h₂ }) → wpAny (model prog w) A (pyIter xv) Q' E s₁
theorem two_any' {i1 i2 : PySem.Expr} {x1 x2 : PySem.Str} {p1 p2 pe : Pos} {scope : Scope} {cl : List (PySem.Str × Addr)} {pos : Pos} {Q : Value → Shared → Prop} (F₀ : Fr h₀ L s.heap m)
    (hclos : closureFor scope env = pure cl) (hcell : ∀ y ∈ scope.names, y.2 ≠ .cell) (hkind : scope.kind = .function)
    (hnames : ∀ y ∈ scope.names, y.2 = .local → scope.names.lookup y.1 = some .local) (hx1 : scope.names.lookup x1 = some .local) (hx : scope.names.lookup x2 = some .local) (hdbg : (x2 == PySem.Str.ofString "__debug__") = false)
    (hs1 : ∀ x, foldedSetIterable i1 env x = pure x) (hs2 : ∀ env' x, foldedSetIterable i2 env' x = pure x)
    (h : wpAny (model prog w) A (eval i1 env) (TwoSrc prog w A E h₀ L m env scope cl i2 x1 Q) E s) :
    wpAny (model prog w) A (eval (two (.Name x2 pe) i1 i2 x1 x2 p1 p2 scope pos) env) Q E s := two_any F₀ hclos hcell hkind hnames hx1 hx hdbg hs1 hs2 h

theorem slice_any {value slice : PySem.Expr} {b : Array UInt8} {t : Tok} {l u : Value} {lo hi : Option Int} {Q : Value → Shared → Prop} (hl : IsPart l lo) (hu : IsPart u hi) (hz : b.size ≤ 16777216)
    (h : ∀ t' k, Q (.bytes (KBy.picked b lo hi) t') { s with heap := s.heap.push { cls := .type "slice", data := .fields #[l, u, .none] }, toks := k })
    (hs : subscripted slice false (.bytes b t) (.ref s.heap.objs.size) = operate [.ref s.heap.objs.size, .bytes b t] (getItem (.bytes b t) (.ref s.heap.objs.size)) := by with_unfolding_all rfl)
    (ht : ∀ r, letTemporaryGo value (.bytes b t) r = pure () := by intro _; with_unfolding_all rfl) :
    wpAny (model prog w) A (subscriptTail value slice (.bytes b t) (.ref s.heap.objs.size)) Q E { s with heap := s.heap.push { cls := .type "slice", data := .fields #[l, u, .none] } } :=
  tail_of_ItemOn ⟨"bytes", _, FB.slot_bytes_getitem.lookup, typeIs_bytes _ _ _, getItem_meets (typeIs_bytes _ _ _) (by decide) FB.slot_bytes_getitem FB.entry_bytes_getitem (FB.args_bytes_getitem_2 _ _) (KBc.meets_slice2 b t _ hl hu)
    ⟨Heap.IsSliceOf.new _ _ _ _, Nat.le_trans (KBc.size_picked_le b lo hi) (by rw [sizeLine_eq]; exact hz), fun t' k => h t' k⟩⟩ hs ht

/-- said[k:k + 2], where said is a captured cell -/
theorem pair_slice {sx kx : PySem.Str} {ps pk pk2 pc pb psl pp : Pos} {kc : Nat} {scope : Scope} {cl : List (PySem.Str × Addr)} {C c : Addr} {m₃ : PySem.Str → Option Value} {b : Array UInt8} {u t : Tok} {k : Int} {Q : Value → Shared → Prop}
    (hc : cl.lookup sx = some c) (hcell : s.heap.IsCell c (some (.bytes b u))) (hn : s.heap.Ns C m₃) (hm : m₃ kx = some (.int k t)) (hz : b.size ≤ 16777216)
    (hk : (compEnvC scope cl C env).scope.kind = .function) (hkk : (compEnvC scope cl C env).kindOf kx = some .local) (hd : (kx == PySem.Str.ofString "__debug__") = false)
    (hsk : (compEnvC scope cl C env).kindOf sx = some .cell) (hsd : (sx == PySem.Str.ofString "__debug__") = false)
    (h : ∀ h' t' tk, (∀ b o, s.heap.get? b = some o → h'.get? b = some o) → Q (.bytes (KBy.picked b (some k) (some (k + 2))) t') { s with heap := h', toks := tk }) :
    wpAny (model prog w) A (eval (.Subscript (.Name sx ps) (.Slice (some (.Name kx pk)) (some (.BinOp (.Name kx pk2) .Add (.Constant (.int 2) kc pc) pb)) none psl) pp) (compEnvC scope cl C env)) Q E s := by
  refine Subscript_ (wpAny_Name (wpAny_loadName_cell hk hsk hc hcell ?_) hsd)
  refine wpAny_Slice (evalPart_some_step (ldVarK hn hm ?_ hk hkk hd))
  refine evalPart_some_step (wpAny_BinOp (ldVarK hn hm (wpAny_Constant_int (wpAny_add_int ?_)) hk hkk hd))
  refine evalPart_none_step ?_
  refine slice_any (s := ⟨_, _, _, _, _⟩) (.int k t) (.int (k + 2) _) hz fun t' kk => ?_
  exact h _ _ _ fun b o e => Heap.get?_push_of_some _ e
end

theorem sfold_drop : ∀ {rs : List (Nat × UInt8)} {j n : Nat} {d : UInt8}, rs[j]? = some (n, d) → ((sfold rs).drop (2 * j)).take 2 = [n.toUInt8, d]
  | [], _, _, _, h => by simp at h
  | p :: rs, 0, n, d, h => by
    obtain rfl : p = (n, d) := by simpa using h
    simp [sfold]
  | p :: rs, j + 1, n, d, h => by
    have := sfold_drop (rs := rs) (j := j) (by simpa using h)
    have e : 2 * (j + 1) = 2 * j + 2 := by omega
    rw [e]
    show (List.drop (2 * j + 2) (p.1.toUInt8 :: p.2 :: sfold rs)).take 2 = _
    simpa using this
theorem pair_ints {rs : List (Nat × UInt8)} {j n : Nat} {d : UInt8} {b : Array UInt8} (hb : b = (sfold rs).toArray) (h : rs[j]? = some (n, d)) (hn : n ≤ 255) (hl : rs.length ≤ 1000) :
    KBw.bInts (KBy.picked b (some (((2 * j : Nat)) : Int)) (some (((2 * j : Nat) : Int) + 2))) = sints (n, d) := by
  have hj : j < rs.length := (List.getElem?_eq_some_iff.mp h).1
  have hlen := sfold_length rs
  have hk : KBw.bInts b = (sfold rs).map fun c => (c.toNat : Int) := by rw [hb, KBw.ints_list]
  rw [KBc.ints_picked hk]
  simp only [Option.elim, List.length_map]
  have e1 : clipAt (sfold rs).length ((2 * j : Nat) : Int) = 2 * j := by
    have := clipAt_cast (sfold rs).length ((2 * j : Nat) : Int)
    rw [if_neg (by omega)] at this
    omega
  have e2 : clipAt (sfold rs).length (((2 * j : Nat) : Int) + 2) = 2 * j + 2 := by
    have := clipAt_cast (sfold rs).length (((2 * j : Nat) : Int) + 2)
    rw [if_neg (by omega)] at this
    omega
  rw [e1, e2, show 2 * j + 2 - 2 * j = 2 by omega, ← List.map_drop, ← List.map_take, sfold_drop h]
  have : n.toUInt8.toNat = n := by
    show n % 256 = n
    omega
  simp [sints, this]
end Mine

end
theorem Mine.calmRevPairs : True ∧ True := by
  w_top off
  first | (walk1; all_goals trivial) | exact ⟨trivial, trivial⟩

section
open PySem PySem.W PySem.Calls PyProof.Rows
set_option Elab.async false
set_option maxRecDepth 100000
namespace Mine
theorem codeN_topC {prog : Program} {w : World} {A : Around} {s : Shared} {K : Frag} {p : Program} {loose : List PySem.Str} {mean : ExcName → Option Value} {mg mb : PySem.Str → Option Value}
    {R : Result → Shared → Prop} {name qual : PySem.Str} {params : PySem.Arguments} {body : List Stmt} {scope : Scope} {dV kV doc pm cdv ct oc : Value} {an od : Option Addr} {osl : Array (Option Value)} {f : Addr} {args : Args} {binds : List (PySem.Str × Value)}
    (X₀ : K.In s.heap) (T : Top p loose mean mg mb s.heap)
    (ho : K.lookup f = some ⟨oc, od, .func (fnOf name qual params body scope dV kV doc pm an cdv ct), osl⟩) (hcd : codeIn K cdv qual = true) (hroom : A.depth < recursionLimit)
    (hbind : bindArgs (fnOf name qual params body scope dV kV doc pm an cdv ct) args = pure binds) (hkind : (binds.all fun y => scope.names.lookup y.1 == some .local || scope.names.lookup y.1 == some .cell) = true)
    (hnd : ((cellsFrom 0 scope.names []).map (·.1)).Nodup)
    (h : ∀ h₁ tk cells, Fr s.heap s.heap.objs.size h₁ (bindL (envOfC qual scope s.heap.objs.size f cdv).kindOf binds fun _ => none) → News s.heap s.heap.objs.size h₁ cells →
      CellsAre (bindC (envOfC qual scope s.heap.objs.size f cdv).kindOf binds fun _ => none) (cellsFrom (s.heap.objs.size + 1) scope.names []) cells →
      wpN (model prog w) (A.deeper (envOfC qual scope s.heap.objs.size f cdv)) (execs body (envOfC qual scope s.heap.objs.size f cdv))
        (fun f s' => R (.ok (.ret (match f with | .ret v => v | _ => .none))) s')
        (fun e s' => wpAny (model prog w) (A.deeper (envOfC qual scope s.heap.objs.size f cdv)) (leaving (envOfC qual scope s.heap.objs.size f cdv) e)
          (fun _ s'' => R (.error e) s'') (fun e' s'' => R (.error e') s'') s')
        { s with heap := h₁, toks := tk })
    (hco : scope.isCoroutine = false) (hgen : scope.isGenerator = false) (hk : scope.kind = .function) :
    codeN (model prog w) A (.call (.ref f) args) R s := by
  refine codeN_call_function hroom (X₀ _ _ ho) rfl hco hgen rfl (codeRec_of X₀ hcd) (wpAny_of_eq hbind ?_)
  refine wpAny_newFunctionEnv_cells hk (kindsX hkind _) fun env' he s' x => ?_
  subst he
  refine ⟨T.nolimit.keeps x.toInCall.keep, codeN_func ?_⟩
  obtain ⟨h₁, tk, rfl, _⟩ := x.done
  have hk₁ := x.toInCall.keep
  obtain ⟨cells, NC, Y⟩ := Cl.news (h₀ := s.heap) (Nat.le_refl _) fun n c hm => ⟨x.cell n c (lookup_of_mem_nodup (cellsFrom_names scope.names 0 (s.heap.objs.size + 1) [] [] rfl ▸ hnd) hm), x.above n c hm⟩
  exact h h₁ tk cells ⟨x.toInCall.ns, hk₁, Nat.le_refl _⟩ NC Y

theorem wpN_cut {M : Model} {A : Around} {E : Value → Shared → Prop} {s : Shared} {env : Env} {a b : Stmt} {rest : List Stmt} {Q : Flow → Shared → Prop} (J1 : Shared → Prop)
    (h1 : wpN M A (execs [a, b] env) (fun f s' => match f with | .next => J1 s' | f => Q f s') E s) (h2 : ∀ s', J1 s' → wpAny M A (execs rest env) Q E s') : wpN M A (execs (a :: b :: rest) env) Q E s := by
  intro Γ p hΓ hc hN
  have h := h1 Γ p hΓ hc hN
  rw [execs_cons, Sem.wp_bind'] at h ⊢
  refine Sem.wp_mono M Γ _ (fun f p' s' h' => ?_) (fun _ _ _ x => x) _ _ h
  cases f with
  | next =>
    dsimp only at h' ⊢
    rw [execs_cons, Sem.wp_bind'] at h' ⊢
    refine Sem.wp_mono M Γ _ (fun f p' s' h' => ?_) (fun _ _ _ x => x) _ _ h'
    cases f with
    | next => exact h2 s' h' Γ p' hΓ
    | _ => exact h'
  | _ => exact h'
theorem wpAny_cut {M : Model} {A : Around} {E : Value → Shared → Prop} {s : Shared} {env : Env} {a : Stmt} {rest : List Stmt} {Q : Flow → Shared → Prop} (J1 : Shared → Prop)
    (h1 : wpAny M A (exec a env) (fun f s' => match f with | .next => J1 s' | f => Q f s') E s) (h2 : ∀ s', J1 s' → wpAny M A (execs rest env) Q E s') : wpAny M A (execs (a :: rest) env) Q E s := by
  refine wpAny_execs_cons (wpAny_mono h1 (fun f s' h => ?_) fun _ _ x => x)
  cases f with
  | next => exact h2 s' h
  | _ => exact h
theorem store_cell {M : Model} {A : Around} {E : Value → Shared → Prop} {s : Shared} {h₀ : Heap} {L a : Addr} {m : PySem.Str → Option Value} {cn : PySem.Str} {cs : Scope} {ccd : Value} {cl : List (PySem.Str × Addr)}
    {x : PySem.Str} {v : Value} {Q : Unit → Shared → Prop} {news : List (Addr × Obj)} {c : Addr} {o : Obj} {v₀ : Option Value}
    (F : Fr h₀ L s.heap m) (N : News h₀ L s.heap news) (hc : cl.lookup x = some c) (hm : (c, o) ∈ news) (hd : o.data = .cell v₀)
    (h : ∀ h' o', o'.data = .cell (some v) → Fr h₀ L h' m → Turned h₀ L h' news c o' → Q () { s with heap := h' })
    (hk : cs.kind = .function := by rfl) (hx : (envX cn cs L a ccd cl).kindOf x = some .cell := by rfl) : wpAny M A (storeName (envX cn cs L a ccd cl) x v) Q E s := by
  have z := N _ hm
  refine wpAny_storeName_cell hk hx hc ⟨o, z.1, hd⟩ fun h' hv hs => ?_
  obtain ⟨o', ho', hd'⟩ := hv
  exact h h' o' hd' (F.change hs z.2.1 z.2.2) (turned_of N hm hs ho')

/-- law, called from the outside, where the stack holds no decoder -/
abbrev LawCT (w : World) : Prop :=
  ∀ (mean : ExcName → Option Value) (mg mb : PySem.Str → Option Value) (s : Shared) (l : Addr) (vs : List Value) (xs : List Int) (Q E : Value → Shared → Prop),
    (hd.heap_39 w.params).In s.heap → Top hd.view_39 (looseW hd.view_39 [PySem.Str.ofString "insort_left", PySem.Str.ofString "bisect_left"]) mean mg mb s.heap →
    s.heap.IsList l vs.toArray → IntsAre vs xs → xs.length ≤ 63 →
    (∀ L m h' tk', Fr s.heap L h' m → Q (.bool true) { s with heap := h', toks := tk' }) →
    wpN (model PySem.Challenge.rw_gx0001_01.row.prog w) callerA (PySem.call (.ref 68) [.ref l]) Q E s
end Mine

end
theorem Mine.calmLawEnt : True ∧ True := by
  w_top off
  first | (walk1; all_goals trivial) | exact ⟨trivial, trivial⟩

section
open PySem PySem.W PySem.Calls PyProof.Rows
set_option Elab.async false
set_option maxRecDepth 100000
namespace Mine
/-! the parts of law's own text, taken from the written heap -/
noncomputable def lawFd (P : Params) : Option FuncData := match (hd.heap_39 P).lookup 68 with
  | some o => (match o.data with | .func fd => some fd | _ => none)
  | none => none
noncomputable def lawBody (P : Params) : List Stmt := match lawFd P with
  | some fd => (match fd.body with | .stmts b => b | _ => [])
  | none => []
noncomputable def lawScope (P : Params) : Scope := match lawFd P with
  | some fd => fd.scope
  | none => { kind := .function, names := [], isGenerator := false, isCoroutine := false }
noncomputable def lawTurnRest (P : Params) : List Stmt := match lawBody P with
  | _ :: .For _ _ body _ _ :: _ => body.drop 2
  | _ => []
noncomputable def lawRest (P : Params) : List Stmt := (lawBody P).drop 2
def GoodB (i : Nat) (l : List UInt8) : Prop := l ≠ [] ∧ (∀ x ∈ l, 1 ≤ x.toNat ∧ x.toNat ≤ 3) ∧ l.length ≤ 6 * 2 ^ i ∧ (1 ≤ i → ∀ p ∈ runs l, p.1 ≤ 3)
def LawJ (c1 c2 c3 : Addr) (o3 o2 : Obj) (i : Nat) (m₁ : PySem.Str → Option Value) (nx : List (Addr × Obj)) : Prop :=
  ∃ b tb oS v0, nx = [(c3, o3), (c2, o2), (c1, oS)] ∧ oS.data = .cell v0 ∧ m₁ (PySem.Str.ofString "here") = some (.bytes b tb) ∧ GoodB i b.toList
def LawEnd (s : Shared) (c2 c3 : Addr) (o3 o2 : Obj) (s' : Shared) : Prop :=
  ∃ h' tk' m, s' = { s with heap := h', toks := tk' } ∧ Fr s.heap s.heap.objs.size h' m ∧ News s.heap s.heap.objs.size h' [(c3, o3), (c2, o2)]
def TurnMid (h₀ : Heap) (L c1 c2 c3 : Addr) (o3 o2 : Obj) (b : Array UInt8) (m : PySem.Str → Option Value) (own : List (Addr × Obj)) (s₁ s' : Shared) : Prop :=
  ∃ h' tk' t2 oT, s' = { s₁ with heap := h', toks := tk' } ∧ Fr h₀ L h' m ∧ News h₀ L h' ([(c3, o3), (c2, o2), (c1, oT)] ++ own) ∧ oT.data = .cell (some (.bytes (said b.toList).toArray t2))
abbrev turnM (i : Nat) (tt : Tok) (b : Array UInt8) (tb : Tok) (m₁ : PySem.Str → Option Value) : PySem.Str → Option Value := fun y => if y = PySem.Str.ofString "turn" then some (Value.int (i : Int) tt) else if y = PySem.Str.ofString "here" then some (Value.bytes b tb) else m₁ y
noncomputable abbrev lawA (P : Params) (L : Addr) : Around := callerA.deeper (envOfC (PySem.Str.ofString "law") (lawScope P) L 68 (.ref 67))

/-- the turn behind its first test -/
abbrev TurnRest (w : World) : Prop :=
  ∀ (mean : ExcName → Option Value) (mg mb : PySem.Str → Option Value) (h₀ : Heap) (L c1 c2 c3 : Addr) (o3 o2 : Obj) (i : Nat) (tt tb : Tok) (b : Array UInt8) (m₁ : PySem.Str → Option Value) (own : List (Addr × Obj)) (s₁ s : Shared) (Q : Flow → Shared → Prop),
    (hd.heap_39 w.params).In h₀ → Top hd.view_39 (looseW hd.view_39 [PySem.Str.ofString "insort_left", PySem.Str.ofString "bisect_left"]) mean mg mb h₀ →
    Below callerA h₀ [] h₀ → c1 = L + 1 → c2 = L + 1 + 1 → c3 = L + 1 + 1 + 1 → i < 5 → GoodB i b.toList → b.size ≤ 96 → OwnOff own [c3, c2, c1] →
    TurnMid h₀ L c1 c2 c3 o3 o2 b (turnM i tt b tb m₁) own s₁ s →
    (∀ s', InvEndG h₀ L (LawJ c1 c2 c3 o3 o2 (i + 1)) own s₁ s' → Q .next s') →
    (∀ h' tk' m, Fr h₀ L h' m → Q (.ret (.bool true)) { s₁ with heap := h', toks := tk' }) →
    wpAny (model PySem.Challenge.rw_gx0001_01.row.prog w) (lawA w.params L) (execs (lawTurnRest w.params) (envOfC (PySem.Str.ofString "law") (lawScope w.params) L 68 (.ref 67))) Q (fun _ _ => False) s
/-- law behind its loop -/
abbrev KolRest (w : World) : Prop :=
  ∀ (mean : ExcName → Option Value) (mg mb : PySem.Str → Option Value) (h₀ : Heap) (L c2 c3 : Addr) (o3 o2 : Obj) (m₁ : PySem.Str → Option Value) (h : Heap) (tk : Nat) (s₁ : Shared) (Q : Flow → Shared → Prop),
    (hd.heap_39 w.params).In h₀ → Top hd.view_39 (looseW hd.view_39 [PySem.Str.ofString "insort_left", PySem.Str.ofString "bisect_left"]) mean mg mb h₀ →
    Below callerA h₀ [] h₀ → c2 = L + 1 + 1 → c3 = L + 1 + 1 + 1 → o2.data = .cell none → o3.data = .cell none →
    Fr h₀ L h m₁ → News h₀ L h [(c3, o3), (c2, o2)] →
    (∀ h' tk' m, Fr h₀ L h' m → Q (.ret (.bool true)) { s₁ with heap := h', toks := tk' }) →
    wpAny (model PySem.Challenge.rw_gx0001_01.row.prog w) (lawA w.params L) (execs (lawRest w.params) (envOfC (PySem.Str.ofString "law") (lawScope w.params) L 68 (.ref 67))) Q (fun _ _ => False) { s₁ with heap := h, toks := tk }
theorem goodB0 (ys : List Int) (h1 : ys ≠ []) (h2 : ys.length ≤ 6) : GoodB 0 (byteArr (List.map (fun a => 1 + a.fmod 3) (List.filter (fun _ => true) ys))).toList := by
  have e : (byteArr (List.map (fun a => 1 + a.fmod 3) (List.filter (fun _ => true) ys))).toList = ys.map fun a => (1 + a.fmod 3).toNat.toUInt8 := by
    have ef : List.filter (fun _ => true) ys = ys := List.filter_eq_self.mpr fun _ _ => rfl
    rw [ef]
    simp only [byteArr, List.map_map]
    rfl
  rw [e]
  refine ⟨by simpa using h1, fun x hx => ?_, by simpa using h2, fun h => absurd h (by decide)⟩
  obtain ⟨a, _, rfl⟩ := List.mem_map.mp hx
  have h3 : 0 ≤ a.fmod 3 ∧ a.fmod 3 < 3 := ⟨Int.fmod_nonneg_of_pos a (by decide), Int.fmod_lt_of_pos a (by decide)⟩
  have h4 : (1 + a.fmod 3).toNat.toUInt8.toNat = (1 + a.fmod 3).toNat % 256 := rfl
  omega
end Mine

end
theorem Mine.calmLawDef : True ∧ True := by
  w_top off
  first | (walk1; all_goals trivial) | exact ⟨trivial, trivial⟩

section
open PySem PySem.W PySem.Calls PyProof.Rows
set_option Elab.async false
set_option maxRecDepth 100000
namespace Mine
local macro_rules | `(tactic| walk_at "call ref") => `(tactic| (k_here; refine Stop.go ?_))
local macro_rules | `(tactic| walk_at "eval ListComp") => `(tactic| (k_here; refine Stop.go ?_))
def TM (h₀ : Heap) (L c1 c2 c3 : Addr) (o3 o2 oT : Obj) (m : PySem.Str → Option Value) (own : List (Addr × Obj)) (s₁ s' : Shared) : Prop :=
  ∃ h' tk', s' = { s₁ with heap := h', toks := tk' } ∧ Fr h₀ L h' m ∧ News h₀ L h' ([(c3, o3), (c2, o2), (c1, oT)] ++ own)
theorem TM.intro {h₀ : Heap} {L c1 c2 c3 : Addr} {o3 o2 oT : Obj} {m : PySem.Str → Option Value} {own news : List (Addr × Obj)} {s₁ : Shared} {h' : Heap} {tk' : Nat} (F : Fr h₀ L h' m) (N : News h₀ L h' news) (hs : ∀ p ∈ [(c3, o3), (c2, o2), (c1, oT)] ++ own, p ∈ news) :
    TM h₀ L c1 c2 c3 o3 o2 oT m own s₁ { s₁ with heap := h', toks := tk' } := ⟨h', tk', rfl, F, news_sub N _ hs⟩
set_option maxRecDepth 100000 in
set_option maxHeartbeats 1600000 in
theorem turn_rest (w : World) : TurnRest w := by
  unfold TurnRest; k_fill
  intro mean mg mb h₀ L c1 c2 c3 o3 o2 i tt tb b m₁ own s₁ s Q X T B hc1 hc2 hc3 hi hG hb hoff hmid hnext hret
  subst hc1 hc2 hc3
  obtain ⟨h', tk', t2, oT, rfl, F, N, dT⟩ := hmid
  have hrl : (runs b.toList).length ≤ b.size := by have := runs_length b.toList; simpa using this
  have hne : runs b.toList ≠ [] := runs_ne_nil hG.1
  have hsl : (said b.toList).length ≤ 2 * b.size := by have := said_le b.toList; simpa using this
  have hsn : said b.toList ≠ [] := said_ne_nil hG.1
  have hsr : (runs (said b.toList)).length ≤ 2 * b.size := Nat.le_trans (runs_length _) hsl
  have hsrn : runs (said b.toList) ≠ [] := runs_ne_nil hsn
  show wpAny _ (callerA.deeper (envOfC (PySem.Str.ofString "law") ⟨_, _, _, _, _⟩ _ _ _)) (execs [_, _, _, _] (envOfC (PySem.Str.ofString "law") ⟨_, _, _, _, _⟩ _ _ _)) _ _ _
  refine wpAny_cut (TM h₀ L (L + 1) (L + 1 + 1) (L + 1 + 1 + 1) o3 o2 oT (turnM i tt b tb m₁) own s₁) ?_ ?_
  · k_fold
    k_steps
    refine Stop.of ?_
    k_dflt (refine LCp.ListComp_P (F₀ := by k_asm) (by with_unfolding_all rfl) (by decide) (by rfl) (by decide) (by rfl) (by rfl) (by decide) ?_)
    k_steps
    refine Stop.of ?_
    k_dflt (refine' CT.use (runs_ct w b tb (by omega)) ?kB ?kF ?kX ?kN ?kT ?kk ?kd ?ku ?_)
    case kB => k_asm
    case kF => k_asm
    case kX => k_asm
    case kN => k_asm
    case kT => k_asm
    case kk => rfl
    case kd => decide
    case ku => decide
    rintro r1 tl1 h1 tk1 F1 N1 ⟨fl1, vs1, nn1, tl'1, rfl, rfl, hD1, hnt1⟩
    change DatAll _ _ ((runs b.toList).map rdat) at hD1
    have hvl1 := hD1.length
    rw [List.length_map] at hvl1
    refine many_turns (by rfl) F1 N1 (List.mem_append.mpr (.inr (List.mem_cons_self ..))) hD1 (fun p hp => List.mem_append.mpr (.inr (List.mem_cons_of_mem _ hp))) (by omega) (fun _ => rfl) (fun _ => rfl) (by decide) ?_
    intro ys1 D1 g1 tg1 hI1 G1 P1
    k_steps
    refine kso_max G1 P1 ⟨_, (P1 _ (List.mem_cons_self ..)).1, rfl, _, rfl⟩ hI1 (by rw [List.length_map]; exact List.length_pos_iff.mpr hne) (by rfl) ?_
    intro e1 M1 u1 te1 H1 R1 hM1 hA1
    have hmax1 := max_counts hM1 hA1
    have S1 := news_sub R1 ([(L + 1 + 1 + 1, o3), (L + 1 + 1, o2), (L + 1, oT)] ++ own) (fun p hp => List.mem_cons_of_mem _ (List.mem_append.mpr (.inl hp)))
    clear R1 P1 G1 N1 F1
    k_steps
    · clear F N
      k_steps
      refine Stop.of ?_
      k_dflt (refine LCp.ListComp_P (F₀ := by k_asm) (by with_unfolding_all rfl) (by decide) (by rfl) (by decide) (by rfl) (by rfl) (by decide) ?_)
      k_steps
      refine Stop.of ?_
      k_dflt (refine' CT.use (runs_ct w (said b.toList).toArray t2 (by rw [List.size_toArray]; omega)) ?kB ?kF ?kX ?kN ?kT ?kk ?kd ?ku ?_)
      case kB => k_asm
      case kF => k_asm
      case kX => k_asm
      case kN => k_asm
      case kT => k_asm
      case kk => rfl
      case kd => decide
      case ku => decide
      rintro r2 tl2 h2 tk2 F2 N2 ⟨fl2, vs2, nn2, tl'2, rfl, rfl, hD2, hnt2⟩
      change DatAll _ _ ((runs (said b.toList)).map rdat) at hD2
      have hvl2 := hD2.length
      rw [List.length_map] at hvl2
      refine many_turns (by rfl) F2 N2 (List.mem_append.mpr (.inr (List.mem_cons_self ..))) hD2 (fun p hp => List.mem_append.mpr (.inr (List.mem_cons_of_mem _ hp))) (by omega) (fun _ => rfl) (fun _ => rfl) (by decide) ?_
      intro ys2 D2 g2 tg2 hI2 G2 P2
      k_steps
      refine kso_max G2 P2 ⟨_, (P2 _ (List.mem_cons_self ..)).1, rfl, _, rfl⟩ hI2 (by rw [List.length_map]; exact List.length_pos_iff.mpr hsrn) (by rfl) ?_
      intro e2 M2 u2 te2 H2 R2 hM2 hA2
      have hmax2 := max_counts hM2 hA2
      have S2 := news_sub R2 ([(L + 1 + 1 + 1, o3), (L + 1 + 1, o2), (L + 1, oT)] ++ own) (fun p hp => List.mem_cons_of_mem _ (List.mem_append.mpr (.inl hp)))
      clear R2 P2 G2 N2 F2
      k_steps
      · exact absurd (hmax2.mpr (runs_said_le b.toList)) (by omega)
      · exact TM.intro H2 S2 (fun _ h => h)
    · exact TM.intro H1 S1 (fun _ h => h)
    · exact TM.intro H1 S1 (fun _ h => h)
  · rintro s' ⟨h', tk', rfl, F, N⟩
    refine wpAny_cut (fun s' => TM h₀ L (L + 1) (L + 1 + 1) (L + 1 + 1 + 1) o3 o2 oT (turnM i tt b tb m₁) own s₁ s' ∧ ∀ p ∈ runs b.toList, p.1 ≤ 3) ?_ ?_
    · k_fold
      k_steps
      · clear hnext
        k_steps
        refine Stop.of ?_
        k_dflt (refine LCp.ListComp_P (F₀ := by k_asm) (by with_unfolding_all rfl) (by decide) (by rfl) (by decide) (by rfl) (by rfl) (by decide) ?_)
        k_steps
        refine Stop.of ?_
        k_dflt (refine' CT.use (runs_ct w b tb (by omega)) ?kB ?kF ?kX ?kN ?kT ?kk ?kd ?ku ?_)
        case kB => k_asm
        case kF => k_asm
        case kX => k_asm
        case kN => k_asm
        case kT => k_asm
        case kk => rfl
        case kd => decide
        case ku => decide
        rintro r3 tl3 h3 tk3 F3 N3 ⟨fl3, vs3, nn3, tl'3, rfl, rfl, hD3, hnt3⟩
        change DatAll _ _ ((runs b.toList).map rdat) at hD3
        have hvl3 := hD3.length
        rw [List.length_map] at hvl3
        refine many_turns (by rfl) F3 N3 (List.mem_append.mpr (.inr (List.mem_cons_self ..))) hD3 (fun p hp => List.mem_append.mpr (.inr (List.mem_cons_of_mem _ hp))) (by omega) (fun _ => rfl) (fun _ => rfl) (by decide) ?_
        intro ys3 D3 g3 tg3 hI3 G3 P3
        k_steps
        refine kso_max G3 P3 ⟨_, (P3 _ (List.mem_cons_self ..)).1, rfl, _, rfl⟩ hI3 (by rw [List.length_map]; exact List.length_pos_iff.mpr hne) (by rfl) ?_
        intro e3 M3 u3 te3 H3 R3 hM3 hA3
        have hmax3 := max_counts hM3 hA3
        have S3 := news_sub R3 ([(L + 1 + 1 + 1, o3), (L + 1 + 1, o2), (L + 1, oT)] ++ own) (fun p hp => List.mem_cons_of_mem _ (List.mem_append.mpr (.inl hp)))
        clear R3 P3 G3 N3 F3
        k_steps
        · obtain ⟨p, hp, hp3⟩ : ∃ p ∈ runs b.toList, 3 < p.1 := by
            apply Classical.byContradiction
            intro hno
            exact absurd (hmax3.mpr fun p hp => Nat.le_of_not_lt fun h => hno ⟨p, hp, h⟩) (by omega)
          have hpb := (runs_bound b.toList p hp).2
          rw [Array.length_toList] at hpb
          refine max_bytes (by rfl) H3 S3 (by rw [List.size_toArray]; exact List.length_pos_iff.mpr hsn) ?_
          intro h4 c4 u4 tk4 F4 N4 hc4 hall4
          have hc5 : 3 < c4.toNat := by
            have h1 := hall4 p.1.toUInt8 (mem_said.mpr ⟨p, hp, .inl rfl⟩)
            have h2 : p.1.toUInt8.toNat = p.1 % 256 := rfl
            omega
          k_steps
          rw [decide_eq_true (by omega)]
          exact hret _ _ _ F4
        · exact TM.intro H3 S3 (fun _ h => h)
        · exact hmax3.mp (by omega) _ (by assumption)
      · exact TM.intro F N (fun _ h => h)
      · exact hG.2.2.2 (by omega) _ (by assumption)
    · rintro s' ⟨⟨h', tk', rfl, F, N⟩, hr3⟩
      have hel : ∀ x ∈ said b.toList, 1 ≤ x.toNat ∧ x.toNat ≤ 3 := by
        intro x hx
        obtain ⟨p, hp, rfl | rfl⟩ := mem_said.mp hx
        · have h1 := runs_bound b.toList p hp
          have h2 := hr3 p hp
          have h3 : p.1.toUInt8.toNat = p.1 % 256 := rfl
          omega
        · exact hG.2.1 _ (mem_runs_digit hp)
      have hsz : 0 < (said b.toList).toArray.size := by rw [List.size_toArray]; exact List.length_pos_iff.mpr hsn
      refine wpAny_cut (TM h₀ L (L + 1) (L + 1 + 1) (L + 1 + 1 + 1) o3 o2 oT (turnM i tt b tb m₁) own s₁) ?_ ?_
      · k_fold
        k_steps
        refine max_bytes (by rfl) F N hsz ?_
        intro h4 c4 u4 tk4 F4 N4 hc4 hall4
        have hc5 := hel c4 hc4
        clear F N
        k_steps
        refine min_bytes (by rfl) F4 N4 hsz ?_
        intro h6 c6 u6 tk6 F6 N6 hc6
        have hc7 := hel c6 hc6
        clear F4 N4
        k_steps
        exact TM.intro F6 N6 (fun _ h => h)
      · rintro s' ⟨h', tk', rfl, F, N⟩
        k_steps
        rename Fr _ _ _ _ => F5
        rename News _ _ _ _ => N5
        refine hnext _ (InvEndG.intro F5 N5 ⟨(said b.toList).toArray, t2, oT, _, rfl, dT, rfl, hsn, hel, ?_, fun _ => runs_said_le b.toList⟩ hoff (fun p hp => List.mem_append.mpr (.inl hp)) fun p hp => List.mem_append.mpr (.inr hp))
        have h1 := said_le b.toList
        have h2 := hG.2.2.1
        show (said b.toList).length ≤ _
        rw [Nat.pow_succ]
        omega
end Mine

end
theorem Mine.calmLawTurn : True ∧ True := by
  w_top off
  first | (walk1; all_goals trivial) | exact ⟨trivial, trivial⟩

section
open PySem PySem.W PySem.Calls PyProof.Rows
set_option Elab.async false
set_option maxRecDepth 100000
namespace Mine
local macro_rules | `(tactic| walk_at "call ref") => `(tactic| (k_here; refine Stop.go ?_))
theorem fmod_two (n : Nat) : (((2 * n : Nat)) : Int).fmod 2 = 0 := by
  rw [Int.fmod_eq_emod_of_nonneg _ (by decide)]; omega
set_option maxRecDepth 100000 in
set_option maxHeartbeats 1600000 in
theorem law_ct (w : World) (HT : TurnRest w) (HK : KolRest w) : LawCT w := by
  unfold LawCT; k_fill
  intro mean mg mb s l vs xs Q E X T hL hI hlen hret
  have B := below_caller s.heap
  refine wpN_call ?_
  k_dflt (refine' codeN_topC ?k3 ?k5 ?k6 ?k7 ?k8 ?k9 ?kB ?kD ?_ ?c2 ?c3 ?c4; (case k3 => k_asm); (case k5 => k_asm); (case k6 => k_is); (case k7 => k_is); (case k8 => decide); (case k9 => exact rfl); (case kB => exact rfl); (case kD => decide +kernel); (case c2 => exact rfl); (case c3 => exact rfl); (case c4 => exact rfl); k_whole; intro h' tk' cells' F' N' Y'; (try dsimp only))
  obtain ⟨o3, o2, o1, he, d3, d2, d1⟩ := CellsAre.three Y'
  subst he
  have d1' : o1.data = .cell none := d1
  have d2' : o2.data = .cell none := d2
  have d3' : o3.data = .cell none := d3
  clear Y' d1 d2 d3
  refine wpN_mono (Q := fun fl s' => Q (match fl with | .ret v => v | _ => .none) s') (E := fun _ _ => False) ?_ (fun _ _ h => h) (fun _ _ h => h.elim)
  refine wpN_cut (LawEnd s (s.heap.objs.size + 1 + 1) (s.heap.objs.size + 1 + 1 + 1) o3 o2) ?_ ?_
  rotate_left
  · rintro s' ⟨h', tk', m, rfl, F, N⟩
    exact HK mean mg mb s.heap s.heap.objs.size _ _ o3 o2 m h' tk' s _ X T B rfl rfl d2' d3' F N fun h' tk' m' F' => hret _ _ _ _ F'
  refine wpN_execs_first ?_
  k_fold
  k_steps
  refine wpN_execs_cons (For_N s.heap (by rfl) (by rfl) ?_)
  k_fold
  k_steps
  rename IsRange _ _ _ _ _ _ _ _ => hR
  rename Fr _ _ _ _ => F2
  rename News _ _ _ _ => N2
  refine LoopN.intro (n := 5) (LawJ (s.heap.objs.size + 1) (s.heap.objs.size + 1 + 1) (s.heap.objs.size + 1 + 1 + 1) o3 o2) (by rfl) hR (by rfl) (by rfl) F2
    (news_sub N2 [(s.heap.objs.size + 1 + 1 + 1, o3), (s.heap.objs.size + 1 + 1, o2), (s.heap.objs.size + 1, o1)] ?_) ⟨_, _, _, _, rfl, d1', rfl, ?_⟩ ?_ ?_
  · intro p hp; simp only [List.mem_cons, List.not_mem_nil, or_false] at hp ⊢; rcases hp with rfl | rfl | rfl <;> simp
  · refine goodB0 _ ?_ ?_
    · rw [← List.length_pos_iff, List.length_take, List.length_append, List.length_singleton]
      split <;> split <;> omega
    · rw [List.length_take, List.length_append, List.length_singleton]
      split <;> split <;> omega
  · rintro i tt m₁ nx h tk own hi hoff ⟨b, tb, oS, v0, rfl, dS, hm, hG⟩ F₁ N₁
    clear F2 N2 hR
    have e1 : (fun y => if y = PySem.Str.ofString "turn" then some (Value.int (0 + (i : Int) * 1) tt) else m₁ y) = fun y => if y = PySem.Str.ofString "turn" then some (Value.int (i : Int) tt) else if y = PySem.Str.ofString "here" then some (Value.bytes b tb) else m₁ y := by
      funext y
      by_cases h : y = PySem.Str.ofString "turn"
      · simp [h]
      · simp only [if_neg h]
        by_cases h2 : y = PySem.Str.ofString "here"
        · simp [h2, hm]
        · simp only [if_neg h2]
    rw [e1] at F₁
    clear e1
    have hb : b.size ≤ 96 := by
      have h1 := hG.2.2.1
      have h2 : 2 ^ i ≤ 2 ^ 4 := Nat.pow_le_pow_right (by decide) (by omega)
      rw [Array.length_toList] at h1
      omega
    refine wpN_cut (TurnMid s.heap s.heap.objs.size (s.heap.objs.size + 1) (s.heap.objs.size + 1 + 1) (s.heap.objs.size + 1 + 1 + 1) o3 o2 b (turnM i tt b tb m₁) own { s with heap := h, toks := tk }) ?_ ?_
    rotate_left
    · intro s' hmid
      exact HT mean mg mb s.heap s.heap.objs.size _ _ _ o3 o2 i tt tb b m₁ own { s with heap := h, toks := tk } s' _ X T B rfl rfl rfl hi hG hb hoff hmid (fun _ h => h) fun h' tk' m' F' => hret _ _ _ _ F'
    refine wpN_execs_first ?_
    k_fold
    k_steps
    refine Stop.of ?_
    k_dflt (refine' CT.use (said_ct w b tb (by omega)) ?kB ?kF ?kX ?kN ?kT ?kk ?kd ?ku ?_)
    case kB => k_asm
    case kF => k_asm
    case kX => k_asm
    case kN => k_asm
    case kT => k_asm
    case kk => rfl
    case kd => decide
    case ku => decide
    rintro r tl h1 tk1 F3 N3 ⟨t2, rfl⟩
    k_steps
    refine store_cell F3 (news_sub N3 ([(s.heap.objs.size + 1 + 1 + 1, o3), (s.heap.objs.size + 1 + 1, o2), (s.heap.objs.size + 1, oS)] ++ own) (fun p hp => List.mem_append.mpr (.inl hp))) (c := s.heap.objs.size + 1) (o := oS) rfl (by simp) dS ?_
    intro h4 oT dT F4 T4
    have N4 := T4 ([(s.heap.objs.size + 1 + 1 + 1, o3), (s.heap.objs.size + 1 + 1, o2), (s.heap.objs.size + 1, oT)] ++ own) (by
      intro p hp
      simp only [List.cons_append, List.nil_append, List.mem_cons] at hp
      rcases hp with rfl | rfl | rfl | hp
      · exact .inr ⟨by simp, fun e => by have e' : s.heap.objs.size + 1 + 1 + 1 = s.heap.objs.size + 1 := e; omega⟩
      · exact .inr ⟨by simp, fun e => by have e' : s.heap.objs.size + 1 + 1 = s.heap.objs.size + 1 := e; omega⟩
      · exact .inl rfl
      · exact .inr ⟨by simp [hp], hoff p hp _ (by simp)⟩)
    clear F3 N3 T4
    k_steps
    refine wpN_execs_cons (wpN_If (wpN_isTrue_BoolOp (wpN_allTrue_Or_cons (wpN_of ?_))))
    k_fold
    k_steps
    refine Stop.of ?_
    have hrl : (runs b.toList).length ≤ b.size := by have := runs_length b.toList; simpa using this
    have hrb := runs_bound b.toList
    rw [Array.length_toList] at hrb
    k_dflt (refine' CT.use (meant_ct w (runs b.toList) t2 (by omega) (fun p hp => by have := hrb p hp; omega)) ?kB ?kF ?kX ?kN ?kT ?kk ?kd ?ku ?_)
    case kB => k_asm
    case kF => k_asm
    case kX => k_asm
    case kN => k_asm
    case kT => k_asm
    case kk => rfl
    case kd => decide
    case ku => decide
    rintro r tl5 h5 tk5 F5 N5 ⟨t5, rfl⟩
    have eu : ((runs b.toList).flatMap fun p => List.replicate p.1 p.2).toArray = b := by
      show (unrun (runs b.toList)).toArray = b
      rw [unrun_runs]
    rw [eu]
    have N6 := news_sub N5 ([(s.heap.objs.size + 1 + 1 + 1, o3), (s.heap.objs.size + 1 + 1, o2), (s.heap.objs.size + 1, oT)] ++ own) (fun p hp => List.mem_append.mpr (.inl hp))
    clear N5 F4 N4
    k_steps
    · exact absurd ‹(b.toList != b.toList) = true› (by simp)
    refine wpN_allTrue_Or_cons (wpN_of ?_)
    k_fold
    k_steps
    have e9 : (said b.toList).toArray.size = 2 * (runs b.toList).length := by rw [List.size_toArray, said_length]
    refine len_bytes (by rw [e9]; omega) ?_
    rw [e9]
    k_steps
    · exact absurd (fmod_two (runs b.toList).length) (by assumption)
    refine wpN_allTrue_Or_cons (wpN_isTrue_Compare1 (wpN_Call_Name1 ?_))
    k_fold
    k_steps
    refine callWithN_function (evalArgsN_one (wpN_Call_Name2 ?_))
    k_fold
    k_steps
    refine callWithN_function (wpN_of (Calls.evalArgs_plain (Calls.spliced_cons ?_)))
    k_fold
    k_steps
    refine Calls.spliced_cons ?_
    k_fold
    k_steps
    refine Calls.spliced_nil ?_
    (try k_unfold)
    (try dsimp only)
    refine ⟨?fn, ?_⟩
    case fn => k_dflt (refine' fnAt' (X.keeps F5.keep) ?kl; (case kl => k_is))
    have hne : 0 < b.size := by
      have h1 := hG.1
      apply Nat.pos_of_ne_zero
      intro e
      exact h1 (Array.toList_eq_nil_iff.mpr (Array.eq_empty_of_size_eq_zero e))
    k_dflt (refine' CTN.use (swap_ct w b tb _ hne (by omega)) ?kB ?kF ?kX ?kN ?kT ?kk ?kd ?ku ?_)
    case kB => k_asm
    case kF => k_asm
    case kX => k_asm
    case kN => k_asm
    case kT => k_asm
    case kk => rfl
    case kd => decide
    case ku => decide
    rintro r tl7 h7 tk7 F7 N7 ⟨t7, rfl⟩
    have N8 := news_sub N7 ([(s.heap.objs.size + 1 + 1 + 1, o3), (s.heap.objs.size + 1 + 1, o2), (s.heap.objs.size + 1, oT)] ++ own) (fun p hp => List.mem_append.mpr (.inl hp))
    clear N7 F5 N6
    refine ⟨?fn, ?_⟩
    case fn => k_dflt (refine' fnAt' (X.keeps F7.keep) ?kl; (case kl => k_is))
    refine wpN_of ?_
    k_dflt (refine' CT.use (said_ct w b.reverse t7 (by rw [Array.size_reverse]; omega)) ?kB ?kF ?kX ?kN ?kT ?kk ?kd ?ku ?_)
    case kB => k_asm
    case kF => k_asm
    case kX => k_asm
    case kN => k_asm
    case kT => k_asm
    case kk => rfl
    case kd => decide
    case ku => decide
    rintro r tl9 h9 tk9 F9 N9 ⟨t9, rfl⟩
    have N10 := news_sub N9 ([(s.heap.objs.size + 1 + 1 + 1, o3), (s.heap.objs.size + 1 + 1, o2), (s.heap.objs.size + 1, oT)] ++ own) (fun p hp => List.mem_append.mpr (.inl hp))
    clear N9 F7 N8
    rw [show said b.reverse.toList = sfold (runs b.toList).reverse by rw [Array.toList_reverse, said_reverse]]
    (try dsimp only)
    (try k_fold)
    k_steps
    refine two_any' (by k_asm) (by with_unfolding_all rfl) (by decide) (by rfl) (by decide) (by rfl) (by rfl) (by rfl) (by intro _; with_unfolding_all rfl) (by intro _ _; with_unfolding_all rfl) ?_
    k_steps
    rename IsRange _ _ _ _ _ _ _ _ => hR9
    rename Fr _ _ _ _ => F11
    rename News _ _ _ _ => N11
    rw [e9] at hR9
    have hrv : flatMs (fun i => (((runs b.toList).reverse)[i]?).elim [] sints) (runs b.toList).length = ((runs b.toList).reverse).flatMap sints := by
      have := flatMs_list sints (runs b.toList).reverse (runs b.toList).length (by simp)
      rw [this, List.take_of_length_le (by simp)]
    have hrd := rangeDown2 (runs b.toList).length (by omega)
    refine ⟨_, (fun i => (((runs b.toList).reverse)[i]?).elim [] sints), (runs b.toList).length, F11, N11, ?_, ?_, range_turns (by rfl) hR9 hrd.1 hrd.2 ?_⟩
    · rw [hrv, sints_length, sizeLine_eq, List.length_reverse]; omega
    · rw [hrv]
      intro D h2 tk2 ys F2 N2 hlt hI2
      clear F11 N11 hR9
      k_steps
      refine bytes_K F2 N2 ⟨_, (N2 _ (List.mem_cons_self ..)).1, rfl, _, rfl⟩ hI2 ?_ ?_ (by rfl) ?_
      · intro k hk
        obtain ⟨p, hp, hkp⟩ := List.mem_flatMap.mp hk
        exact sints_bound (l := b.toList) (by rw [Array.length_toList]; omega) k (List.mem_flatMap.mpr ⟨p, List.mem_reverse.mp hp, hkp⟩)
      · rw [hI2.length, sints_length, sizeLine_eq, List.length_reverse]; omega
      · intro h3 t3 k3 F3 N3 _
        rw [sints_bytes]
        k_steps
        · exact absurd ‹_ = true› (by simp)
        refine wpN_allTrue_Or_nil ?_
        have N12 := news_sub N3 ([(s.heap.objs.size + 1 + 1 + 1, o3), (s.heap.objs.size + 1 + 1, o2), (s.heap.objs.size + 1, oT)] ++ own) (fun p hp => List.mem_cons_of_mem _ hp)
        clear N3 N2 F2
        k_steps
        dsimp only
        refine wpN_of (wpAny_execs_nil ?_)
        exact ⟨_, _, t2, oT, rfl, F3, N12, dT⟩
    · rintro C i' v s₃ m₃ base E' hi' ⟨t', rfl⟩ hbase hn hm' ⟨h₃, tk₃, rfl⟩ hk₃
      obtain ⟨⟨nn, d⟩, hnd⟩ : ∃ p, (runs b.toList)[(runs b.toList).length - 1 - i']? = some p := ⟨_, List.getElem?_eq_getElem (by omega)⟩
      have hrev : (runs b.toList).reverse[i']? = some (nn, d) := by rw [List.getElem?_reverse hi']; exact hnd
      have hkv : (((2 * (runs b.toList).length : Nat)) : Int) - 2 + (i' : Int) * (0 - 2) = ((2 * ((runs b.toList).length - 1 - i') : Nat) : Int) := by omega
      rw [hkv] at hm'
      have hnn := (hrb _ (List.mem_of_getElem? hnd)).2
      refine pair_slice (b := (said b.toList).toArray) (c := s.heap.objs.size + 1) (by rfl) ⟨oT, hk₃ _ _ (N11 (s.heap.objs.size + 1, oT) (by simp)).1, dT⟩ hn hm' (by rw [e9]; omega) (by rfl) (by rfl) (by decide) (by rfl) (by decide) ?_
      intro h' t'' tk'' hk''
      refine ⟨⟨h', tk'', rfl, hk''⟩, ?_⟩
      show ItInts _ _ _ _ ((((runs b.toList).reverse)[i']?).elim [] sints) _ _
      rw [hrev]
      show ItInts _ _ _ _ (sints (nn, d)) _ _
      rw [← pair_ints rfl hnd (by omega) (by omega)]
      exact it_bytes (by rfl)
  · rintro m₁ nx h tk ⟨b, tb, oS, v0, rfl, dS, hm, hG⟩ F₁ N₁
    dsimp only
    refine wpN_of (wpAny_execs_nil ?_)
    exact ⟨_, _, m₁, rfl, F₁, news_sub N₁ _ (by intro p hp; simp only [List.mem_cons, List.not_mem_nil, or_false] at hp ⊢; rcases hp with rfl | rfl <;> simp)⟩
end Mine

end
theorem Mine.calmLawCore : True ∧ True := by
  w_top off
  first | (walk1; all_goals trivial) | exact ⟨trivial, trivial⟩

section
open PySem PySem.W PyProof.Rows
set_option Elab.async false
namespace Mine
section
variable {prog : Program} {w : World} {A : Around} {E : Value → Shared → Prop} {s : Shared} {env : Env} {h₀ : Heap} {L : Addr}
def WEnd (h₀ : Heap) (L : Addr) (J : Nat → (PySem.Str → Option Value) → List (Addr × Obj) → Prop) (n : Nat) (s s' : Shared) : Prop :=
  ∃ n' m' nx h' tk', n' < n ∧ s' = { s with heap := h', toks := tk' } ∧ J n' m' nx ∧ Fr h₀ L h' m' ∧ News h₀ L h' nx
def WPost (h₀ : Heap) (L : Addr) (J : Nat → (PySem.Str → Option Value) → List (Addr × Obj) → Prop) (n : Nat) (s : Shared) (Q : Flow → Shared → Prop) (f : Flow) (s' : Shared) : Prop :=
  match f with
  | .ret v => Q (.ret v) s'
  | .brk => Q .next s'
  | _ => WEnd h₀ L J n s s'
theorem WEnd.intro {J : Nat → (PySem.Str → Option Value) → List (Addr × Obj) → Prop} {n n' : Nat} {m' : PySem.Str → Option Value} {nx news : List (Addr × Obj)} {h' : Heap} {tk' : Nat} (F : Fr h₀ L h' m') (N : News h₀ L h' news) (hn : n' < n) (hj : J n' m' nx) (hs : ∀ p ∈ nx, p ∈ news) :
    WEnd h₀ L J n s { s with heap := h', toks := tk' } := ⟨n', m', nx, h', tk', hn, rfl, hj, F, news_sub N _ hs⟩
theorem While_inv {test : PySem.Expr} {body : List Stmt} {pos : Pos} {m₀ : PySem.Str → Option Value} {news : List (Addr × Obj)} {Q : Flow → Shared → Prop} (J : Nat → (PySem.Str → Option Value) → List (Addr × Obj) → Prop) (n₀ : Nat)
    (F : Fr h₀ L s.heap m₀) (N : News h₀ L s.heap news) (hj : J n₀ m₀ news)
    (turn : ∀ n m₁ nx h tk, J n m₁ nx → Fr h₀ L h m₁ → News h₀ L h nx →
      wpAny (model prog w) A (isTrue test env (eval test env)) (fun b s₂ =>
        if b then wpAny (model prog w) A (execs body env) (WPost h₀ L J n s Q) (fun _ _ => False) s₂ else Q .next s₂) (fun _ _ => False) { s with heap := h, toks := tk }) :
    wpAny (model prog w) A (exec (.While test body [] pos) env) Q E s := by
  refine wpAny_While (codeAny_whileLoop (fun n s' => ∃ m₁ nx h tk, s' = { s with heap := h, toks := tk } ∧ J n m₁ nx ∧ Fr h₀ L h m₁ ∧ News h₀ L h nx) ?_ n₀ ⟨m₀, news, s.heap, s.toks, rfl, hj, F, N⟩)
  rintro n s' ⟨m₁, nx, h, tk, rfl, hJ, F', N'⟩
  refine wpAny_mono (turn n m₁ nx h tk hJ F' N') (fun b s₂ h₂ => ?_) fun _ _ e => e.elim
  cases b with
  | true =>
    simp only [if_true] at h₂ ⊢
    refine wpAny_mono h₂ (fun f s₃ h₃ => ?_) fun _ _ e => e.elim
    have fin : WEnd h₀ L J n s s₃ → ∃ m, m < n ∧ ∃ m₁ nx h tk, s₃ = { s with heap := h, toks := tk } ∧ J m m₁ nx ∧ Fr h₀ L h m₁ ∧ News h₀ L h nx := by
      rintro ⟨n', m', nx', h', tk', hn, rfl, hj', F3, N3⟩
      exact ⟨n', hn, m', nx', h', tk', rfl, hj', F3, N3⟩
    cases f with
    | ret v => exact h₃
    | brk => exact h₃
    | next => exact fin h₃
    | cont => exact fin h₃
  | false =>
    simp only [Bool.false_eq_true, if_false] at h₂ ⊢
    exact wpAny_execs_nil h₂
end

/-! the row of its own runs -/
def kstep (p : List Int × Nat) : List Int × Nat := (p.1 ++ (List.replicate (p.1.getD ((p.2 : Int)).toNat 0).toNat [3 - p.1.getD (-1 + (p.1.length : Int)).toNat 0]).flatten, p.2 + 1)
noncomputable def kit : Nat → List Int × Nat
  | 0 => ([1, 2, 2], 2)
  | i + 1 => kstep (kit i)
def kN : Nat := 25
theorem kit_len : ∀ i, i ≤ kN → (((kit i).1.length < 40 ↔ i < kN) ∧ (kit i).2 = i + 2 ∧ (kit i).2 < (kit i).1.length ∧ (kit i).1.length ≤ 41 ∧ (1 ≤ (kit i).1.getD (((kit i).2 : Nat) : Int).toNat 0 ∧ (kit i).1.getD (((kit i).2 : Nat) : Int).toNat 0 ≤ 2)) := by
  intro i hi
  have : ∀ i : Fin (kN + 1), (((kit i).1.length < 40 ↔ i.1 < kN) ∧ (kit i).2 = i.1 + 2 ∧ (kit i).2 < (kit i).1.length ∧ (kit i).1.length ≤ 41 ∧ (1 ≤ (kit i).1.getD (((kit i).2 : Nat) : Int).toNat 0 ∧ (kit i).1.getD (((kit i).2 : Nat) : Int).toNat 0 ≤ 2)) := by decide +kernel
  exact this ⟨i, by omega⟩
end Mine

end
theorem Mine.calmWhileL : True ∧ True := by
  w_top off
  first | (walk1; all_goals trivial) | exact ⟨trivial, trivial⟩

section
open PySem PySem.W PyProof.Rows
set_option Elab.async false
namespace Mine
local macro_rules | `(tactic| walk_at "exec") => `(tactic| (k_here; (with_reducible show wpAny _ _ (exec (Stmt.While _ _ _ _) _) _ _ _); refine Stop.go ?_))
def OwnJ (t : Tok) (keep : List (Addr × Obj)) (n : Nat) (m₁ : PySem.Str → Option Value) (nx : List (Addr × Obj)) : Prop :=
  ∃ i l vs kk tr, i ≤ kN ∧ n = kN - i ∧ nx = (l, W.listOf (vs : List Value).toArray kk) :: keep ∧ IntsAre vs (kit i).1 ∧ m₁ (PySem.Str.ofString "row") = some (.ref l) ∧ m₁ (PySem.Str.ofString "run") = some (.int ((kit i).2 : Int) tr) ∧ m₁ (PySem.Str.ofString "many") = some (.int 40 t)
theorem newList_at {h₀ h : Heap} {L l : Addr} {vs : List Value} {k : Nat} {news : List (Addr × Obj)} (N : News h₀ L h ((l, W.listOf vs.toArray k) :: news)) : h.IsList l vs.toArray := ⟨_, (N _ (List.mem_cons_self ..)).1, rfl, _, rfl⟩
theorem own_loop {prog : Program} {w : World} {A : Around} {E : Value → Shared → Prop} {s : Shared} {env : Env} {h₀ : Heap} {L : Addr} {test : PySem.Expr} {body : List Stmt} {pos : Pos} {Q : Flow → Shared → Prop}
    {p : Addr × Obj} {l1 : Addr} {a b c t2 t : Tok} {kk : Nat} {m : PySem.Str → Option Value} {news : List (Addr × Obj)}
    (F : Fr h₀ L s.heap (fun y => if y = PySem.Str.ofString "row" then some (.ref l1) else if y = PySem.Str.ofString "run" then some (.int 2 t2) else m y)) (hm : m (PySem.Str.ofString "many") = some (.int 40 t))
    (N : News h₀ L s.heap (p :: (l1, W.listOf #[.int 1 a, .int 2 b, .int 2 c] kk) :: news))
    (turn : ∀ n m₁ nx h tk, OwnJ t news n m₁ nx → Fr h₀ L h m₁ → News h₀ L h nx →
      wpAny (model prog w) A (isTrue test env (eval test env)) (fun b s₂ =>
        if b then wpAny (model prog w) A (execs body env) (WPost h₀ L (OwnJ t news) n s Q) (fun _ _ => False) s₂ else Q .next s₂) (fun _ _ => False) { s with heap := h, toks := tk }) :
    wpAny (model prog w) A (exec (.While test body [] pos) env) Q E s := by
  refine While_inv (OwnJ t news) kN F (news_sub N ((l1, W.listOf #[.int 1 a, .int 2 b, .int 2 c] kk) :: news) (fun q hq => List.mem_cons_of_mem _ hq)) ⟨0, l1, [.int 1 a, .int 2 b, .int 2 c], kk, t2, Nat.zero_le _, rfl, rfl, ?_, rfl, rfl, ?_⟩ turn
  rotate_left
  · exact hm
  exact .cons _ _ (.cons _ _ (.cons _ _ .nil))
set_option maxRecDepth 100000 in
set_option maxHeartbeats 1600000 in
theorem own_ct (w : World) (t : Tok) : CT w 63 10 200 [.int 40 t] (fun tl r => ∃ l vs nn, r = .ref l ∧ tl = [(l, W.listOf (vs : List Value).toArray nn)] ∧ IntsAre vs (kit kN).1) := by
  unfold CT; k_fill
  intro mean mg mb dp un gd cn cs a ccd cl outer A₀ base h₀ L m news s Q E B F X N T hk hd hu hret
  refine wpAny_call ?_
  k_dflt cell_enter
  k_steps
  refine Stop.of ?_
  rename Fr _ _ _ _ => F1
  rename News _ _ _ _ => N1
  refine own_loop F1 rfl N1 ?_
  rintro n m₁ nx h tk ⟨i, l, vs, kk, tr, hi, rfl, rfl, hI, hm1, hm2, hm3⟩ F2 N2
  have e1 : m₁ = fun y => if y = PySem.Str.ofString "row" then some (Value.ref l) else if y = PySem.Str.ofString "run" then some (Value.int ((kit i).2 : Int) tr) else if y = PySem.Str.ofString "many" then some (Value.int 40 t) else m₁ y := by
    funext y
    by_cases h : y = PySem.Str.ofString "row"
    · simp [h, hm1]
    · simp only [if_neg h]
      by_cases h2 : y = PySem.Str.ofString "run"
      · simp [h2, hm2]
      · simp only [if_neg h2]
        by_cases h3 : y = PySem.Str.ofString "many"
        · simp [h3, hm3]
        · simp only [if_neg h3]
  rw [e1] at F2
  clear e1 F1 N1
  obtain ⟨k1, k2, k3, k4, k5, k6⟩ := kit_len i hi
  have hvl := hI.length
  k_steps
  · rename Fr _ _ _ _ => F5
    rename News _ _ _ _ => N5
    rename IntsAre _ _ => hI5
    rename (_ : Int) < 40 => hlt
    have hik : i < kN := k1.mp (by omega)
    refine WEnd.intro F5 N5 (n' := kN - (i + 1)) (by omega) ⟨i + 1, _, _, 0, _, hik, rfl, rfl, hI5, rfl, rfl, rfl⟩ ?_
    intro p hp
    rcases List.mem_cons.mp hp with rfl | hp
    · simp
    · simp [hp]
  · rename ¬ (_ : Int) < 40 => hlt
    have hik : i = kN := by
      have h1 : ¬ i < kN := fun h => hlt (by have := k1.mpr h; omega)
      omega
    subst hik
    rename News h₀ L _ _ => kN'
    exact hret _ [(l, W.listOf vs.toArray kk)] _ _ (by assumption) (news_sub kN' _ (by intro p hp; rcases List.mem_append.mp hp with hp | hp <;> simp_all)) ⟨l, vs, kk, rfl, rfl, hI⟩
end Mine

end
theorem Mine.calmTOwn : True ∧ True := by
  w_top off
  first | (walk1; all_goals trivial) | exact ⟨trivial, trivial⟩

section
open PySem PySem.W PyProof.Rows
set_option Elab.async false
namespace Mine
local macro_rules | `(tactic| walk_at "exec While") => `(tactic| (k_here; refine Stop.go ?_))
def BisJ (l : Addr) (x : Int) (t : Tok) (vs : List Value) (nn r len : Nat) (news : List (Addr × Obj)) (n : Nat) (m₁ : PySem.Str → Option Value) (nx : List (Addr × Obj)) : Prop :=
  ∃ lo hi t1 t2, nx = (l, W.listOf vs.toArray nn) :: news ∧ lo ≤ r ∧ r ≤ hi ∧ hi ≤ len ∧ n = hi - lo ∧ m₁ (PySem.Str.ofString "lo") = some (.int ((lo : Nat) : Int) t1) ∧ m₁ (PySem.Str.ofString "hi") = some (.int ((hi : Nat) : Int) t2) ∧ m₁ (PySem.Str.ofString "a") = some (.ref l) ∧ m₁ (PySem.Str.ofString "x") = some (.int x t)
/-- as CT, where the ledger holds something -/
abbrev CTP (w : World) (f : Addr) (d u : Nat) (vs : List Value) (P : List (Addr × Obj) → Prop) (Out : List (Addr × Obj) → Value → Prop) : Prop :=
  ∀ (mean : ExcName → Option Value) (mg mb : PySem.Str → Option Value) (dp un : Nat) (gd : Option (List Code)) (cn : PySem.Str) (cs : Scope) (a : Addr) (ccd : Value) (cl : List (PySem.Str × Addr)) (outer : List Env) (A₀ : Around) (base h₀ : Heap) (L : Addr) (m : PySem.Str → Option Value) (news : List (Addr × Obj)) (s : Shared) (Q E : Value → Shared → Prop),
    P news → Below A₀ base outer h₀ → Fr h₀ L s.heap m → (hd.heap_39 w.params).In h₀ → News h₀ L s.heap news →
    Top hd.view_39 (looseW hd.view_39 [PySem.Str.ofString "insort_left", PySem.Str.ofString "bisect_left"]) mean mg mb h₀ →
    cs.kind = .function → dp + d < recursionLimit → un + u < cLine →
    (∀ r tl h' tk', Fr h₀ L h' m → News h₀ L h' (news ++ tl) → Out tl r → Q r { s with heap := h', toks := tk' }) →
    wpAny (model PySem.Challenge.rw_gx0001_01.row.prog w) (ktrTop dp un gd cn cs L a ccd cl outer) (call (.ref f) vs) Q E s
theorem binds_KW {fd : FuncData} {args : Args} {binds : List (PySem.Str × Value)} {K : Frag} {s : Shared} {T : Addr} {o : Obj} {items : Array Value} {n : Nat} {ns : Addr} {name : PySem.Str} {r : Option Value} {k : Option (Array Value) → Sem (List (PySem.Str × Value))}
    (X : K.In s.heap) (hd : fd.defaults = .ref T) (ho : K.lookup T = some o) (hs : o.data = .seq items n) (e : nsIn K ns name = some r)
    (h₁ : bindArgs fd args = seqItems? fd.defaults >>= k) (h₂ : ∀ (M : Model) (A : Around) (E : Value → Shared → Prop) (Q : List (PySem.Str × Value) → Shared → Prop) (s : Shared), (∀ Q' : Option Value → Shared → Prop, Q' r s → wpAny M A (nsGet ns name) Q' E s) → Q binds s → wpAny M A (k (some items)) Q E s) : BindsTo s fd args binds := fun M A E Q hq => by
  rw [h₁, hd]
  refine wpAny_bind (wpAny_seqItems (X _ _ ho) hs ?_)
  refine h₂ M A E Q s (fun Q' hQ' => ?_) hq
  obtain ⟨hh, g, d, tk, os⟩ := s
  exact (looks_nsIn X e).at hQ'
set_option maxRecDepth 100000 in
set_option maxHeartbeats 1600000 in
theorem bis_ct (w : World) (l : Addr) (vs : List Value) (nn : Nat) (xs : List Int) (r : Nat) (x : Int) (t : Tok) (hI : IntsAre vs xs) (hz : xs.length ≤ 1000) (hr : r ≤ xs.length) (hr1 : ∀ i, i < r → xs.getD i 0 < x) (hr2 : ∀ i, r ≤ i → i < xs.length → x ≤ xs.getD i 0) :
    CTP w 39 10 200 [.ref l, .int x t] (fun news => (l, W.listOf vs.toArray nn) ∈ news) (fun tl v => tl = [] ∧ ∃ t', v = .int (r : Int) t') := by
  unfold CTP; k_fill
  intro mean mg mb dp un gd cn cs a ccd cl outer A₀ base h₀ L m news s Q E hmem B F X N T hk hd hu hret
  refine wpAny_call ?_
  k_dflt (refine' code_def (binds := [(PySem.Str.ofString "a", .ref l), (PySem.Str.ofString "x", .int x t), (PySem.Str.ofString "lo", .int 0 215), (PySem.Str.ofString "hi", .none), (PySem.Str.ofString "key", .none)]) ?k1 ?k2 ?k3 ?k4 ?k5 ?kA ?kF ?kK ?k6 ?k7 ?k8 ?k9 ?kB ?_ ?c2 ?c3 ?c4 ?c5; (case kA => exact rfl); (case kF => exact rfl); (case kK => assumption); (case k1 => k_asm); (case k2 => k_asm); (case k3 => k_asm); (case k4 => k_asm); (case k5 => k_asm); (case k6 => k_is); (case k7 => k_is); (case k8 => ktr_room))
  case k9 =>
    k_dflt (refine' binds_KW (ns := 32) (name := PySem.Str.ofString "key") (X.keeps F.keep) ?d1 ?d2 ?d3 ?d4 ?d5 ?d6; (case d1 => exact rfl); (case d2 => k_is); (case d3 => exact rfl); (case d4 => k_is); (case d5 => exact rfl))
    intro M A E Q s hns hq
    refine wpAny_bind (wpAny_of_eq rfl ?_)
    refine wpAny_bind ?_
    show wpAny M A (forIn (_ :: _) _ _) _ _ _
    rw [List.forIn_cons]
    refine wpAny_bind ?_
    refine wpAny_bind ?_
    refine hns _ ?_
    refine wpAny_pure ?_
    refine wpAny_of_eq rfl ?_
    refine wpAny_bind (wpAny_of_eq rfl ?_)
    exact fun _ _ _ => hq
  case c5 => decide
  case kB => exact locs rfl
  case c2 => exact rfl
  case c3 => exact rfl
  case c4 => exact rfl
  intro g' L' h' FG' F' N' B' X' T'
  (try dsimp only)
  (try k_lift B')
  (try k_fold)
  have F2 : Fr g' L' h' (fun y => List.lookup y [(PySem.Str.ofString "key", Value.none), (PySem.Str.ofString "hi", Value.none), (PySem.Str.ofString "lo", Value.int 0 215), (PySem.Str.ofString "x", Value.int x t), (PySem.Str.ofString "a", Value.ref l)]) := F'
  clear F'
  have N2 := news_sub N' ((l, W.listOf vs.toArray nn) :: news) (by intro p hp; rcases List.mem_cons.mp hp with rfl | hp <;> assumption)
  clear N'
  have hvl := hI.length
  k_steps
  refine Stop.of ?_
  rename Fr g' _ _ _ => F3
  rename News g' _ _ _ => N3
  refine While_inv (BisJ l x t vs nn r xs.length news) xs.length F3 N3 ?kJ ?_
  case kJ => exact ⟨0, xs.length, _, _, rfl, Nat.zero_le _, hr, Nat.le_refl _, rfl, rfl, rfl, rfl, rfl⟩
  clear F3 N3
  rintro n m₁ nx h tk ⟨lo, hi, t1, t2, rfl, hlo, hhi, hle, rfl, hm1, hm2, hm3, hm4⟩ F2 N2
  have e1 : m₁ = fun y => if y = PySem.Str.ofString "lo" then some (Value.int (lo : Int) t1) else if y = PySem.Str.ofString "hi" then some (Value.int (hi : Int) t2) else if y = PySem.Str.ofString "a" then some (Value.ref l) else if y = PySem.Str.ofString "x" then some (Value.int x t) else m₁ y := by
    funext y
    by_cases h : y = PySem.Str.ofString "lo"
    · simp [h, hm1]
    · simp only [if_neg h]
      by_cases h2 : y = PySem.Str.ofString "hi"
      · simp [h2, hm2]
      · simp only [if_neg h2]
        by_cases h3 : y = PySem.Str.ofString "a"
        · simp [h3, hm3]
        · simp only [if_neg h3]
          by_cases h4 : y = PySem.Str.ofString "x"
          · simp [h4, hm4]
          · simp only [if_neg h4]
  rw [e1] at F2
  clear e1
  have hM : ((lo : Int) + (hi : Int)).fdiv 2 = (((lo + hi) / 2 : Nat) : Int) := by
    rw [Int.fdiv_eq_ediv_of_nonneg _ (by omega)]; omega
  have hM1 : ((lo : Int) + (hi : Int)).fdiv 2 + 1 = (((lo + hi) / 2 + 1 : Nat) : Int) := by rw [hM]; omega
  k_steps
  · rename Fr g' _ _ _ => F5
    rename News g' _ _ _ => N5
    rename ((lo : Nat) : Int) < _ => hlt
    rename xs.getD _ 0 < x => hx
    simp only [hM1] at F5
    rw [hM, Int.toNat_natCast] at hx
    have hrr : (lo + hi) / 2 + 1 ≤ r := by
      have : ¬ r ≤ (lo + hi) / 2 := fun hle => by
        have := hr2 _ hle (by omega)
        omega
      omega
    refine WEnd.intro F5 N5 (n' := hi - ((lo + hi) / 2 + 1)) (by omega) ⟨(lo + hi) / 2 + 1, hi, _, t2, rfl, hrr, hhi, hle, rfl, rfl, rfl, rfl, rfl⟩ (fun _ hp => hp)
  · rename Fr g' _ _ _ => F5
    rename News g' _ _ _ => N5
    rename ((lo : Nat) : Int) < _ => hlt
    rename ¬ xs.getD _ 0 < x => hx
    simp only [hM] at F5
    rw [hM, Int.toNat_natCast] at hx
    have hrr : r ≤ (lo + hi) / 2 := by
      have : ¬ (lo + hi) / 2 < r := fun hle => hx (hr1 _ hle)
      omega
    refine WEnd.intro F5 N5 (n' := (lo + hi) / 2 - lo) (by omega) ⟨lo, (lo + hi) / 2, t1, _, rfl, hlo, hrr, by omega, rfl, rfl, rfl, rfl, rfl⟩ (fun _ hp => hp)
  · rename ¬ ((lo : Nat) : Int) < _ => hlt
    have : lo = r := by omega
    subst this
    rename News h₀ L _ _ => kN'
    exact hret _ [] _ _ (by assumption) (news_sub kN' _ (by intro p hp; simp_all)) ⟨rfl, _, rfl⟩
end Mine

end
theorem Mine.calmTBis : True ∧ True := by
  w_top off
  first | (walk1; all_goals trivial) | exact ⟨trivial, trivial⟩

section
open PySem PySem.W PyProof.Rows
set_option Elab.async false
namespace Mine
local macro_rules | `(tactic| walk_at "exec While") => `(tactic| (k_here; refine Stop.go ?_))
set_option maxRecDepth 100000 in
set_option maxHeartbeats 1600000 in
theorem bis4_ct (w : World) (t0 : Tok) (l : Addr) (vs : List Value) (nn : Nat) (xs : List Int) (r : Nat) (x : Int) (t : Tok) (hI : IntsAre vs xs) (hz : xs.length ≤ 1000) (hr : r ≤ xs.length) (hr1 : ∀ i, i < r → xs.getD i 0 < x) (hr2 : ∀ i, r ≤ i → i < xs.length → x ≤ xs.getD i 0) :
    CTP w 39 10 200 [.ref l, .int x t, .int 0 t0, .none] (fun news => (l, W.listOf vs.toArray nn) ∈ news) (fun tl v => tl = [] ∧ ∃ t', v = .int (r : Int) t') := by
  unfold CTP; k_fill
  intro mean mg mb dp un gd cn cs a ccd cl outer A₀ base h₀ L m news s Q E hmem B F X N T hk hd hu hret
  refine wpAny_call ?_
  k_dflt (refine' code_def (binds := [(PySem.Str.ofString "a", .ref l), (PySem.Str.ofString "x", .int x t), (PySem.Str.ofString "lo", .int 0 t0), (PySem.Str.ofString "hi", .none), (PySem.Str.ofString "key", .none)]) ?k1 ?k2 ?k3 ?k4 ?k5 ?kA ?kF ?kK ?k6 ?k7 ?k8 ?k9 ?kB ?_ ?c2 ?c3 ?c4 ?c5; (case kA => exact rfl); (case kF => exact rfl); (case kK => assumption); (case k1 => k_asm); (case k2 => k_asm); (case k3 => k_asm); (case k4 => k_asm); (case k5 => k_asm); (case k6 => k_is); (case k7 => k_is); (case k8 => ktr_room))
  case k9 =>
    k_dflt (refine' binds_KW (ns := 32) (name := PySem.Str.ofString "key") (X.keeps F.keep) ?d1 ?d2 ?d3 ?d4 ?d5 ?d6; (case d1 => exact rfl); (case d2 => k_is); (case d3 => exact rfl); (case d4 => k_is); (case d5 => exact rfl))
    intro M A E Q s hns hq
    refine wpAny_bind (wpAny_of_eq rfl ?_)
    refine wpAny_bind ?_
    show wpAny M A (forIn (_ :: _) _ _) _ _ _
    rw [List.forIn_cons]
    refine wpAny_bind ?_
    refine wpAny_bind ?_
    refine hns _ ?_
    refine wpAny_pure ?_
    refine wpAny_of_eq rfl ?_
    refine wpAny_bind (wpAny_of_eq rfl ?_)
    exact fun _ _ _ => hq
  case c5 => decide
  case kB => exact locs rfl
  case c2 => exact rfl
  case c3 => exact rfl
  case c4 => exact rfl
  intro g' L' h' FG' F' N' B' X' T'
  (try dsimp only)
  (try k_lift B')
  (try k_fold)
  have F2 : Fr g' L' h' (fun y => List.lookup y [(PySem.Str.ofString "key", Value.none), (PySem.Str.ofString "hi", Value.none), (PySem.Str.ofString "lo", Value.int 0 t0), (PySem.Str.ofString "x", Value.int x t), (PySem.Str.ofString "a", Value.ref l)]) := F'
  clear F'
  have N2 := news_sub N' ((l, W.listOf vs.toArray nn) :: news) (by intro p hp; rcases List.mem_cons.mp hp with rfl | hp <;> assumption)
  clear N'
  have hvl := hI.length
  k_steps
  refine Stop.of ?_
  rename Fr g' _ _ _ => F3
  rename News g' _ _ _ => N3
  refine While_inv (BisJ l x t vs nn r xs.length news) xs.length F3 N3 ?kJ ?_
  case kJ => exact ⟨0, xs.length, _, _, rfl, Nat.zero_le _, hr, Nat.le_refl _, rfl, rfl, rfl, rfl, rfl⟩
  clear F3 N3
  rintro n m₁ nx h tk ⟨lo, hi, t1, t2, rfl, hlo, hhi, hle, rfl, hm1, hm2, hm3, hm4⟩ F2 N2
  have e1 : m₁ = fun y => if y = PySem.Str.ofString "lo" then some (Value.int (lo : Int) t1) else if y = PySem.Str.ofString "hi" then some (Value.int (hi : Int) t2) else if y = PySem.Str.ofString "a" then some (Value.ref l) else if y = PySem.Str.ofString "x" then some (Value.int x t) else m₁ y := by
    funext y
    by_cases h : y = PySem.Str.ofString "lo"
    · simp [h, hm1]
    · simp only [if_neg h]
      by_cases h2 : y = PySem.Str.ofString "hi"
      · simp [h2, hm2]
      · simp only [if_neg h2]
        by_cases h3 : y = PySem.Str.ofString "a"
        · simp [h3, hm3]
        · simp only [if_neg h3]
          by_cases h4 : y = PySem.Str.ofString "x"
          · simp [h4, hm4]
          · simp only [if_neg h4]
  rw [e1] at F2
  clear e1
  have hM : ((lo : Int) + (hi : Int)).fdiv 2 = (((lo + hi) / 2 : Nat) : Int) := by
    rw [Int.fdiv_eq_ediv_of_nonneg _ (by omega)]; omega
  have hM1 : ((lo : Int) + (hi : Int)).fdiv 2 + 1 = (((lo + hi) / 2 + 1 : Nat) : Int) := by rw [hM]; omega
  k_steps
  · rename Fr g' _ _ _ => F5
    rename News g' _ _ _ => N5
    rename ((lo : Nat) : Int) < _ => hlt
    rename xs.getD _ 0 < x => hx
    simp only [hM1] at F5
    rw [hM, Int.toNat_natCast] at hx
    have hrr : (lo + hi) / 2 + 1 ≤ r := by
      have : ¬ r ≤ (lo + hi) / 2 := fun hle => by
        have := hr2 _ hle (by omega)
        omega
      omega
    refine WEnd.intro F5 N5 (n' := hi - ((lo + hi) / 2 + 1)) (by omega) ⟨(lo + hi) / 2 + 1, hi, _, t2, rfl, hrr, hhi, hle, rfl, rfl, rfl, rfl, rfl⟩ (fun _ hp => hp)
  · rename Fr g' _ _ _ => F5
    rename News g' _ _ _ => N5
    rename ((lo : Nat) : Int) < _ => hlt
    rename ¬ xs.getD _ 0 < x => hx
    simp only [hM] at F5
    rw [hM, Int.toNat_natCast] at hx
    have hrr : r ≤ (lo + hi) / 2 := by
      have : ¬ (lo + hi) / 2 < r := fun hle => hx (hr1 _ hle)
      omega
    refine WEnd.intro F5 N5 (n' := (lo + hi) / 2 - lo) (by omega) ⟨lo, (lo + hi) / 2, t1, _, rfl, hlo, hrr, by omega, rfl, rfl, rfl, rfl, rfl⟩ (fun _ hp => hp)
  · rename ¬ ((lo : Nat) : Int) < _ => hlt
    have : lo = r := by omega
    subst this
    rename News h₀ L _ _ => kN'
    exact hret _ [] _ _ (by assumption) (news_sub kN' _ (by intro p hp; simp_all)) ⟨rfl, _, rfl⟩
end Mine

end
theorem Mine.calmTBis4 : True ∧ True := by
  w_top off
  first | (walk1; all_goals trivial) | exact ⟨trivial, trivial⟩

section
open PySem PySem.W PyProof.Rows
set_option Elab.async false
namespace Mine
theorem CTP.use {w : World} {f : Addr} {d u : Nat} {vs : List Value} {P : List (Addr × Obj) → Prop} {Out : List (Addr × Obj) → Value → Prop} (C : CTP w f d u vs P Out)
    {mean : ExcName → Option Value} {mg mb : PySem.Str → Option Value} {dp un : Nat} {gd : Option (List Code)} {cn : PySem.Str} {cs : Scope} {a : Addr} {ccd : Value} {cl : List (PySem.Str × Addr)} {outer : List Env} {A₀ : Around} {base h₀ : Heap} {L : Addr} {m : PySem.Str → Option Value} {news : List (Addr × Obj)} {s : Shared} {Q E : Value → Shared → Prop}
    (B : Below A₀ base outer h₀) (F : Fr h₀ L s.heap m) (X : (hd.heap_39 w.params).In h₀) (N : News h₀ L s.heap news) (hP : P news)
    (T : Top hd.view_39 (looseW hd.view_39 [PySem.Str.ofString "insort_left", PySem.Str.ofString "bisect_left"]) mean mg mb h₀)
    (hk : cs.kind = .function) (hd : dp + d < recursionLimit) (hu : un + u < cLine)
    (hret : ∀ r tl h' tk', Fr h₀ L h' m → News h₀ L h' (news ++ tl) → Out tl r → Q r { s with heap := h', toks := tk' }) :
    wpAny (model PySem.Challenge.rw_gx0001_01.row.prog w) (ktrTop dp un gd cn cs L a ccd cl outer) (call (.ref f) vs) Q E s :=
  C _ _ _ _ _ _ _ _ _ _ _ _ _ _ _ _ _ _ _ _ _ hP B F X N T hk hd hu hret
set_option maxRecDepth 100000 in
theorem insert_any {prog : Program} {w : World} {A : Around} {E : Value → Shared → Prop} {s : Shared} {h₀ : Heap} {m : PySem.Str → Option Value} {L D : Addr} {news : List (Addr × Obj)} {vs : List Value} {r : Nat} {u : Tok} {v : Value} {n : Nat} {Q : Value → Shared → Prop}
    (F : Fr h₀ L s.heap m) (N : News h₀ L s.heap news) (hm : (D, W.listOf vs.toArray n) ∈ news) (hr : r ≤ vs.length) (hz : vs.length < 1000000)
    (h : ∀ h', Fr h₀ L h' m → Turned h₀ L h' news D (W.listOf (vs.take r ++ v :: vs.drop r).toArray (n + 1)) → Q .none { s with heap := h' }) :
    wpAny (model prog w) A (call (.builtin "list.insert") [.ref D, .int (r : Int) u, v]) Q E s := by
  have z := N _ hm
  have hf : Builtin.List.listFitsIndex (r : Int) = true := by
    have h1 : (0 : Int) ≤ (r : Int) := by omega
    have h2 : (r : Int) < 1000000 := by omega
    generalize (r : Int) = k at h1 h2
    have e1 : (-(2 ^ 63 : Int)) ≤ k := Int.le_trans (by decide) h1
    have e2 : k < (2 ^ 63 : Int) := Int.lt_of_lt_of_le h2 (by decide)
    unfold Builtin.List.listFitsIndex
    rw [decide_eq_true e1, decide_eq_true e2]; rfl
  have hsz : vs.toArray.size ≤ sizeLine := by rw [List.size_toArray, sizeLine_eq]; omega
  have hnf : ¬ (!Builtin.List.listFitsIndex (r : Int)) = true := by rw [hf]; decide
  revert hf hnf
  have hneg : ¬ (r : Int) < 0 := by omega
  have htn : (r : Int).toNat = r := by omega
  generalize (r : Int) = k at hneg htn
  intro hf hnf
  refine call_meets PySem.F.slot_list_insert ⟨_, z.1, rfl⟩ PySem.F.entry_list_insert (PySem.F.args_list_insert_3 _ _ _) (PySem.AutoSeq1.list_insert_list_int_val_1 D _ n k u v hnf hsz) ⟨z.1, h _ (F.change (Heap.SameBut.update ..) z.2.1 z.2.2) (turned_of N hm (Heap.SameBut.update ..) ?_)⟩
  have q : ∀ f : Array Value → Array Value, f vs.toArray = (vs.take r ++ v :: vs.drop r).toArray → (s.heap.update D (Obj.mapSeq f)).get? D = some (W.listOf (vs.take r ++ v :: vs.drop r).toArray (n + 1)) := fun f e => by
    have q := PySem.IsL.update z.1 f
    rw [e, if_neg (by simp only [List.size_toArray, List.length_append, List.length_cons, List.length_take, List.length_drop, beq_iff_eq]; omega)] at q
    exact q
  refine q _ ?_
  show (vs.toArray.extract 0 (if k < 0 then (k + (vs.toArray.size : Int)).toNat else min k.toNat vs.toArray.size)).push v ++ vs.toArray.extract (if k < 0 then (k + (vs.toArray.size : Int)).toNat else min k.toNat vs.toArray.size) = _
  have hk' : (if k < 0 then (k + (vs.toArray.size : Int)).toNat else min k.toNat vs.toArray.size) = r := by rw [if_neg hneg, htn, List.size_toArray, Nat.min_eq_left hr]
  rw [hk', kl_ins_eq]
/-- the contract of insort_left: it turns the list, and gives none -/
abbrev InsCT (w : World) (d u : Nat) (l : Addr) (vs : List Value) (nn : Nat) (r : Nat) (v : Value) : Prop :=
  ∀ (mean : ExcName → Option Value) (mg mb : PySem.Str → Option Value) (dp un : Nat) (gd : Option (List Code)) (cn : PySem.Str) (cs : Scope) (a : Addr) (ccd : Value) (cl : List (PySem.Str × Addr)) (outer : List Env) (A₀ : Around) (base h₀ : Heap) (L : Addr) (m : PySem.Str → Option Value) (post : List (Addr × Obj)) (s : Shared) (Q E : Value → Shared → Prop),
    (∀ p ∈ post, p.1 ≠ l) → Below A₀ base outer h₀ → Fr h₀ L s.heap m → (hd.heap_39 w.params).In h₀ → News h₀ L s.heap ((l, W.listOf vs.toArray nn) :: post) →
    Top hd.view_39 (looseW hd.view_39 [PySem.Str.ofString "insort_left", PySem.Str.ofString "bisect_left"]) mean mg mb h₀ →
    cs.kind = .function → dp + d < recursionLimit → un + u < cLine →
    (∀ h' tk', Fr h₀ L h' m → News h₀ L h' ((l, W.listOf (vs.take r ++ v :: vs.drop r).toArray (nn + 1)) :: post) → Q .none { s with heap := h', toks := tk' }) →
    wpAny (model PySem.Challenge.rw_gx0001_01.row.prog w) (ktrTop dp un gd cn cs L a ccd cl outer) (call (.ref 30) [.ref l, v]) Q E s
local macro_rules | `(tactic| walk_at "call ref") => `(tactic| (k_here; refine Stop.go ?_))
local macro_rules | `(tactic| walk_at "call builtin:list.insert") => `(tactic| (k_here; refine Stop.go ?_))
set_option maxRecDepth 100000 in
set_option maxHeartbeats 1600000 in
theorem ins_ct (w : World) (l : Addr) (vs : List Value) (nn : Nat) (xs : List Int) (r : Nat) (x : Int) (t : Tok) (hI : IntsAre vs xs) (hz : xs.length ≤ 1000) (hr : r ≤ xs.length) (hr1 : ∀ i, i < r → xs.getD i 0 < x) (hr2 : ∀ i, r ≤ i → i < xs.length → x ≤ xs.getD i 0) :
    InsCT w 20 400 l vs nn r (.int x t) := by
  unfold InsCT; k_fill
  intro mean mg mb dp un gd cn cs a ccd cl outer A₀ base h₀ L m post s Q E hpost B F X N T hk hd hu hret
  refine wpAny_call ?_
  k_dflt (refine' code_def (binds := [(PySem.Str.ofString "a", .ref l), (PySem.Str.ofString "x", .int x t), (PySem.Str.ofString "lo", .int 0 202), (PySem.Str.ofString "hi", .none), (PySem.Str.ofString "key", .none)]) ?k1 ?k2 ?k3 ?k4 ?k5 ?kA ?kF ?kK ?k6 ?k7 ?k8 ?k9 ?kB ?_ ?c2 ?c3 ?c4 ?c5; (case kA => exact rfl); (case kF => exact rfl); (case kK => assumption); (case k1 => k_asm); (case k2 => k_asm); (case k3 => k_asm); (case k4 => k_asm); (case k5 => k_asm); (case k6 => k_is); (case k7 => k_is); (case k8 => ktr_room))
  case k9 =>
    k_dflt (refine' binds_KW (ns := 23) (name := PySem.Str.ofString "key") (X.keeps F.keep) ?d1 ?d2 ?d3 ?d4 ?d5 ?d6; (case d1 => exact rfl); (case d2 => k_is); (case d3 => exact rfl); (case d4 => k_is); (case d5 => exact rfl))
    intro M A E Q s hns hq
    refine wpAny_bind (wpAny_of_eq rfl ?_)
    refine wpAny_bind ?_
    show wpAny M A (forIn (_ :: _) _ _) _ _ _
    rw [List.forIn_cons]
    refine wpAny_bind ?_
    refine wpAny_bind ?_
    refine hns _ ?_
    refine wpAny_pure ?_
    refine wpAny_of_eq rfl ?_
    refine wpAny_bind (wpAny_of_eq rfl ?_)
    exact fun _ _ _ => hq
  case c5 => decide
  case kB => exact locs rfl
  case c2 => exact rfl
  case c3 => exact rfl
  case c4 => exact rfl
  intro g' L' h' FG' F' N' B' X' T'
  (try dsimp only)
  (try k_lift B')
  (try k_fold)
  have F2 : Fr g' L' h' (fun y => List.lookup y [(PySem.Str.ofString "key", Value.none), (PySem.Str.ofString "hi", Value.none), (PySem.Str.ofString "lo", Value.int 0 202), (PySem.Str.ofString "x", Value.int x t), (PySem.Str.ofString "a", Value.ref l)]) := F'
  clear F'
  have hvl := hI.length
  k_steps
  refine Stop.of ?_
  k_dflt (refine' CTP.use (bis4_ct w 202 l vs nn xs r x t hI hz hr hr1 hr2) ?kB ?kF ?kX ?kN ?kP ?kT ?kk ?kd ?ku ?_)
  case kB => k_asm
  case kF => k_asm
  case kX => k_asm
  case kN => k_asm
  case kP => exact List.mem_cons_self ..
  case kT => k_asm
  case kk => rfl
  case kd => ktr_room
  case ku => ktr_units
  rintro v tl h1 tk1 F3 N3 ⟨rfl, t1, rfl⟩
  rw [List.append_nil] at N3
  clear F2 N'
  k_steps
  refine Stop.of ?_
  rename Fr g' _ _ _ => F3
  rename News g' _ _ _ => N3
  refine insert_any F3 N3 (List.mem_cons_self ..) (by omega) (by omega) ?_
  intro h4 F4 T4
  have N4 := T4 ((l, W.listOf (vs.take r ++ Value.int x t :: vs.drop r).toArray (nn + 1)) :: post) (by
    intro p hp
    rcases List.mem_cons.mp hp with rfl | hp
    · exact .inl rfl
    · exact .inr ⟨List.mem_cons_of_mem _ hp, hpost p hp⟩)
  clear F3 N3 T4
  k_steps
  rename News h₀ L _ _ => kN'
  exact hret _ _ (by assumption) kN'
end Mine

end
theorem Mine.calmTIns : True ∧ True := by
  w_top off
  first | (walk1; all_goals trivial) | exact ⟨trivial, trivial⟩

section
open PySem PySem.W PySem.Calls PyProof.Rows
set_option Elab.async false
set_option maxRecDepth 100000
namespace Mine
noncomputable def kolR : List Int := (kit kN).1
/-- the runs' beginnings from place 41 - i on -/
noncomputable def begs : Nat → List Int
  | 0 => []
  | i + 1 => if 40 - i = 0 ∨ kolR.getD (40 - i - 1) 0 ≠ kolR.getD (40 - i) 0 then ((40 - i : Nat) : Int) :: begs i else begs i
theorem kolR_length : kolR.length = 41 := by decide +kernel
theorem begs_ge : ∀ i, ∀ x ∈ begs i, ((41 - i : Nat) : Int) ≤ x
  | 0, x, h => nomatch h
  | i + 1, x, h => by
    unfold begs at h
    split at h
    · rcases List.mem_cons.mp h with rfl | h
      · omega
      · have := begs_ge i x h; omega
    · have := begs_ge i x h; omega
theorem begs_length : ∀ i, (begs i).length ≤ i
  | 0 => Nat.le_refl _
  | i + 1 => by
    have := begs_length i
    unfold begs
    split
    · simp only [List.length_cons]; omega
    · omega
/-- what holds between the parts of the law's tail -/
def KolJ (c2 c3 : Addr) (i : Nat) (_ : PySem.Str → Option Value) (nx : List (Addr × Obj)) : Prop :=
  ∃ o2 o3 ra ba vs nn bvs bn, nx = [(ba, W.listOf (bvs : List Value).toArray bn), (ra, W.listOf (vs : List Value).toArray nn), (c3, o3), (c2, o2)] ∧
    o2.data = .cell (some (.ref ra)) ∧ o3.data = .cell (some (.ref ba)) ∧ IntsAre vs kolR ∧ IntsAre bvs (begs i)
def KolS (h₀ : Heap) (L c2 c3 : Addr) (i : Nat) (s₁ s' : Shared) : Prop :=
  ∃ h' tk' m nx, s' = { s₁ with heap := h', toks := tk' } ∧ Fr h₀ L h' m ∧ News h₀ L h' nx ∧ KolJ c2 c3 i m nx
theorem KolS.intro {h₀ : Heap} {L c2 c3 : Addr} {i : Nat} {s₁ : Shared} {h' : Heap} {tk' : Nat} {m : PySem.Str → Option Value} {news nx : List (Addr × Obj)} (F : Fr h₀ L h' m) (N : News h₀ L h' news) (hs : ∀ p ∈ nx, p ∈ news) (J : KolJ c2 c3 i m nx) :
    KolS h₀ L c2 c3 i s₁ { s₁ with heap := h', toks := tk' } := ⟨h', tk', m, nx, rfl, F, news_sub N _ hs, J⟩
theorem kol_apart {h₀ h : Heap} {L c2 c3 ra ba : Addr} {o2 o3 : Obj} {vs bvs : List Value} {nn bn : Nat} {x2 x3 : Option Value} {i : Nat} (hi : i ≤ 40)
    (N : News h₀ L h [(ba, W.listOf bvs.toArray bn), (ra, W.listOf vs.toArray nn), (c3, o3), (c2, o2)]) (d2 : o2.data = .cell x2) (d3 : o3.data = .cell x3) (h1 : IntsAre vs kolR) (h2 : IntsAre bvs (begs i)) :
    ∀ p ∈ [(ra, W.listOf vs.toArray nn), (c3, o3), (c2, o2)], p.1 ≠ ba := by
  have zb := (N (ba, W.listOf bvs.toArray bn) (by simp)).1
  have za := (N (ra, W.listOf vs.toArray nn) (by simp)).1
  have z3 := (N (c3, o3) (by simp)).1
  have z2 := (N (c2, o2) (by simp)).1
  have l1 := h1.length
  have l2 := h2.length
  have l3 := begs_length i
  rw [kolR_length] at l1
  intro p hp e
  simp only [List.mem_cons, List.not_mem_nil, or_false] at hp
  rcases hp with rfl | rfl | rfl
  · have e' : ra = ba := e
    subst e'
    rw [za] at zb
    have := congrArg (fun o : Option Obj => o.map (·.data)) zb
    simp only [Option.map_some, W.listOf, Option.some.injEq, Data.seq.injEq] at this
    have h5 : vs = bvs := by simpa using this.1
    rw [h5] at l1
    omega
  · have e' : c3 = ba := e
    subst e'
    rw [z3] at zb
    have e5 : o3 = W.listOf bvs.toArray bn := Option.some.inj zb
    rw [e5] at d3
    exact nomatch d3
  · have e' : c2 = ba := e
    subst e'
    rw [z2] at zb
    have e5 : o2 = W.listOf bvs.toArray bn := Option.some.inj zb
    rw [e5] at d2
    exact nomatch d2
/-- the tail behind its first loop -/
abbrev KolBack (w : World) : Prop :=
  ∀ (mean : ExcName → Option Value) (mg mb : PySem.Str → Option Value) (h₀ : Heap) (L c2 c3 : Addr) (s₁ s : Shared) (Q : Flow → Shared → Prop),
    (hd.heap_39 w.params).In h₀ → Top hd.view_39 (looseW hd.view_39 [PySem.Str.ofString "insort_left", PySem.Str.ofString "bisect_left"]) mean mg mb h₀ →
    Below callerA h₀ [] h₀ → c2 = L + 1 + 1 → c3 = L + 1 + 1 + 1 → KolS h₀ L c2 c3 41 s₁ s →
    (∀ h' tk' m, Fr h₀ L h' m → Q (.ret (.bool true)) { s₁ with heap := h', toks := tk' }) →
    wpAny (model PySem.Challenge.rw_gx0001_01.row.prog w) (lawA w.params L) (execs ((lawRest w.params).drop 3) (envOfC (PySem.Str.ofString "law") (lawScope w.params) L 68 (.ref 67))) Q (fun _ _ => False) s
end Mine

end
theorem Mine.calmKolDef : True ∧ True := by
  w_top off
  first | (walk1; all_goals trivial) | exact ⟨trivial, trivial⟩

section
open PySem PySem.W PySem.Calls PyProof.Rows
set_option Elab.async false
set_option maxRecDepth 100000
namespace Mine
local macro_rules | `(tactic| walk_at "call ref") => `(tactic| (k_here; refine Stop.go ?_))
local macro_rules | `(tactic| walk_at "eval ListComp") => `(tactic| (k_here; refine Stop.go ?_))
local macro_rules | `(tactic| walk_at "pyIter ref") => `(tactic| (k_here; refine Stop.go ?_))
def Kol0 (h₀ : Heap) (L c2 c3 : Addr) (o3 : Obj) (m₁ : PySem.Str → Option Value) (s₁ s' : Shared) : Prop :=
  ∃ h' tk' o2 ra vs nn, s' = { s₁ with heap := h', toks := tk' } ∧ Fr h₀ L h' m₁ ∧ News h₀ L h' [(ra, W.listOf (vs : List Value).toArray nn), (c3, o3), (c2, o2)] ∧ o2.data = .cell (some (.ref ra)) ∧ IntsAre vs kolR
theorem InsCT.use {w : World} {d u : Nat} {l : Addr} {vs : List Value} {nn r : Nat} {v : Value} (C : InsCT w d u l vs nn r v)
    {mean : ExcName → Option Value} {mg mb : PySem.Str → Option Value} {dp un : Nat} {gd : Option (List Code)} {cn : PySem.Str} {cs : Scope} {a : Addr} {ccd : Value} {cl : List (PySem.Str × Addr)} {outer : List Env} {A₀ : Around} {base h₀ : Heap} {L : Addr} {m : PySem.Str → Option Value} {post : List (Addr × Obj)} {s : Shared} {Q E : Value → Shared → Prop}
    (hp : ∀ p ∈ post, p.1 ≠ l) (B : Below A₀ base outer h₀) (F : Fr h₀ L s.heap m) (X : (hd.heap_39 w.params).In h₀) (N : News h₀ L s.heap ((l, W.listOf vs.toArray nn) :: post))
    (T : Top hd.view_39 (looseW hd.view_39 [PySem.Str.ofString "insort_left", PySem.Str.ofString "bisect_left"]) mean mg mb h₀)
    (hk : cs.kind = .function) (hd : dp + d < recursionLimit) (hu : un + u < cLine)
    (hret : ∀ h' tk', Fr h₀ L h' m → News h₀ L h' ((l, W.listOf (vs.take r ++ v :: vs.drop r).toArray (nn + 1)) :: post) → Q .none { s with heap := h', toks := tk' }) :
    wpAny (model PySem.Challenge.rw_gx0001_01.row.prog w) (ktrTop dp un gd cn cs L a ccd cl outer) (call (.ref 30) [.ref l, v]) Q E s :=
  C _ _ _ _ _ _ _ _ _ _ _ _ _ _ _ _ _ _ _ _ _ hp B F X N T hk hd hu hret
theorem begs_yes {i k : Nat} (hk : k = 40 - i) (h : k = 0 ∨ kolR.getD (k - 1) 0 ≠ kolR.getD k 0) : begs (i + 1) = (k : Int) :: begs i := by
  subst hk
  rw [begs, if_pos h]
theorem begs_no {i k : Nat} (hk : k = 40 - i) (h : ¬ (k = 0 ∨ kolR.getD (k - 1) 0 ≠ kolR.getD k 0)) : begs (i + 1) = begs i := by
  subst hk
  rw [begs, if_neg h]
set_option maxRecDepth 100000 in
set_option maxHeartbeats 1600000 in
theorem kol_front (w : World) (HB : KolBack w) : KolRest w := by
  unfold KolRest; k_fill
  intro mean mg mb h₀ L c2 c3 o3 o2 m₁ h tk s₁ Q X T B hc2 hc3 d2 d3 F N hret
  subst hc2 hc3
  show wpAny _ (callerA.deeper (envOfC (PySem.Str.ofString "law") ⟨_, _, _, _, _⟩ _ _ _)) (execs [_, _, _, _, _, _] (envOfC (PySem.Str.ofString "law") ⟨_, _, _, _, _⟩ _ _ _)) _ _ _
  refine wpAny_cut (Kol0 h₀ L (L + 1 + 1) (L + 1 + 1 + 1) o3 m₁ s₁) ?_ ?_
  · k_fold
    k_steps
    refine Stop.of ?_
    k_dflt (refine' CT.use (own_ct w _) ?kB ?kF ?kX ?kN ?kT ?kk ?kd ?ku ?_)
    case kB => k_asm
    case kF => k_asm
    case kX => k_asm
    case kN => k_asm
    case kT => k_asm
    case kk => rfl
    case kd => decide
    case ku => decide
    rintro r1 tl1 h1 tk1 F1 N1 ⟨l1, vs, nn, rfl, rfl, hI⟩
    k_steps
    rename Fr h₀ L _ _ => F5
    rename News h₀ L _ _ => N5
    rename Obj.data _ = Data.cell (some _) => dN
    refine ⟨_, _, _, _, vs, nn, rfl, F5, news_sub N5 _ ?_, dN, hI⟩
    intro p hp; simp only [List.mem_cons, List.not_mem_nil, or_false] at hp; rcases hp with rfl | rfl | rfl <;> simp
  rintro s' ⟨h', tk', o2', ra, vs, nn, rfl, F2, N2, d2', hI⟩
  clear F N d2
  refine wpAny_cut (KolS h₀ L (L + 1 + 1) (L + 1 + 1 + 1) 0 s₁) ?_ ?_
  · k_fold
    k_steps
    rename Fr h₀ L _ _ => F5
    rename News h₀ L _ _ => N5
    rename Obj.data _ = Data.cell (some _) => dN
    refine KolS.intro F5 N5 ?_ ⟨_, _, _, _, vs, nn, [], 0, rfl, d2', dN, hI, .nil⟩
    intro p hp; simp only [List.mem_cons, List.not_mem_nil, or_false] at hp; rcases hp with rfl | rfl | rfl | rfl <;> simp
  rintro s' ⟨h', tk', m, nx, rfl, F, N, o2, o3, ra, ba, vs, nn, bvs, bn, rfl, d2, d3, hI, hB⟩
  clear F2 N2 d2'
  have hvl := hI.length
  have hkl : kolR.length ≤ 41 := by rw [kolR_length]; exact Nat.le_refl _
  refine wpAny_cut (KolS h₀ L (L + 1 + 1) (L + 1 + 1 + 1) 41 s₁) ?_ ?_
  · k_fold
    k_steps
    refine Stop.of ?_
    rename IsRange _ _ _ _ _ _ _ _ => hR
    rename Fr h₀ L _ _ => F2
    rename News h₀ L _ _ => N2
    rw [kolR_length] at hR
    refine range_loop (n := 41) (KolJ (L + 1 + 1) (L + 1 + 1 + 1)) (by rfl) hR (by decide) (by decide) F2 N2 ⟨_, _, _, _, _, _, _, _, rfl, d2, d3, hI, hB⟩ ?_ ?_
    · clear hvl hI hB d2 d3 F2 N2 hR
      rintro i t m₁ nx h tk own hi hoff ⟨o2, o3, ra, ba, vs, nn, bvs, bn, rfl, d2, d3, hI, hB⟩ F₁ N₁
      obtain ⟨k, hk⟩ : ∃ k : Nat, k = 40 - i := ⟨_, rfl⟩
      have ek : ((41 : Nat) : Int) - 1 + (i : Int) * (0 - 1) = (k : Int) := by omega
      rw [ek] at F₁
      have hvl := hI.length
      have hbl := hB.length
      have hkl := kolR_length
      have hk40 : k < kolR.length := by omega
      have hsm : ∀ j, 0 ≤ j → j < (begs i).length → (k : Int) ≤ (begs i).getD j 0 := by
        intro j _ hj
        rw [List.getD_eq_getElem?_getD, List.getElem?_eq_getElem hj, Option.getD_some]
        have := begs_ge i _ (List.getElem_mem hj)
        omega
      have hap : ∀ p ∈ [(ra, W.listOf vs.toArray nn), (L + 1 + 1 + 1, o3), (L + 1 + 1, o2)] ++ own, p.1 ≠ ba := by
        intro p hp
        rcases List.mem_append.mp hp with hp | hp
        · exact kol_apart (by omega) (news_sub N₁ _ (fun p hp => List.mem_append.mpr (.inl hp))) d2 d3 hI hB p hp
        · exact hoff p hp ba (by simp)
      have hbz := begs_length i
      k_steps
      · refine Stop.of ?_
        rename ((k : Nat) : Int) = 0 => hk0
        k_dflt (refine' InsCT.use (ins_ct w ba bvs bn (begs i) 0 k t hB (by omega) (Nat.zero_le _) (fun j hj => absurd hj (Nat.not_lt_zero _)) hsm) hap ?kB ?kF ?kX ?kN ?kT ?kk ?kd ?ku ?_)
        case kB => k_asm
        case kF => k_asm
        case kX => k_asm
        case kN => exact N₁
        case kT => k_asm
        case kk => rfl
        case kd => decide
        case ku => decide
        intro h5 tk5 F5 N5
        k_steps
        rename Fr h₀ L _ _ => F6
        rename News h₀ L _ _ => N6
        have hB' : IntsAre (Value.int (k : Int) t :: bvs) (begs (i + 1)) := by rw [begs_yes hk (.inl (by omega))]; exact .cons _ _ hB
        have N7 : News h₀ L _ ([(ba, W.listOf (Value.int (k : Int) t :: bvs).toArray (bn + 1)), (ra, W.listOf vs.toArray nn), (L + 1 + 1 + 1, o3), (L + 1 + 1, o2)] ++ own) := N6
        exact InvEndG.intro F6 N7 ⟨_, _, _, _, _, _, _, _, rfl, d2, d3, hI, hB'⟩ hoff (fun p hp => List.mem_append.mpr (.inl hp)) fun p hp => List.mem_append.mpr (.inr hp)
      · refine Stop.of ?_
        rename ((k : Nat) : Int) ≠ 0 => hk0
        rename kolR.getD _ _ ≠ kolR.getD _ _ => hne
        k_dflt (refine' InsCT.use (ins_ct w ba bvs bn (begs i) 0 k t hB (by omega) (Nat.zero_le _) (fun j hj => absurd hj (Nat.not_lt_zero _)) hsm) hap ?kB ?kF ?kX ?kN ?kT ?kk ?kd ?ku ?_)
        case kB => k_asm
        case kF => k_asm
        case kX => k_asm
        case kN => exact N₁
        case kT => k_asm
        case kk => rfl
        case kd => decide
        case ku => decide
        intro h5 tk5 F5 N5
        k_steps
        rename Fr h₀ L _ _ => F6
        rename News h₀ L _ _ => N6
        have hB' : IntsAre (Value.int (k : Int) t :: bvs) (begs (i + 1)) := by
          rw [begs_yes hk (.inr (by rwa [show ((k : Int) - 1).toNat = k - 1 by omega, Int.toNat_natCast] at hne))]; exact .cons _ _ hB
        have N7 : News h₀ L _ ([(ba, W.listOf (Value.int (k : Int) t :: bvs).toArray (bn + 1)), (ra, W.listOf vs.toArray nn), (L + 1 + 1 + 1, o3), (L + 1 + 1, o2)] ++ own) := N6
        exact InvEndG.intro F6 N7 ⟨_, _, _, _, _, _, _, _, rfl, d2, d3, hI, hB'⟩ hoff (fun p hp => List.mem_append.mpr (.inl hp)) fun p hp => List.mem_append.mpr (.inr hp)
      · rename ((k : Nat) : Int) ≠ 0 => hk0
        rename kolR.getD _ _ = kolR.getD _ _ => hne
        have hB' : IntsAre bvs (begs (i + 1)) := by
          rw [begs_no hk (by rw [show ((k : Int) - 1).toNat = k - 1 by omega, Int.toNat_natCast] at hne; exact fun h => h.elim (fun h => by omega) (fun h => h hne))]; exact hB
        exact InvEndG.intro F₁ N₁ ⟨_, _, _, _, _, _, _, _, rfl, d2, d3, hI, hB'⟩ hoff (fun p hp => List.mem_append.mpr (.inl hp)) fun p hp => List.mem_append.mpr (.inr hp)
    · intro m₂ nx h tk hJ F₁ N₁
      exact KolS.intro F₁ N₁ (fun _ h => h) hJ
  intro s' hs
  exact HB mean mg mb h₀ L _ _ s₁ s' Q X T B rfl rfl hs hret
end Mine

end
theorem Mine.calmKol1 : True ∧ True := by
  w_top off
  first | (walk1; all_goals trivial) | exact ⟨trivial, trivial⟩

section
open PySem PySem.W PySem.Calls PyProof.Rows
set_option Elab.async false
set_option maxRecDepth 100000
namespace Mine
local macro_rules | `(tactic| walk_at "call ref") => `(tactic| (k_here; refine Stop.go ?_))
local macro_rules | `(tactic| walk_at "eval ListComp") => `(tactic| (k_here; refine Stop.go ?_))
local macro_rules | `(tactic| walk_at "pyIter ref") => `(tactic| (k_here; refine Stop.go ?_))
local macro_rules | `(tactic| walk_at "CompSrcT") => `(tactic| (k_here; refine Stop.go ?_))
section
open PyProof.Rows.LCg PyProof.Rows.LCt
variable {prog : Program} {w : World} {A : Around} {s : Shared} {h₀ : Heap} {L : Addr} {m : PySem.Str → Option Value} {env : Env}
/-- the turns of a comprehension whose test never holds -/
theorem compRestT_none {ct elt : PySem.Expr} {x : PySem.Str} {scope : Scope} {cl : List (PySem.Str × Addr)} {S : List (Addr × Obj) → Prop} {P : Nat → Value → Prop} {Fin : List Value → List (Addr × Obj) → Prop} {news : List (Addr × Obj)} {n : Nat}
    (step : ∀ i, i < n → ∀ v I oI C oC D m₂ h tk (E' : Value → Shared → Prop), P i v → NsObj oC m₂ → m₂ x = some v → Fr h₀ L h m → News h₀ L h ((I, oI) :: (C, oC) :: (D, lst []) :: news) → Off3 I C D news → ((@Ne Nat I C) ∧ (@Ne Nat I D) ∧ (@Ne Nat C D)) →
      wpAny (model prog w) A (isTrue ct (compEnvC scope cl C env) (eval ct (compEnvC scope cl C env))) (fun ok s' => ok = false ∧ CompEnd h₀ L m { s with heap := h, toks := tk } I oI C oC D (lst []) S (fun _ news' => news' = news) Value.none s') E' { s with heap := h, toks := tk })
    (fin : Fin [] news) : CompRestT prog w A h₀ L m env ct elt x scope cl s S P Fin n 0 [] news := by
  have key : ∀ k i, i + k = n → CompRestT prog w A h₀ L m env ct elt x scope cl s S P Fin k i [] news := by
    intro k
    induction k with
    | zero => intro i hi; exact CompRestT.zero fin
    | succ k ih =>
      intro i hi
      refine CompRestT.succ fun v I oI C oC D m₂ h tk E' hP hC hx F N off ne => ?_
      refine wpAny_mono (step i (by omega) v I oI C oC D m₂ h tk E' hP hC hx F N off ne) (fun ok s₂ hy => ?_) fun _ _ e => e
      obtain ⟨rfl, h', tk', news', rfl, F', N', off', hS, rfl⟩ := hy
      simp only [Bool.false_eq_true, if_false]
      exact ⟨h', tk', news', rfl, F', N', off', hS, ih (i + 1) (by omega)⟩
  exact key n 0 (by omega)
end
theorem kol_sorted {l : List Int} (hp : l.Perm (begs 41)) (hs : l.Pairwise fun a b => a ≤ b) : begs 41 = l := by
  have h : (begs 41).Pairwise fun a b => a ≤ b := by decide +kernel
  exact (List.Perm.eq_of_pairwise (fun _ _ _ _ a b => Int.le_antisymm a b) hs h hp).symm
theorem begs_gap : ∀ i, i < 26 → (begs 41).getD (i + 1) 0 - (begs 41).getD i 0 = kolR.getD i 0 := by
  have h : ∀ i : Fin 26, (begs 41).getD (i.1 + 1) 0 - (begs 41).getD i.1 0 = kolR.getD i.1 0 := by decide +kernel
  exact fun i hi => h ⟨i, hi⟩
/-- the place behind the last beginning that is not above k -/
noncomputable def rpos (k : Nat) : Nat := ((begs 41).filter fun x => decide (x ≤ (k : Int))).length
theorem rpos_facts (k : Nat) (hk : k < 41) : (1 ≤ rpos k ∧ rpos k ≤ 27) ∧ (∀ j, j < rpos k → (begs 41).getD j 0 < (k : Int) + 1) ∧ (∀ j, rpos k ≤ j → j < 27 → (k : Int) + 1 ≤ (begs 41).getD j 0) ∧
    kolR.getD k 0 = 1 + ((rpos k : Int) - 1).fmod 2 := by
  have h : ∀ k : Fin 41, (1 ≤ rpos k.1 ∧ rpos k.1 ≤ 27) ∧ (∀ j : Fin 27, j.1 < rpos k.1 → (begs 41).getD j.1 0 < (k.1 : Int) + 1) ∧ (∀ j : Fin 27, rpos k.1 ≤ j.1 → (k.1 : Int) + 1 ≤ (begs 41).getD j.1 0) ∧
      kolR.getD k.1 0 = 1 + ((rpos k.1 : Int) - 1).fmod 2 := by decide +kernel
  obtain ⟨h1, h2, h3, h4⟩ := h ⟨k, hk⟩
  exact ⟨h1, fun j hj => h2 ⟨j, by have := h1.2; dsimp only at this; omega⟩ hj, fun j hj hj' => h3 ⟨j, hj'⟩ hj, h4⟩
theorem begs_len : (begs 41).length = 27 := by decide +kernel
set_option maxRecDepth 100000 in
set_option maxHeartbeats 1600000 in
theorem kol_back (w : World) : KolBack w := by
  unfold KolBack; k_fill
  intro mean mg mb h₀ L c2 c3 s₁ s Q X T B hc2 hc3 hmid hret
  subst hc2 hc3
  obtain ⟨h', tk', m, nx, rfl, F, N, o2, o3, ra, ba, vs, nn, bvs, bn, rfl, d2, d3, hI, hB⟩ := hmid
  have hvl := hI.length
  have hbl := hB.length
  have hkl := kolR_length
  have hbz := begs_length 41
  show wpAny _ (callerA.deeper (envOfC (PySem.Str.ofString "law") ⟨_, _, _, _, _⟩ _ _ _)) (execs [_, _, _] (envOfC (PySem.Str.ofString "law") ⟨_, _, _, _, _⟩ _ _ _)) _ _ _
  have hbn := begs_len
  refine wpAny_cut (KolS h₀ L (L + 1 + 1) (L + 1 + 1 + 1) 41 s₁) ?_ ?_
  · k_fold
    k_steps
    · refine Stop.of ?_
      rename Fr h₀ L _ _ => F1
      rename News h₀ L _ _ => N1
      have N2 := news_sub N1 [(ba, W.listOf bvs.toArray bn), (ra, W.listOf vs.toArray nn), (L + 1 + 1 + 1, o3), (L + 1 + 1, o2)] (fun p hp => List.mem_cons_of_mem _ hp)
      clear N1
      k_dflt (refine LCt.ListComp_T (F₀ := by k_asm) (by with_unfolding_all rfl) (by decide) (by rfl) (by decide) (by rfl) ?_)
      k_steps
      refine Stop.of ?_
      rename IsRange _ _ _ _ _ _ _ _ => hR
      rename Fr h₀ L _ _ => F3
      rename News h₀ L _ _ => N3
      rw [hbn] at hR
      refine LCt.CompSrcT.range (n := 26) (by rfl) F3 N3 hR (by decide) (by decide) (by decide) ?_
      intro g
      clear F3 N3 hR
      refine compRestT_none ?_ ?_
      · rintro i hi v I oI C oC D m₂ h tk E' ⟨t9, rfl⟩ hoC hx F5 N5 off ne
        k_steps
        · rw [show (0 + (i : Int) + 1).toNat = i + 1 by omega, show (0 + (i : Int)).toNat = i by omega, begs_gap i hi]
          exact bne_self_eq_false _
        · exact LCg.CompEnd.intro F5 N5 _ (fun p hp => hp) off trivial rfl
      · intro D h5 tk5 F5 N5 o1
        k_steps
        rename Fr h₀ L _ _ => F6
        rename News h₀ L _ _ => N6
        exact KolS.intro F6 N6 (fun p hp => List.mem_cons_of_mem _ (List.mem_cons_of_mem _ hp)) ⟨_, _, _, _, _, _, _, _, rfl, d2, d3, hI, hB⟩
    · rename ¬ begs 41 = _ => hne
      exact absurd (kol_sorted (by assumption) (by assumption)) hne
  rintro s' ⟨h', tk', m, nx, rfl, F2, N2, o2, o3, ra, ba, vs, nn, bvs, bn, rfl, d2, d3, hI, hB⟩
  clear F N
  refine wpAny_cut (KolS h₀ L (L + 1 + 1) (L + 1 + 1 + 1) 41 s₁) ?_ ?_
  · k_fold
    k_steps
    refine Stop.of ?_
    rename IsRange _ _ _ _ _ _ _ _ => hR
    rename Fr h₀ L _ _ => F3
    rename News h₀ L _ _ => N3
    rw [hkl] at hR
    refine range_loop (n := 41) (fun _ => KolJ (L + 1 + 1) (L + 1 + 1 + 1) 41) (by rfl) hR (by decide) (by decide) F3 N3 ⟨_, _, _, _, _, _, _, _, rfl, d2, d3, hI, hB⟩ ?_ ?_
    · clear hvl hbl hI hB d2 d3 F3 N3 hR
      rintro i t m₁ nx h tk own hi hoff ⟨o2, o3, ra, ba, vs, nn, bvs, bn, rfl, d2, d3, hI, hB⟩ F₁ N₁
      have ek : (0 : Int) + (i : Int) * 1 = (i : Int) := by omega
      rw [ek] at F₁
      have hvl := hI.length
      have hbl := hB.length
      obtain ⟨⟨hr0, hr9⟩, hr1, hr2, hr3⟩ := rpos_facts i hi
      obtain ⟨r, hr⟩ : ∃ r, r = rpos i := ⟨_, rfl⟩
      rw [← hr] at hr0 hr9 hr1 hr2 hr3
      clear hr
      k_steps
      refine Stop.of ?_
      k_dflt (refine' CTP.use (bis_ct w ba bvs bn (begs 41) r ((i : Int) + 1) _ hB (by omega) (by omega) hr1 (by rw [hbn]; exact hr2)) ?kB ?kF ?kX ?kN ?kP ?kT ?kk ?kd ?ku ?_)
      case kB => k_asm
      case kF => k_asm
      case kX => k_asm
      case kN => k_asm
      case kP => exact List.mem_append.mpr (.inl (List.mem_cons_self ..))
      case kT => k_asm
      case kk => rfl
      case kd => decide
      case ku => decide
      rintro v tl h1 tk1 F5 N5 ⟨rfl, t1, rfl⟩
      rw [List.append_nil] at N5
      k_steps
      · rename ((i : Nat) : Int) < (begs 41).getD _ 0 => hlt
        rw [show ((r : Int) - 1).toNat = r - 1 by omega] at hlt
        have := hr1 (r - 1) (by omega)
        exact absurd hlt (by omega)
      · rename kolR.getD _ 0 ≠ _ => hne
        rw [Int.toNat_natCast] at hne
        exact absurd hr3 hne
      · rename Fr h₀ L _ _ => F6
        rename News h₀ L _ _ => N6
        exact InvEndG.intro F6 N6 ⟨_, _, _, _, _, _, _, _, rfl, d2, d3, hI, hB⟩ hoff (fun p hp => List.mem_append.mpr (.inl hp)) fun p hp => List.mem_append.mpr (.inr hp)
    · intro m₂ nx h tk hJ F₁ N₁
      exact KolS.intro F₁ N₁ (fun _ h => h) hJ
  rintro s' ⟨h', tk', m, nx, rfl, F, N, o2, o3, ra, ba, vs, nn, bvs, bn, rfl, d2, d3, hI, hB⟩
  clear F2 N2
  (try k_fold)
  k_steps
  rw [hbn, show decide ((25 : Int) ≤ ((27 : Nat) : Int)) = true from rfl]
  exact hret _ _ _ (by assumption)
end Mine

end
theorem Mine.calmKol2 : True ∧ True := by
  w_top off
  first | (walk1; all_goals trivial) | exact ⟨trivial, trivial⟩

section
open PySem PySem.W PySem.Calls PyProof.Rows
set_option Elab.async false
set_option maxRecDepth 100000
namespace Mine
theorem enter_callN {M : Model} {A : Around} {s : Shared} {f : Value} {pos : List Value} {kw : List (PySem.Str × Value)} {c : ClaimW} {cl : PySem.Str → Option Addr} {mean : ExcName → Option Value} {args : List WData} {s₁ : Shared}
    (h : codeN M A (.call f ⟨pos, kw⟩) (GoodWG c cl mean args s₁) s) : wpN M A (PySem.call f pos kw) (fun v s' => GoodWG c cl mean args s₁ (.ok (.ret v)) s') (fun e s' => GoodWG c cl mean args s₁ (.error e) s') s :=
  wpN_call (codeN_mono h fun res s' g => by rcases g.1 with ⟨v, _, _, rfl, _⟩ | ⟨e, _, _, rfl, _⟩ <;> exact g)
set_option maxRecDepth 100000 in
set_option maxHeartbeats 8000000 in
theorem topfin (HL : ∀ w, LawCT w) : PySem.Challenge.rw_gx0001_01.Holds := by
  refine Mine.hd ?_
  k_fill
  intro w s₀ s₁ mg mb G Y fa o pm cd doc dV kV ho hd hcd hD hmg hg args vals as hpre hlay hrd hwl hlo
  have KX := kIn_of Y
  have X := (Ground.X G).1
  have V := (Ground.X G).2
  refine Ground.open G ?_
  intro T B D TE TW
  clear D
  wrow_args hpre hlay hrd hwl hlo
  have e68 : fa = 68 := by
    have e1 : mg (PySem.Str.ofString "law") = some (Value.ref 68) := mg_of KX T.g (by k_is)
    have e2 : mg (PySem.Str.ofString "law") = some (Value.ref fa) := hmg
    rw [e1] at e2
    injection e2 with e2
    injection e2 with e2
    exact e2.symm
  subst e68
  refine ⟨?_, ?_⟩
  · refine GoodW.toG ⟨.inl ⟨.bool true, .bool true, [], rfl, raisesW_false ?_, .bool _, ?_, unshared_nil⟩, fun _ _ h => h, rfl, by assumption⟩
    · wrow_none_raised
    · wrow_post
  · refine HL w (ExcName.means s₀.heap) mg mb s₁ _ _ _ _ _ KX T (by assumption) (by assumption) (by omega) ?_
    intro L m h' tk' F
    refine GoodW.toG ?_
    k_end; wrow_close
end Mine

end
theorem Mine.calmTopFin : True ∧ True := by
  w_top off
  first | (walk1; all_goals trivial) | exact ⟨trivial, trivial⟩

theorem PySem.Challenge.cw_gx0001_01_holds : PySem.Challenge.rw_gx0001_01.Holds :=
  Mine.topfin fun w => Mine.law_ct w (Mine.turn_rest w) (Mine.kol_front w (Mine.kol_back w))
