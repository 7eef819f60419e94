import PyProof.Rows.All
import Wide.All
import OpenK.AllK
import Wide.FinOn
import PySem.Challenge.RW_oc0017_01
set_option Elab.async false
section
open PySem PySem.W PyProof.Rows
set_option maxRecDepth 100000
set_option maxHeartbeats 8000000
namespace Mine
open_top hd for PySem.Challenge.rw_oc0017_01
end Mine
end
section
open PySem PySem.W PyProof.Rows
set_option maxRecDepth 100000
set_option maxHeartbeats 8000000
namespace Mine
noncomputable abbrev theHook : Hook := kHook hd.heap_39 [2, 3, 6, 15, 17, 18, 20, 21, 22, 24, 25, 27, 28, 29, 31, 32, 34, 35, 36, 38, 39, 41, 42, 43, 45, 46, 48, 49,
          50, 52, 53, 55, 56, 57, 60, 61] (fun _ => by kernel_rfl)
theorem left : LeftO PySem.Challenge.rw_oc0017_01.row.prog hd.view_39 [] (fun s => xlAt hd.view_39 [] s && recOk (RowW.records PySem.Challenge.rw_oc0017_01.row.toRowW) s) (Hook.obs theHook) (Hook.val theHook) 880 := fun w => by kernel_rfl
end Mine
end
section
open PySem PySem.W PyProof.Rows
set_option maxRecDepth 100000
namespace Mine
def atCaller : List (Code × Pos) → Bool
  | [(.builtin id ⟨[], []⟩, _)] => id == "claim.caller"
  | _ => false
def runG (f : Value) (vs : List Value) : Sem Value :=
  .stack fun st => if atCaller st then PySem.call f vs else .pure (.bool true)
def treeG (name : Str) (vs : List Value) : Sem Fin :=
  .stack fun st => if atCaller st then (callStub name vs).cur else .pure (.done (.ret (.bool true)))
theorem stub_step {p : Program} {w : World} {name : Str} {vs : List Value} {s s' : Shared} {o : Outcome} {n : Nat} (hz : s.asleep)
    (h : schedN (denote table) p w n (.single s ⟨treeG name vs, .builtin "claim.caller" {}, default, []⟩) = .halted o s') :
    ∃ n', schedN (denote table) p w n' (.single s (callStub name vs)) = .halted o s' := by
  cases n with
  | zero => cases h
  | succ n =>
    have e := sstep_single (denote table) p w s ⟨treeG name vs, .builtin "claim.caller" {}, default, []⟩ rfl hz
    have e2 : step (denote table) p w s ⟨treeG name vs, .builtin "claim.caller" {}, default, []⟩ = .go s (callStub name vs) := rfl
    rw [e2] at e
    rcases e with e | e
    · simp only [schedN, e, Step.lift] at h
      exact ⟨n, h⟩
    · cases e
theorem tree_of_run {prog : Program} {name : Str} (vs : List Value) (w : World) (s : Shared) (mg : Str → Option Value) (f : Value) (Q : Fin → Shared → Prop) (E : Value → Shared → Prop)
    (hg : s.heap.Ns mainGlobals mg) (hf : mg name = some f) (h : wpAny (model prog w) callerA (runG f vs) (fun v s' => Q (.done (.ret v)) s') E s) : wpAny (model prog w) callerA (treeG name vs) Q E s := by
  intro Γ p hΓ
  have h' := h Γ p hΓ
  unfold runG at h'
  unfold treeG
  rw [Sem.wp_stack] at h' ⊢
  cases hc : atCaller ((Γ.code, p) :: Γ.below) with
  | false =>
    rw [hc] at h'
    simpa using h'
  | true =>
    rw [hc] at h'
    simp only [if_true] at h' ⊢
    show Sem.wp _ _ (nsGet mainGlobals name >>= _) _ _ _ _
    rw [Sem.wp_bind', Sem.wp_nsGet _ _ _ _ _ hg, hf]
    show Sem.wp _ _ (PySem.call f vs >>= _) _ _ _ _
    rw [Sem.wp_bind']
    exact h'
/-- what the exporters are -/
def holdIds : List String := ["bytearray.__contains__", "bytearray.__mod__", "bytearray.__rmod__", "_struct.pack_into.held", "bytearray.find.held"] ++ Builtin.Bytes.decodersThatHold
def Cl : Code → Bool
  | .builtin id _ => !holdIds.contains id
  | _ => true
def ClB (l : List (Code × Pos)) : Prop := ∀ x ∈ l, Cl x.1 = true
def Clean (Γ : Ctx) : Prop := Cl Γ.code = true ∧ ClB Γ.below
def wpC {α : Type} (M : Model) (A : Around) (t : Sem α) (Q : α → Shared → Prop) (s : Shared) : Prop :=
  ∀ Γ p, Γ.In A → Clean Γ → Sem.wp M Γ t (fun a _ s' => Q a s') (fun _ _ _ => False) p s
def okR (R : Flow → Shared → Prop) (r : Result) (s : Shared) : Prop := match r with | .ok f => R f s | .error _ => False
def codeC (M : Model) (A : Around) (c : Code) (R : Flow → Shared → Prop) (s : Shared) : Prop :=
  ∀ Γ p, Γ.code = c → Γ.Below A → ClB Γ.below → wpCode M Γ (okR R) p s
theorem atCaller_clean {Γ : Ctx} {p : Pos} (h : atCaller ((Γ.code, p) :: Γ.below) = true) : Clean Γ := by
  obtain ⟨c, hd, ow, bl, pa⟩ := Γ
  simp only at h
  unfold atCaller at h
  split at h
  · rename_i id _ heq
    simp only [List.cons.injEq, Prod.mk.injEq] at heq
    obtain ⟨⟨rfl, _⟩, rfl⟩ := heq
    have : id = "claim.caller" := by simpa using h
    subst this
    exact ⟨by show Cl (.builtin "claim.caller" {}) = true; decide +kernel, fun x hx => nomatch hx⟩
  · cases h
theorem run_of_C {M : Model} {f : Value} {vs : List Value} {Q : Value → Shared → Prop} {E : Value → Shared → Prop} {s : Shared}
    (h : wpC M callerA (PySem.call f vs) Q s) (ht : Q (.bool true) s) : wpAny M callerA (runG f vs) Q E s := by
  intro Γ p hΓ
  unfold runG
  rw [Sem.wp_stack]
  cases hc : atCaller ((Γ.code, p) :: Γ.below) with
  | false => simpa using ht
  | true =>
    simp only [if_true]
    exact Sem.wp_mono M Γ _ (fun _ _ _ x => x) (fun _ _ _ x => x.elim) p s (h Γ p hΓ (atCaller_clean hc))
/-- the head with the guarded run -/
theorem holds_guarded {r : OpenRow} {q : Program} {loose : List Str} {Xt : Shared → Bool} {XP : (Str → Option Value) → Heap → Prop} {α : Type} {Yf : Shared → α} {Ya : World → α} {YP : World → Heap → Prop} {d : DefRec} {kwd : List (Str × Expr)} {N : Nat}
    (left : LeftO r.prog q loose Xt Yf Ya N) (hY : ∀ w s, Yf s = Ya w → YP w s.heap) (hYk : ∀ w h h', YP w h → (∀ b o, h.get? b = some o → h'.get? b = some o) → YP w h')
    (hX : ∀ s, Xt s = true → XP (s.heap.nsMap mainGlobals) s.heap) (hXk : ∀ mg h h', XP mg h → (∀ b o, h.get? b = some o → h'.get? b = some o) → XP mg h')
    (hdef : defOf q r.name = some (d, kwd)) (hp : r.prog.theDef r.name = some (d.params, d.body, d.scope)) (hk : kwWritten? d.params.kwonlyargs d.params.kw_defaults = some kwd) (hRf : ∀ s, Xt s = true → RecFacts r.records s.heap) (hwr : (!r.writes || r.records.isEmpty) = true)
    (k1 : r.wellSaid = true) (ok : (chainsOk q && opensWell r.prog && (frees r.toRowW && r.within.isEmpty)) = true) (hb : r.prog.bare) (hw : r.toRowW.promised)
    (call : WalkO q loose XP YP r.toRowW d kwd runG) : r.Holds := by
  refine ⟨k1, hw, ?_⟩
  have H : r.claim.HoldsOpenBy (fun vs => ⟨treeG r.name vs, .builtin "claim.caller" {}, default, []⟩) (if r.pinned then [r.name] else []) r.keeps r.writes := by
    refine open_anyG (r := r.toRowW) (run := runG) left hY hYk hX hXk hRf hwr ok hb hw (fun vs w s mg f Q E hg hf h => tree_of_run vs w s mg f Q E hg hf h) (fun w s hg G n hn => ?_) fun w s₀ s₁ mg mb G Y args vs as hpre hlay L low => ?_
    · obtain rfl : n = r.name := by split at hn <;> simp_all
      exact pinned_of_view hg G hdef hp hk
    · obtain ⟨a, o, pm, cd, doc, dV, kV, h1, h2, h3, h4, h5⟩ := G.fn hdef
      exact ⟨.ref a, h1, call w s₀ s₁ mg mb G Y a o pm cd doc dV kV h2 h3 h4 h5 (defOf_name hdef ▸ h1) L.gens args vs as hpre hlay L.reads L.well (L.low low)⟩
  obtain ⟨c1, c2, c3⟩ := H
  refine ⟨c1, c2, fun w => ⟨(c3 w).1, fun s hs => ?_⟩⟩
  obtain ⟨s₀, f1, f2, s₁, T, f3, f4, f5, C⟩ := (c3 w).2 s hs
  refine ⟨s₀, f1, f2, s₁, T, f3, f4, f5, ?_⟩
  have z₀ : s₀.asleep := Shared.asleep_of_life (fence_lifeW f1) (AfterImport.life hs)
  have z₁ : s₁.asleep := Shared.asleep_of_life T.2.1 z₀
  intro args hpre hlay ord hord
  obtain ⟨vs, s₂, hlaid, n, o, s', hrun, rest⟩ := C args hpre hlay ord hord
  obtain ⟨n', hrun'⟩ := stub_step (Shared.asleep_of_life (layAllW_rest _ _ _ hlaid).2.2.2 z₁) hrun
  exact ⟨vs, s₂, hlaid, n', o, s', hrun', rest⟩
end Mine
end
section
open PySem PySem.W PyProof.Rows
set_option maxRecDepth 100000
namespace Mine
section
variable {α β : Type} {M : Model} {A : Around} {s : Shared}
theorem wpC_of {t : Sem α} {Q : α → Shared → Prop} (h : wpAny M A t Q (fun _ _ => False) s) : wpC M A t Q s := fun Γ p h1 _ => h Γ p h1
theorem wpC_mono {t : Sem α} {Q Q' : α → Shared → Prop} (h : wpC M A t Q s) (hQ : ∀ a s, Q a s → Q' a s) : wpC M A t Q' s :=
  fun Γ p h1 h2 => Sem.wp_mono M Γ t (fun a _ s => hQ a s) (fun _ _ _ x => x) p s (h Γ p h1 h2)
theorem wpC_bind {m : Sem α} {f : α → Sem β} {Q : β → Shared → Prop} (h : wpC M A m (fun a s' => wpC M A (f a) Q s') s) : wpC M A (m >>= f) Q s := fun Γ p h1 h2 => by
  rw [Sem.wp_bind']
  exact Sem.wp_mono M Γ m (fun a p' s' h' => h' Γ p' h1 h2) (fun _ _ _ h' => h') p s (h Γ p h1 h2)
/-- a leaf by the plain logic, then on -/
theorem wpC_bindA {m : Sem α} {f : α → Sem β} {Q : β → Shared → Prop} (h : wpAny M A m (fun a s' => wpC M A (f a) Q s') (fun _ _ => False) s) : wpC M A (m >>= f) Q s := wpC_bind (wpC_of h)
theorem wpC_pure {a : α} {Q : α → Shared → Prop} (h : Q a s) : wpC M A (pure a) Q s := fun _ _ _ _ => h
theorem wpC_holding {vs : List Value} {m : Sem α} {Q : α → Shared → Prop} (h : wpC M A m Q s) : wpC M A (holding vs m) Q s := fun Γ p h1 h2 => by rw [Sem.wp_holding]; exact h Γ p h1 h2
theorem wpC_keep {vs : List Value} {m : Sem α} {Q : α → Shared → Prop} (h : wpC M A m Q s) : wpC M A (m.keep vs) Q s := fun Γ p h1 h2 => by rw [Sem.wp_keep]; exact h Γ p h1 h2
theorem wpC_onRaise {m : Sem α} {k : Value → Sem Unit} {Q : α → Shared → Prop} (h : wpC M A m Q s) : wpC M A (m.onRaise k) Q s := fun Γ p h1 h2 => by
  rw [Sem.wp_onRaise]
  exact Sem.wp_mono M Γ m (fun _ _ _ h' => h') (fun _ _ _ h' => h'.elim) p s (h Γ p h1 h2)
theorem wpC_ite {c : Prop} [Decidable c] {a b : Sem α} {Q : α → Shared → Prop} (h : if c then wpC M A a Q s else wpC M A b Q s) : wpC M A (if c then a else b) Q s := by split <;> simp_all
theorem codeC_of {c : Code} {R : Flow → Shared → Prop} (h : codeAny M A c (okR R) s) : codeC M A c R s := fun Γ p h1 h2 _ => h Γ p h1 h2
theorem codeC_mono {c : Code} {R R' : Flow → Shared → Prop} (h : codeC M A c R s) (hR : ∀ f s, R f s → R' f s) : codeC M A c R' s :=
  fun Γ p h1 h2 h3 => wpCode_mono (fun r s x => by cases r with | ok f => exact hR f s x | error e => exact x) (h Γ p h1 h2 h3)
theorem wpC_run {c : Code} {h : Option Value} {Q : Flow → Shared → Prop} (hc : codeC M (A.mark h) c Q s) (hnb : h ≠ some byPass := by intro x; cases x) : wpC M A (run c h) Q s :=
  fun Γ p h1 h2 => by
    rw [Sem.wp_run]
    refine wpCode_mono (fun r s' x => ?_) (hc _ p rfl (h1.enter c h p hnb) (fun x hx => ?_))
    · cases r with
      | ok f => exact x
      | error e => exact x
    · rcases List.mem_cons.mp hx with rfl | hx
      · exact h2.1
      · exact h2.2 x hx
theorem wpC_runValue {c : Code} {Q : Value → Shared → Prop} (hc : codeC M A c (fun f s' => ∃ v, f = .ret v ∧ Q v s') s) : wpC M A (runValue c) Q s := by
  unfold runValue
  refine wpC_bind (wpC_run (h := none) ?_)
  have e : A.mark none = A := by cases A; rfl
  rw [e]
  refine codeC_mono hc fun f s' x => ?_
  obtain ⟨v, rfl, hv⟩ := x
  exact wpC_pure hv
theorem wpC_call {f : Value} {pos : List Value} {kw : List (Str × Value)} {Q : Value → Shared → Prop} (hc : codeC M A (.call f ⟨pos, kw⟩) (fun f s' => ∃ v, f = .ret v ∧ Q v s') s) : wpC M A (call f pos kw) Q s := wpC_runValue hc
theorem codeC_tree {c : Code} {R : Flow → Shared → Prop} (hcl : Cl c = true)
    (h : wpC M (A.under c) (M.den c) (fun fin s' => match fin with | .done f => R f s' | .again c' => c'.quiet = true ∧ codeC M A c' R s') s) : codeC M A c R s := fun Γ p hc hΓ hb => by
  rw [wpCode_iff_wp, hc]
  refine Sem.wp_mono M Γ _ (fun fin p' s' h' => ?_) (fun _ _ _ h' => h'.elim) p s (h Γ p (hc ▸ hΓ.in) ⟨by rw [hc]; exact hcl, hb⟩)
  cases fin with
  | done f => exact h'
  | again c' => exact ⟨h'.1, h'.2 (Γ.goto c') p' rfl (hΓ.goto c') hb⟩
theorem codeC_treeA {c : Code} {R : Flow → Shared → Prop}
    (h : wpAny M (A.under c) (M.den c) (fun fin s' => match fin with | .done f => R f s' | .again c' => c'.quiet = true ∧ codeC M A c' R s') (fun _ _ => False) s) : codeC M A c R s := fun Γ p hc hΓ hb => by
  rw [wpCode_iff_wp, hc]
  refine Sem.wp_mono M Γ _ (fun fin p' s' h' => ?_) (fun _ _ _ h' => h'.elim) p s (h Γ p (hc ▸ hΓ.in))
  cases fin with
  | done f => exact h'
  | again c' => exact ⟨h'.1, h'.2 (Γ.goto c') p' rfl (hΓ.goto c') hb⟩
theorem codeC_loop {c : Code} {R : Flow → Shared → Prop} (hcl : Cl c = true) (hq : c.quiet = true) (I : Nat → Shared → Prop)
    (turn : ∀ n s, I n s → wpC M (A.under c) (M.den c) (fun fin s' => match fin with | .done f => R f s' | .again c' => (c' = c ∧ ∃ m, m < n ∧ I m s') ∨ (c'.quiet = true ∧ codeC M A c' R s')) s)
    (n : Nat) (h : I n s) : codeC M A c R s := by
  induction n using Nat.strongRecOn generalizing s with
  | ind n ih =>
    refine codeC_tree hcl (wpC_mono (turn n s h) (fun fin s' hf => ?_))
    cases fin with
    | done f => exact hf
    | again c' =>
      rcases hf with ⟨rfl, m, hm, hI⟩ | hf
      · exact ⟨hq, ih m hm hI⟩
      · exact hf
end
section
variable {prog : Program} {w : World} {A : Around} {s : Shared} {env : Env}
theorem wpC_execs_cons {M : Model} {st rest} {Q : Flow → Shared → Prop} (h : wpC M A (exec st env) (fun f s' => match f with | .next => wpC M A (execs rest env) Q s' | f => Q f s') s) :
    wpC M A (execs (st :: rest) env) Q s := fun Γ p h1 h2 => by
  rw [execs_cons, Sem.wp_bind']
  refine Sem.wp_mono M Γ _ (fun f p' s' h' => ?_) (fun _ _ _ h' => h') _ _ (h Γ p h1 h2)
  cases f <;> first | exact h' Γ p' h1 h2 | exact h'
theorem wpC_If {M : Model} {test body orelse pos} {Q : Flow → Shared → Prop}
    (h : wpAny M A (isTrue test env (eval test env)) (fun b s₂ => if b then wpC M A (execs body env) Q s₂ else wpC M A (execs orelse env) Q s₂) (fun _ _ => False) s) :
    wpC M A (exec (.If test body orelse pos) env) Q s := fun Γ p h1 h2 => by
  simp only [exec_If, Sem.wp_bind', Sem.wp_cmd_standAt]
  refine Sem.wp_mono M Γ _ (fun b p₂ s₂ h₂ => ?_) (fun _ _ _ h' => h') _ _ (h Γ _ h1)
  cases b <;> exact h₂ Γ p₂ h1 h2
theorem wpC_While {M : Model} {test body orelse pos} {Q : Flow → Shared → Prop} (h : codeC M A (.whileLoop test body orelse env) Q s) : wpC M A (exec (.While test body orelse pos) env) Q s := by
  rw [exec_While]
  refine wpC_bindA (wpAny_standAt ?_)
  unfold runOwn
  exact wpC_onRaise (wpC_run (h := none) (by have e : A.mark none = A := by cases A; rfl
                                             rw [e]; exact h))
theorem codeC_whileLoop {test body orelse env} {R : Flow → Shared → Prop} (I : Nat → Shared → Prop)
    (turn : ∀ n s, I n s → wpAny (model prog w) A (isTrue test env (eval test env)) (fun b s₂ =>
        if b then wpC (model prog w) A (execs body env) (fun f s₃ => match f with
            | .next | .cont => ∃ m, m < n ∧ I m s₃
            | .brk => R .next s₃
            | .ret v => R (.ret v) s₃) s₂
        else wpC (model prog w) A (execs orelse env) (fun f s₃ => R f s₃) s₂) (fun _ _ => False) s)
    (n : Nat) (h : I n s) : codeC (model prog w) A (.whileLoop test body orelse env) R s := by
  refine codeC_loop rfl rfl I (fun n s hI => ?_) n h
  show wpC _ A ((whileTurn test body orelse env).onRaise (fun x => do noteFrame x env; theTreesLotGoes x)) _ s
  refine wpC_onRaise ?_
  simp only [whileTurn]
  refine wpC_bindA (wpAny_mono (turn n s hI) (fun b s₂ h₂ => ?_) fun _ _ h' => h')
  cases b with
  | false =>
    simp only [Bool.false_eq_true, if_false] at h₂ ⊢
    exact wpC_bind (wpC_mono h₂ (fun f s₃ h₃ => wpC_pure h₃))
  | true =>
    simp only [if_true] at h₂ ⊢
    refine wpC_bind (wpC_mono h₂ (fun f s₃ h₃ => ?_))
    cases f with
    | next => exact wpC_pure (.inl ⟨rfl, h₃⟩)
    | cont => exact wpC_pure (.inl ⟨rfl, h₃⟩)
    | brk => exact wpC_pure h₃
    | ret v => exact wpC_pure h₃
theorem wpC_For {M : Model} {target iter body orelse pos} {Q : Flow → Shared → Prop}
    (h : wpAny M A (eval iter env) (fun x s₁ => wpAny M A (pyIter x) (fun it s₂ => codeC M A (.forLoop target it body orelse env) Q s₂) (fun _ _ => False) s₁) (fun _ _ => False) s)
    (hs : ∀ x, foldedSetIterable iter env x = pure x := by intro _; rfl) :
    wpC M A (exec (.For target iter body orelse pos) env) Q s := by
  rw [exec_For]
  refine wpC_bindA (wpAny_standAt (wpC_bindA (wpAny_mono h (fun x s₁ h₁ => ?_) fun _ _ h' => h')))
  rw [hs x]
  refine wpC_bind (wpC_pure (wpC_bindA (wpAny_standAt (wpC_bindA (wpAny_holding (wpAny_mono h₁ (fun it s₂ h₂ => ?_) fun _ _ h' => h'))))))
  unfold runOwn
  exact wpC_onRaise (wpC_run (h := none) (by have e : A.mark none = A := by cases A; rfl
                                             rw [e]; exact h₂))
theorem codeC_forLoop {target it body env} {R : Flow → Shared → Prop} (I : Nat → Shared → Prop)
    (turn : ∀ n s, I n s → wpAny (model prog w) A (pyNext it) (fun r s₁ => match r with
      | none => R .next s₁
      | some v => wpAny (model prog w) A (assign target env v) (fun _ s₂ => wpC (model prog w) A (execs body env) (fun f s₃ => match f with
          | .next | .cont => ∃ m, m < n ∧ I m s₃
          | .brk => R .next s₃
          | .ret v => R (.ret v) s₃) s₂) (fun _ _ => False) s₁) (fun _ _ => False) s)
    (n : Nat) (h : I n s) (ht : ∀ v, letOwnedTupleGo target it v = pure () := by intro _; rfl) : codeC (model prog w) A (.forLoop target it body [] env) R s := by
  refine codeC_loop rfl rfl I (fun n s hI => ?_) n h
  show wpC _ _ ((forTurn target it body [] env).onRaise (fun x => do noteFrame x env; theTreesLotGoes x)) _ s
  refine wpC_onRaise ?_
  simp only [forTurn]
  refine wpC_bindA (wpAny_standAt (wpC_bindA (wpAny_onRaise (wpAny_mono (turn n s hI) (fun r s₁ h₁ => ?_) fun _ _ h' => h'.elim))))
  cases r with
  | none => exact wpC_pure (.inr ⟨rfl, codeC_of (codeAny_block (wpAny_execs_nil h₁))⟩)
  | some v =>
    refine wpC_bind ?_
    rw [ht v]
    refine wpC_pure (wpC_bindA (wpAny_mono h₁ (fun _ s₂ h₂ => wpC_bind (wpC_mono h₂ (fun f s₃ h₃ => ?_))) fun _ _ h' => h'))
    cases f with
    | next => exact wpC_pure (.inl ⟨rfl, h₃⟩)
    | cont => exact wpC_pure (.inl ⟨rfl, h₃⟩)
    | brk => exact wpC_pure h₃
    | ret v => exact wpC_pure h₃
theorem wpC_Expr {M : Model} {e pos} {Q : Flow → Shared → Prop} (h : wpC M A (eval e env) (fun v s' => v = .none ∧ Q .next s') s)
    (hi : interactive env = false := by rfl) (hs : swapsWith e none pos.line env = pure false := by rfl) :
    wpC M A (exec (.Expr e pos) env) Q s := by
  rw [exec_Expr env e pos hi hs]
  refine wpC_bindA (wpAny_standAt (wpC_bind (wpC_mono h (fun v s' h' => ?_))))
  obtain ⟨rfl, h'⟩ := h'
  rw [dropValue_plain (fun a hva => by cases hva)]
  exact wpC_pure h'
theorem wpC_Assign_Name {M : Model} {x pos' value pos} {Q : Flow → Shared → Prop}
    (h : wpC M A (eval value env) (fun v s₁ => wpAny M A (storeName env x v) (fun _ => Q .next) (fun _ _ => False) s₁) s)
    (hs : swapsWith value (some (.Name x pos')) pos.line env = pure false := by rfl) :
    wpC M A (exec (.Assign [.Name x pos'] value pos) env) Q s := fun Γ p h1 h2 => by
  simp only [exec_Assign_Name env x pos' value pos hs, Sem.wp_bind', Sem.wp_cmd_standAt, Sem.wp_bindName, Sem.wp_pure']
  exact Sem.wp_mono M Γ _ (fun v _ s₁ h₁ => h₁ Γ _ h1) (fun _ _ _ h' => h') _ _ (h Γ _ h1 h2)
theorem wpC_BinOp {M : Model} {l op r pos} {Q : Value → Shared → Prop}
    (h : wpC M A (eval l env) (fun a s₁ => wpC M A (eval r env) (fun b s₂ => wpAny M A (binaryOp op a b) Q (fun _ _ => False) s₂) s₁) s) :
    wpC M A (eval (.BinOp l op r pos) env) Q s := fun Γ p h1 h2 => by
  simp only [eval_BinOp, Sem.wp_bind', Sem.wp_holding, Sem.wp_cmd_standAt, Sem.wp_operate]
  exact Sem.wp_mono M Γ _ (fun a p₁ s₁ h₁ => Sem.wp_mono M Γ _ (fun b _ s₂ h₂ => h₂ Γ _ h1) (fun _ _ _ h' => h') _ _ (h₁ Γ p₁ h1 h2))
    (fun _ _ _ h' => h') _ _ (h Γ p h1 h2)
theorem codeC_func {body env} {R : Flow → Shared → Prop}
    (h : wpC (model prog w) (A.deeper env) (execs body env) (fun f s' => R (.ret (match f with | .ret v => v | _ => .none)) s') s) :
    codeC (model prog w) A (.func body env) R s := by
  refine codeC_tree rfl ?_
  show wpC _ (A.deeper env) (do point; match ← (execs body env).onRaise (leaving env) with | .ret v => ret v | _ => ret .none) _ s
  refine wpC_bindA (wpAny_point (wpC_bind (wpC_onRaise (wpC_mono h (fun f s' h' => ?_)))))
  cases f <;> exact wpC_pure h'
theorem codeC_call_function {a : Addr} {args : Args} {o : Obj} {fd : FuncData} {body : List Stmt} {R : Flow → Shared → Prop} (hroom : A.depth < recursionLimit)
    (ho : s.heap.get? a = some o)
    (hd' : o.data = .func fd) (hco : fd.scope.isCoroutine = false) (hgen : fd.scope.isGenerator = false) (hbody : fd.body = .stmts body) (hcd : s.heap.CodeRec fd.code fd.qualname)
    (h : wpAny (model prog w) A.in1 (bindArgs fd args) (fun binds s₁ =>
      wpAny (model prog w) A.in1 (newFunctionEnv fd.scope fd.globals fd.closure binds (fd.qualname ++ ".<locals>.") (some a) fd.code none fd.builtins)
        (fun env s₂ => s₂.heap.NoLimit ∧ codeC (model prog w) A (.func body env) R s₂) (fun _ _ => False) s₁) (fun _ _ => False) s) :
    codeC (model prog w) A (.call (.ref a) args) R s := by
  refine codeC_treeA ?_
  show wpAny _ A.in1 (callAny (.ref a) args) _ _ s
  simp only [callAny]
  refine wpAny_bind (wpAny_load ho ?_)
  obtain ⟨c, oc, vs, tq, hc, hoc, hdc, hq⟩ := hcd
  simp only [hd', callFunction, hco, hgen, hbody, hc]
  rw [hc] at h
  refine wpAny_bind (m := field (.ref c) 1) (wpAny_field hoc hdc hq (wpAny_bind (wpAny_pure ?_)))
  exact wpAny_bind (wpAny_mono h (fun binds s₁ h₁ => wpAny_bind (wpAny_mono h₁ (fun env s₂ h₂ => wpAny_bind (wpAny_enterFrame h₂.1 hroom
    (wpAny_pure (And.intro rfl h₂.2)))) fun _ _ h' => h')) fun _ _ h' => h')
/-- arguments one by one -/
theorem wpC_args_nil {M : Model} {pos : Pos} {Q : List Value → Shared → Prop} (h : Q [] s) : wpC M A (spliced (backTo pos (starEach [] env))) Q s := wpC_of (args_nil h)
theorem wpC_args_cons {M : Model} {e : Expr} {rest : List Expr} {pos : Pos} {Q : List Value → Shared → Prop}
    (h : wpC M A (eval e env) (fun v s₁ => wpC M A (spliced (backTo pos (starEach rest env))) (fun vs s₂ => Q (v :: vs) s₂) s₁) s)
    (he : starEach (e :: rest) env = (false, eval e env) :: starEach rest env := by rfl) : wpC M A (spliced (backTo pos (starEach (e :: rest) env))) Q s := by
  rw [he]
  show wpC M A (do let v ← eval e env; let here ← pure [v]; return here ++ (← holding here (spliced (backTo pos (starEach rest env))))) Q s
  refine wpC_bind (wpC_mono h fun v s₁ h₁ => ?_)
  refine wpC_bind (wpC_pure (wpC_bind (wpC_holding (wpC_mono h₁ fun vs s₂ h₂ => wpC_pure h₂))))
/-- a call: a def of the text, or a type -/
theorem wpC_Call {M : Model} {func e : Expr} {rest : List Expr} {pos : Pos} {Q : Value → Shared → Prop}
    (h : wpAny M A (eval func env) (fun f s₁ => wpC M A (spliced (backTo pos (starEach (e :: rest) env))) (fun vs s₂ =>
      (∃ k, (k = Keeper.frame ∨ k = Keeper.machine) ∧ Looks M s₂.heap (keeperOf f) k) ∧ wpC M A (call f vs) Q s₂) s₁) (fun _ _ => False) s)
    (hst : starEach (e :: rest) env = (false, eval e env) :: starEach rest env := by rfl) (hplain : (backTo pos (starEach rest env)).any (·.1) = false := by rfl)
    (he : eval (.Call func (e :: rest) [] pos) env = (do callWith pos (← eval func env) [] (backTo pos (starEach (e :: rest) env)) (backToKw pos (keywordEach [] env))) := by rfl) :
    wpC M A (eval (.Call func (e :: rest) [] pos) env) Q s := by
  rw [he]
  refine wpC_bindA (wpAny_mono h (fun f s₁ h₁ => ?_) fun _ _ x => x)
  show wpC M A (callWith pos f [] (backTo pos (starEach (e :: rest) env)) []) Q s₁
  have hp : (backTo pos (starEach (e :: rest) env)).any (·.1) = false := by
    rw [hst]
    show (false || (backTo pos (starEach rest env)).any (·.1)) = false
    rw [hplain]; rfl
  have hb : backTo pos (starEach (e :: rest) env) = (false, eval e env) :: backTo pos (starEach rest env) := by rw [hst]; rfl
  have ha : wpC M A (evalArgs f true (backTo pos (starEach (e :: rest) env)) []) (fun a s₂ => a.kw = [] ∧ (∃ k, (k = Keeper.frame ∨ k = Keeper.machine) ∧ Looks M s₂.heap (keeperOf f) k) ∧ wpC M A (call f a.pos) Q s₂) s₁ := by
    rw [hb] at h₁ ⊢
    unfold evalArgs
    show wpC M A (spliced ((false, eval e env) :: backTo pos (starEach rest env)) >>= _) _ s₁
    refine wpC_bind (wpC_mono h₁ fun vs s' h' => ?_)
    refine wpC_holding ?_
    exact wpC_bind (wpC_pure (wpC_bind (wpC_pure (wpC_pure ⟨rfl, h'⟩))))
  unfold callWith
  refine wpC_bind (wpC_holding (wpC_mono ha fun a s₂ h₂ => ?_))
  obtain ⟨hkw, ⟨k, hk', L⟩, hc⟩ := h₂
  refine wpC_bindA (wpAny_standAt ?_)
  simp only [hp, List.any_nil, Bool.or_false, hkw, List.nil_append]
  refine wpC_bindA (L.here ?_)
  have tail : ∀ {t : Sem Value}, wpC M A t Q s₂ → wpC M A (t >>= fun r => holding [r] point >>= fun _ => pure r) Q s₂ :=
    fun ht => wpC_bind (wpC_mono ht (fun r s₂ hr => wpC_bindA (wpAny_holding (wpAny_point (wpC_pure hr)))))
  have marked (mk : Value) : wpC M A (callMarked mk f a.pos []) Q s₂ := by unfold callMarked; exact wpC_keep hc
  rcases hk' with rfl | rfl <;> dsimp only <;> first | exact tail hc | (split <;> first | exact tail hc | exact tail (marked _))
end
end Mine
end
section
open PySem PySem.W PyProof.Rows
set_option maxRecDepth 100000
namespace Mine
section
variable {prog : Program} {w : World} {A : Around} {s : Shared}
theorem exported_clean {M : Model} {self : Value} {Q : Bool → Shared → Prop} (h : Q false s) : wpC M A (Builtin.Bytes.exported self) Q s := fun Γ p _ hc => by
  unfold Builtin.Bytes.exported
  rw [Sem.wp_bind']
  unfold stack
  rw [Sem.wp_stack, Sem.wp_pure]
  show Q (List.any ((Γ.code, p) :: Γ.below) _) s
  rw [List.any_eq_false.mpr]
  · exact h
  · intro x hx
    have hcl : Cl x.1 = true := by
      rcases List.mem_cons.mp hx with rfl | hx
      · exact hc.1
      · exact hc.2 x hx
    obtain ⟨c, q⟩ := x
    split <;> rename_i heq <;> simp only [Prod.mk.injEq] at heq
    case h_6 =>
      obtain ⟨rfl, rfl⟩ := heq
      simp only [Cl, holdIds, Bool.not_eq_true', List.contains_eq_mem, List.mem_append, not_or, decide_eq_false_iff_not] at hcl
      simp [hcl.2]
    case h_7 => simp
    all_goals (obtain ⟨rfl, rfl⟩ := heq; revert hcl; simp [Cl, holdIds, Builtin.Bytes.decodersThatHold]; done)
end
namespace F
theorem ba_mro : mroOf (.type "bytearray") = pure [.type "bytearray", .type "object"] := by rw [mroOf_type]; kernel_rfl
theorem ba_lookup_new : typeLookup (.type "bytearray") "__new__" = pure (some (.builtin "bytearray.__new__")) := by rw [typeLookup_type, builtinLookup_eq_fast]; kernel_rfl
theorem ba_slot_init : Slot "bytearray" "__init__" "bytearray.__init__" :=
  .of (owner := "bytearray") (n := "__init__") (by rw [typeLookup_type, builtinLookup_eq_fast]; kernel_rfl) (by decide +kernel) (by decide +kernel) (by decide +kernel)
    (by first | exact .inl (by decide +kernel) | exact .inr (by decide +kernel)) (by rw [isSubtype_type]; kernel_rfl)
theorem ba_called : TypeCalled "bytearray" "bytearray.__new__" "bytearray.__init__" :=
  ⟨by decide +kernel, by decide +kernel, ⟨_, _, ba_mro⟩, madeBy_type ba_mro ba_lookup_new (by decide +kernel), by decide +kernel, by rw [isSubtype_type]; kernel_rfl, ba_slot_init⟩
theorem ba_typeCall (a : Value) : checkTypeCall "bytearray" ⟨[a], []⟩ = pure () := by kernel_rfl
theorem ba_newCall (a : Value) : checkBuiltinCall "bytearray.__new__" ⟨[.type "bytearray", a], []⟩ = pure () := by kernel_rfl
theorem ba_entry_new : entryFor table "bytearray.__new__" = some Builtin.«list.__new__» := entryFor_alias (id' := "list.__new__") (by kernel_rfl) (by decide +kernel) (by decide +kernel) (by kernel_rfl)
theorem ba_entry_init : entryFor table "bytearray.__init__" = some Builtin.«bytearray.__init__» := by first | exact entryFor_of_fast (by kernel_rfl) | exact entryFor_of_tree (by kernel_rfl)
theorem ba_plain_new : plainId "bytearray.__new__" = true := by decide +kernel
theorem ba_plain_init : plainId "bytearray.__init__" = true := by decide +kernel
set_option maxRecDepth 1000000 in
set_option maxHeartbeats 4000000 in
theorem ba_owner : ("bytearray.__new__".splitOn ".__new__").headD "" = "bytearray" := by simp +decide [String.splitOn, String.splitOnAux]
theorem ba_sub : isSubtype (.type "bytearray") (.type "bytearray") = pure true := by rw [isSubtype_type]; kernel_rfl
theorem ba_release : typeLookup (.type "bytearray") "__release_buffer__" = pure (some (.builtin "bytearray.__release_buffer__")) := by rw [typeLookup_type, builtinLookup_eq_fast]; kernel_rfl
theorem ba_buffer : typeLookup (.type "bytearray") "__buffer__" = pure (some (.builtin "bytearray.__buffer__")) := by rw [typeLookup_type, builtinLookup_eq_fast]; kernel_rfl
theorem ba_bind (v : Value) : Builtin.Bytes.bindOptional "bytearray.__init__" "bytearray" ["source", "encoding", "errors"] [v] [] = pure [some v, none, none] := by kernel_rfl
theorem ba_sigs : Manifest.owners.lookup (String.ofList ['y', 'a', 'r', 'r', 'a', 'e', 't', 'y', 'b'].reverse) = some Manifest.sig_bytearray := by kernel_rfl
theorem ba_args (a b : Value) : argsOk "bytearray.__init__" ⟨[a, b], []⟩ := by
  unfold argsOk; rw [signature?_of (id := "bytearray.__init__") (n := ['_', '_', 't', 'i', 'n', 'i', '_', '_']) (o := ['y', 'a', 'r', 'r', 'a', 'e', 't', 'y', 'b']) (by kernel_rfl) ba_sigs]; kernel_rfl
theorem ba_int_index : typeLookup (.type "int") "__index__" = pure (some (.builtin "int.__index__")) := by rw [typeLookup_type, builtinLookup_eq_fast]; kernel_rfl
theorem ba_rel_ends : "bytearray.__release_buffer__".endsWith ("." ++ "__release_buffer__") = true := by decide +kernel
theorem ba_rel_drop : ("bytearray.__release_buffer__".dropRight ("__release_buffer__".length + 1)) = "bytearray" := by decide +kernel
end F
section
variable {prog : Program} {w : World} {A : Around} {s : Shared} {E : Value → Shared → Prop}
theorem code_bytearray_new (a : Value) {Q₁ : Value → Shared → Prop}
    (h : Q₁ (.ref s.heap.objs.size) { s with heap := s.heap.push { cls := .type "bytearray", data := .bytearray #[] } }) :
    codeAny (model prog w) A (.call (.builtin "bytearray.__new__") ⟨[.type "bytearray", a], []⟩) (wants Q₁ E) s := by
  refine codeAny_of_tree ?_
  show wpAny _ A.in1 (do checkBuiltinCall "bytearray.__new__" ⟨[.type "bytearray", a], []⟩; again (.builtin "bytearray.__new__" ⟨[.type "bytearray", a], []⟩)) _ _ s
  refine wpAny_bind (wpAny_of_eq (F.ba_newCall a) (wpAny_pure ⟨plainId_quiet F.ba_plain_new _, codeAny_builtin_stack F.ba_entry_new rfl fun p st => ?_⟩))
  rw [Around.under_plainId F.ba_plain_new _]
  have hsub := F.ba_sub
  have hown := F.ba_owner
  obtain ⟨hp, g, d, tk, os⟩ := s
  simp only [hown]
  wp_walk
  exact h
theorem slot_release {M : Model} {v : Value} {Q : Bool → Shared → Prop} (hT : s.TypeIs v "bytearray") (h : Q true s) : wpAny M A (Builtin.Bytes.slotIsOwn v "__release_buffer__") Q E s := by
  unfold Builtin.Bytes.slotIsOwn
  refine wpAny_bind (wpAny_specialOf hT F.ba_release ?_)
  show wpAny M A (if (!"bytearray.__release_buffer__".endsWith ("." ++ "__release_buffer__")) = true then pure false else isInstance v (.type ("bytearray.__release_buffer__".dropRight ("__release_buffer__".length + 1)))) Q E s
  rw [F.ba_rel_ends, F.ba_rel_drop]
  exact wpAny_isInstance hT F.ba_sub h
end
end Mine
end
section
open PySem PySem.W PyProof.Rows
set_option maxRecDepth 100000
namespace Mine
section
variable {prog : Program} {w : World} {A : Around} {s : Shared} {E : Value → Shared → Prop}
theorem codeC_builtin {id : String} {args : Args} {b : Builtin} {R : Flow → Shared → Prop} (hcl : (!holdIds.contains id) = true) (hp : plainId id = true) (hb : entryFor table id = some b)
    (h : wpC (model prog w) A.in1 (b args) (fun fin s' => match fin with | .done f => R f s' | .again c' => c'.quiet = true ∧ codeC (model prog w) A c' R s') s) :
    codeC (model prog w) A (.builtin id args) R s := by
  refine codeC_tree hcl ?_
  show wpC _ _ (match entryFor table id with | some b => b args | none => unsupported ((withoutEnding? id "#data").getD id)) _ s
  rw [hb, Around.under_plainId hp _]
  exact h
theorem codeC_builtinU {id : String} {args : Args} {b : Builtin} {R : Flow → Shared → Prop} (hcl : (!holdIds.contains id) = true) (hb : entryFor table id = some b) (hu : A.under (.builtin id args) = A.in1)
    (h : wpC (model prog w) A.in1 (b args) (fun fin s' => match fin with | .done f => R f s' | .again c' => c'.quiet = true ∧ codeC (model prog w) A c' R s') s) :
    codeC (model prog w) A (.builtin id args) R s := by
  refine codeC_tree hcl ?_
  show wpC _ _ (match entryFor table id with | some b => b args | none => unsupported ((withoutEnding? id "#data").getD id)) _ s
  rw [hb, hu]
  exact h
theorem codeC_callType {T : String} {args : Args} {R : Flow → Shared → Prop} (h : codeC (model prog w) A (.builtin "type.__call__" ⟨.type T :: args.pos, args.kw⟩) R s) : codeC (model prog w) A (.call (.type T) args) R s := by
  refine codeC_treeA ?_
  show wpAny _ _ (callAny (.type T) args) _ _ _
  exact wpAny_pure ⟨Code.quiet_builtin _ (by decide +kernel), h⟩
theorem wpC_if_false {α : Type} {M : Model} {c : Bool} {a b : Sem α} {Q : α → Shared → Prop} (hc : c = false) (h : wpC M A b Q s) : wpC M A (if c = true then a else b) Q s := by
  subst hc
  exact h
theorem wpC_if_true {α : Type} {M : Model} {c : Bool} {a b : Sem α} {Q : α → Shared → Prop} (hc : c = true) (h : wpC M A a Q s) : wpC M A (if c = true then a else b) Q s := by
  subst hc
  exact h
theorem write_bytearray {M : Model} {a : Addr} {b : Array UInt8} {f : Array UInt8 → Array UInt8} {Q : Unit → Shared → Prop} (ho : s.heap.get? a = some { cls := .type "bytearray", data := .bytearray b }) (hz : (f b).size ≤ sizeLine)
    (h : (s.heap.update a (Obj.mapBytearray f)).get? a = some { cls := .type "bytearray", data := .bytearray (f b) } → Q () { s with heap := s.heap.update a (Obj.mapBytearray f) }) : wpAny M A (Builtin.Bytes.write (.ref a) f) Q E s := by
  show wpAny M A (updateBytearray a f) Q E s
  unfold updateBytearray
  refine wpAny_bind (wpAny_load ho ?_)
  show wpAny _ _ (update a (Obj.mapBytearray f) >>= fun _ => lookBehind a) _ _ _
  refine wpAny_bind (wpAny_update ho ?_)
  have h2 : (s.heap.update a (Obj.mapBytearray f)).get? a = some { cls := .type "bytearray", data := .bytearray (f b) } := Heap.get?_update_self (Obj.mapBytearray f) ho rfl
  refine wpAny_lookBehind h2 ?_ (h h2)
  show (if (f b).size > sizeLine then some "bytearray:memory" else none) = none
  rw [if_neg]
  omega
theorem init_bytearray {a : Addr} {n : Int} {t : Tok} {R : Flow → Shared → Prop} (h0 : 0 < n) (hz : n ≤ 2 ^ 24) (ho : s.heap.get? a = some { cls := .type "bytearray", data := .bytearray #[] })
    (hQ : ∀ h', Heap.SameBut a s.heap h' → h'.get? a = some { cls := .type "bytearray", data := .bytearray (Array.replicate n.toNat 0) } → R (.ret .none) { s with heap := h' }) :
    codeC (model prog w) A (.builtin "bytearray.__init__" ⟨[.ref a, .int n t], []⟩) R s := by
  have hT : s.TypeIs (.ref a) "bytearray" := ⟨_, ho, rfl⟩
  refine codeC_builtin (by decide +kernel) F.ba_plain_init F.ba_entry_init ?_
  show wpC _ _ (Builtin.Bytes.ownRelease (.ref a) >>= _) _ s
  refine wpC_bindA ?_
  unfold Builtin.Bytes.ownRelease
  refine wpAny_bind (slot_release hT (wpAny_pure ?_))
  refine wpC_if_false rfl ?_
  refine wpC_bindA (wpAny_of_eq (F.ba_bind _) ?_)
  refine wpC_bindA (wpAny_of_eq (a := ()) rfl ?_)
  refine wpC_bindA (wpAny_of_eq (a := ()) rfl ?_)
  refine wpC_bind ?_
  show wpC _ _ (Builtin.Bytes.exported (.ref a) >>= _) _ s
  refine wpC_bind (exported_clean ?_)
  show wpC _ _ ((do let x ← Builtin.Bytes.exportsOf (.ref a); pure (decide (x > 0))) : Sem Bool) _ s
  refine wpC_of (wpAny_bind ?_)
  unfold Builtin.Bytes.exportsOf
  refine wpAny_bind (wpAny_load ho ?_)
  refine wpAny_pure (wpAny_pure ?_)
  refine wpC_if_false rfl ?_
  refine wpC_of (wpAny_bind (write_bytearray ho (by decide) fun ho₁ => ?_))
  refine wpAny_bind (wpAny_of_eq (a := none) rfl ?_)
  refine bm_if_false rfl ?_
  refine wpAny_bind (wpAny_of_eq (a := ()) rfl ?_)
  refine wpAny_bind (wpAny_specialOf (T := "int") rfl F.ba_int_index ?_)
  refine bm_if_true rfl ?_
  refine wpAny_bind (wpAny_of_eq (a := .ok n) rfl ?_)
  refine bm_if_false (by simp only [Builtin.Bytes.fitsIndex, Bool.not_eq_false', Bool.and_eq_true, decide_eq_true_eq]; omega) ?_
  show wpAny _ _ (if n < 0 then _ else _) _ _ _
  rw [if_neg (by omega)]
  refine bm_if_false (by simp only [beq_eq_false_iff_ne, ne_eq]; omega) ?_
  refine bm_if_false (by show decide (n.toNat > 2 ^ 24) = false; exact decide_eq_false (by omega)) ?_
  refine wpAny_bind (wpAny_rule ?_)
  show wpAny _ _ (if n > 0 then _ else _) _ _ _
  rw [if_pos h0]
  refine wpAny_bind (write_bytearray ho₁ (by simp only [Array.size_replicate, sizeLine]; omega) fun ho₂ => ?_)
  exact wpAny_pure (hQ _ ((Heap.SameBut.update ..).trans (Heap.SameBut.update ..)) ho₂)
theorem isInst_type {M : Model} {v : Value} {T : String} {Q : Bool → Shared → Prop} (hT : s.TypeIs v T) (hs : isSubtype (.type T) (.type T) = pure true) (h : Q true s) : wpAny M A (isInstance v (.type T)) Q E s := wpAny_isInstance hT hs h
theorem call_bytearray {n : Int} {t : Tok} {Q : Value → Shared → Prop} (h0 : 0 < n) (hz : n ≤ 2 ^ 24)
    (hQ : ∀ h', (∀ b o, s.heap.get? b = some o → h'.get? b = some o) → h'.get? s.heap.objs.size = some { cls := .type "bytearray", data := .bytearray (Array.replicate n.toNat 0) } → Q (.ref s.heap.objs.size) { s with heap := h' }) :
    wpC (model prog w) A (call (.type "bytearray") [.int n t]) Q s := by
  refine wpC_call (codeC_callType (codeC_builtinU (by decide +kernel) PySem.F.entry_type_call (Around.under_plain (weight_type_call_type "bytearray" [.int n t] []) (units_type_call_type "bytearray" [.int n t] [])) ?_))
  unfold Builtin.«type.__call__»
  refine wpC_if_false (by decide +kernel) ?_
  refine wpC_if_false F.ba_called.canCreate ?_
  refine wpC_bindA (wpAny_of_eq (F.ba_typeCall _) ?_)
  refine wpC_bindA (wpAny_of_eq F.ba_mro ?_)
  refine wpC_if_false rfl ?_
  refine wpC_bindA (wpAny_of_eq F.ba_called.made ?_)
  refine wpC_bindA (wpAny_pure ?_)
  refine wpC_bindA (wpAny_holding (wpAny_call (codeAny_mono (code_bytearray_new (E := fun _ _ => False) (.int n t) (Q₁ := fun obj s₁ => obj = .ref s.heap.objs.size ∧ s₁ = { s with heap := s.heap.push { cls := .type "bytearray", data := .bytearray #[] } }) ⟨rfl, rfl⟩) fun r s₁ hr => ?_)))
  cases r with
  | error e => exact hr.elim
  | ok fl =>
  cases fl with
  | ret obj =>
    obtain ⟨rfl, rfl⟩ := hr
    have ho : (s.heap.push { cls := .type "bytearray", data := .bytearray #[] }).get? s.heap.objs.size = some { cls := .type "bytearray", data := .bytearray #[] } := Heap.get?_push_size _ rfl
    have hT : ({ s with heap := s.heap.push { cls := .type "bytearray", data := .bytearray #[] } } : Shared).TypeIs (.ref s.heap.objs.size) "bytearray" := ⟨_, ho, rfl⟩
    refine wpC_bindA (wpAny_isInstance hT F.ba_sub ?_)
    refine wpC_if_false rfl ?_
    refine wpC_bind (wpC_holding ?_)
    unfold callSpecial?
    refine wpC_bindA (wpAny_specialOf hT F.ba_slot_init.lookup ?_)
    refine wpC_holding ?_
    refine wpC_bindA (wpAny_of_eq (F.ba_slot_init.bind _) ?_)
    refine wpC_bind (wpC_call (codeC_treeA ?_))
    show wpAny _ _ (do checkBuiltinCall "bytearray.__init__" ⟨[.ref s.heap.objs.size, .int n t], []⟩; again (.builtin "bytearray.__init__" ⟨[.ref s.heap.objs.size, .int n t], []⟩)) _ _ _
    refine wpAny_bind (F.ba_slot_init.check _ _ _ _ _ _ _ _ hT (F.ba_args _ _) ?_)
    refine wpAny_pure ⟨plainId_quiet F.ba_plain_init _, init_bytearray h0 hz ho fun h' hs hg => ⟨_, rfl, ?_⟩⟩
    refine wpC_pure ?_
    refine wpC_if_false (by decide) ?_
    refine wpC_pure ⟨_, rfl, hQ h' (fun b o e => ?_) hg⟩
    exact (hs.2 b (Nat.ne_of_lt (Heap.lt_size e))).trans (Heap.get?_push_of_some _ e)
  | _ => exact hr.elim
end
end Mine
end
section
open PySem PySem.W PyProof.Rows
set_option maxRecDepth 100000
namespace Mine
namespace F
theorem ba_slot_set : Slot "bytearray" "__setitem__" "bytearray.__setitem__" :=
  .of (owner := "bytearray") (n := "__setitem__") (by rw [typeLookup_type, builtinLookup_eq_fast]; kernel_rfl) (by decide +kernel) (by decide +kernel) (by decide +kernel)
    (by first | exact .inl (by decide +kernel) | exact .inr (by decide +kernel)) (by rw [isSubtype_type]; kernel_rfl)
theorem ba_entry_set : entryFor table "bytearray.__setitem__" = some Builtin.«bytearray.__setitem__» := by first | exact entryFor_of_fast (by kernel_rfl) | exact entryFor_of_tree (by kernel_rfl)
theorem ba_args_set (a b c : Value) : argsOk "bytearray.__setitem__" ⟨[a, b, c], []⟩ := by
  unfold argsOk; rw [signature?_of (id := "bytearray.__setitem__") (n := ['_', '_', 'm', 'e', 't', 'i', 't', 'e', 's', '_', '_']) (o := ['y', 'a', 'r', 'r', 'a', 'e', 't', 'y', 'b']) (by kernel_rfl) ba_sigs]; kernel_rfl
theorem ba_no_bytes : typeLookup (.type "bytearray") "__bytes__" = pure none := by rw [typeLookup_type, builtinLookup_eq_fast]; kernel_rfl
theorem ba_no_index : typeLookup (.type "bytearray") "__index__" = pure none := by rw [typeLookup_type, builtinLookup_eq_fast]; kernel_rfl
theorem ba_buf_ends : "bytearray.__buffer__".endsWith ("." ++ "__buffer__") = true := by decide +kernel
theorem ba_buf_drop : ("bytearray.__buffer__".dropRight ("__buffer__".length + 1)) = "bytearray" := by decide +kernel
end F
section
variable {prog : Program} {w : World} {A : Around} {s : Shared} {E : Value → Shared → Prop}
theorem set_bytearray {a : Addr} {b : Array UInt8} {k v : Int} {t u : Tok} {Q : Unit → Shared → Prop} (ho : s.heap.get? a = some { cls := .type "bytearray", data := .bytearray b }) (h0 : 0 ≤ k) (hk : k < b.size) (hz : b.size ≤ 2 ^ 24)
    (hv0 : 0 ≤ v) (hv1 : v < 256)
    (hQ : ∀ h', Heap.SameBut a s.heap h' → h'.get? a = some { cls := .type "bytearray", data := .bytearray (b.setIfInBounds k.toNat v.toNat.toUInt8) } → Q () { s with heap := h' }) :
    wpAny (model prog w) A (setItem (.ref a) (.int k t) (.int v u)) Q E s := by
  have hT : s.TypeIs (.ref a) "bytearray" := ⟨_, ho, rfl⟩
  unfold setItem
  refine wpAny_holding ?_
  refine wpAny_bind (wpAny_sequenceKey hT (by decide) ?_)
  refine wpAny_bind (wpAny_callSpecial?_slot (name := Str.ofString "__setitem__") hT F.ba_slot_set (wpAny_call_entry F.ba_slot_set hT F.ba_entry_set ?_ (F.ba_args_set _ _ _)))
  show wpAny _ _ (Builtin.Bytes.subscript? (.int k t) >>= _) _ _ s
  refine wpAny_bind ?_
  unfold Builtin.Bytes.subscript?
  refine wpAny_bind (wpAny_specialOf (T := "int") rfl F.ba_int_index ?_)
  refine bm_if_false rfl ?_
  refine wpAny_bind (wpAny_of_eq (rfl : asIndex (.int k t) = pure k) ?_)
  refine bm_if_false (by simp only [Builtin.Bytes.fitsIndex, Bool.not_eq_false', Bool.and_eq_true, decide_eq_true_eq]; omega) ?_
  refine wpAny_pure ?_
  show wpAny _ _ (Builtin.Bytes.byteValue (.int v u) >>= _) _ _ s
  refine wpAny_bind ?_
  unfold Builtin.Bytes.byteValue
  refine wpAny_bind (wpAny_of_eq (rfl : asIndex (.int v u) = pure v) ?_)
  refine bm_if_false (by simp only [Bool.or_eq_false_iff, decide_eq_false_iff_not]; omega) ?_
  refine wpAny_pure ?_
  refine wpAny_bind ?_
  unfold Builtin.Bytes.payload Builtin.Bytes.payload?
  refine wpAny_bind (wpAny_bind (wpAny_load ho ?_))
  refine wpAny_pure (wpAny_pure ?_)
  have hidx : seqIndex? k b.size = some k.toNat := by
    unfold seqIndex?
    simp only [if_neg (show ¬ k < 0 by omega)]
    rw [if_pos (by simp only [Bool.and_eq_true, decide_eq_true_eq]; omega)]
  rw [hidx]
  show wpAny _ _ (Builtin.Bytes.write (.ref a) (·.setIfInBounds k.toNat v.toNat.toUInt8) >>= _) _ _ s
  refine wpAny_bind (write_bytearray ho (by simp only [Array.size_setIfInBounds]; exact hz) fun ho₂ => ?_)
  have fin := hQ _ (Heap.SameBut.update ..) ho₂
  first
    | exact wpAny_bind (wpAny_pure (wpAny_pure ⟨.none, rfl, wpAny_pure fin⟩))
    | exact wpAny_pure ⟨.none, rfl, wpAny_pure fin⟩
theorem new_bytes_ba {a : Addr} {b : Array UInt8} {Q : Value → Shared → Prop} (ho : s.heap.get? a = some { cls := .type "bytearray", data := .bytearray b }) (hz : b.size ≤ 2 ^ 24)
    (hQ : ∀ t k, Q (.bytes b t) { s with toks := k }) :
    codeAny (model prog w) A (.call (.builtin "bytes.__new__") ⟨[.type "bytes", .ref a], []⟩) (wants Q E) s := by
  have hT : s.TypeIs (.ref a) "bytearray" := ⟨_, ho, rfl⟩
  refine codeAny_of_tree ?_
  show wpAny _ A.in1 (do checkBuiltinCall "bytes.__new__" ⟨[.type "bytes", .ref a], []⟩; again (.builtin "bytes.__new__" ⟨[.type "bytes", .ref a], []⟩)) _ _ s
  refine wpAny_bind (wpAny_of_eq (PySem.F.bm_newCall _) (wpAny_pure ⟨plainId_quiet PySem.F.bm_plain _, codeAny_builtin PySem.F.bm_entry ?_⟩))
  rw [Around.under_plainId PySem.F.bm_plain _]
  unfold Builtin.«bytes.__new__»
  refine wpAny_bind (wpAny_of_eq (a := true) rfl ?_)
  refine bm_if_false rfl ?_
  refine wpAny_bind (wpAny_of_eq PySem.F.bm_sub ?_)
  refine bm_if_false rfl ?_
  refine wpAny_bind (wpAny_of_eq (PySem.F.bm_bind _) ?_)
  refine wpAny_bind (wpAny_of_eq (a := ()) rfl ?_)
  refine wpAny_bind (wpAny_of_eq (a := ()) rfl ?_)
  refine bm_if_false rfl ?_
  refine wpAny_bind (wpAny_specialOf hT F.ba_no_bytes ?_)
  refine wpAny_bind (wpAny_bind ?_)
  show wpAny _ _ (load a >>= _) _ _ _
  refine wpAny_bind (wpAny_load ho ?_)
  refine wpAny_pure (wpAny_pure ?_)
  refine bm_if_false rfl ?_
  refine wpAny_bind (wpAny_specialOf hT F.ba_no_index ?_)
  refine bm_if_true rfl ?_
  first
    | show wpAny _ _ (Builtin.Bytes.buffer? "bytes.__new__" (.ref a) true >>= _) _ _ _
    | (refine wpAny_bind ?_; show wpAny _ _ (Builtin.Bytes.buffer? "bytes.__new__" (.ref a) true >>= _) _ _ _)
  refine wpAny_bind ?_
  unfold Builtin.Bytes.buffer?
  refine wpAny_bind (wpAny_specialOf hT F.ba_buffer ?_)
  refine wpAny_bind ?_
  unfold Builtin.Bytes.slotIsOwn
  refine wpAny_bind (wpAny_specialOf hT F.ba_buffer ?_)
  show wpAny _ _ (if (!"bytearray.__buffer__".endsWith ("." ++ "__buffer__")) = true then pure false else isInstance (.ref a) (.type ("bytearray.__buffer__".dropRight ("__buffer__".length + 1)))) _ _ _
  rw [F.ba_buf_ends, F.ba_buf_drop]
  refine wpAny_isInstance hT F.ba_sub ?_
  refine bm_if_false rfl ?_
  refine wpAny_bind (wpAny_specialOf hT F.ba_buffer ?_)
  show wpAny _ _ (Builtin.Bytes.ownRelease (.ref a) >>= _) _ _ _
  refine wpAny_bind ?_
  unfold Builtin.Bytes.ownRelease
  refine wpAny_bind (slot_release hT (wpAny_pure ?_))
  refine bm_if_false rfl ?_
  refine wpAny_bind ?_
  unfold Builtin.Bytes.payload Builtin.Bytes.payload?
  refine wpAny_bind (wpAny_bind (wpAny_load ho ?_))
  refine wpAny_pure (wpAny_pure (wpAny_pure ?_))
  refine wpAny_bind (wpAny_rule (wpAny_bind (wpAny_mkBytes ?_ hz)))
  show wpAny _ _ (if (Value.type "bytes" == Value.type "bytes") = true then _ else _) _ _ _
  refine bm_if_true (by decide) ?_
  first
    | exact wpAny_pure (hQ _ _)
    | exact wpAny_bind (wpAny_pure (wpAny_pure (hQ _ _)))
theorem call_bytes_ba {a : Addr} {b : Array UInt8} {Q : Value → Shared → Prop} (ho : s.heap.get? a = some { cls := .type "bytearray", data := .bytearray b }) (hz : b.size ≤ 2 ^ 24)
    (hQ : ∀ t k, Q (.bytes b t) { s with toks := k }) : wpAny (model prog w) A (call (.type "bytes") [.ref a]) Q E s := by
  refine callType_codes (Q₁ := fun obj s₁ => s₁.TypeIs obj "bytes" ∧ Q obj s₁) PySem.F.bm_called (PySem.F.bm_typeCall _) PySem.F.entry_object_init
    (new_bytes_ba ho hz fun t k => ⟨PySem.W.typeIs_bytes _ _ _, hQ t k⟩) fun obj s₁ h₁ => ?_
  exact ⟨h₁.1, PySem.F.args_object_init_2 obj _, object_init_meets PySem.F.bm_called.init.lookup PySem.F.bm_called.made (by decide) prog w A.in1 _ s₁ ⟨h₁.1, rfl, h₁.2⟩⟩
end
end Mine
end
section
open PySem PySem.W PyProof.Rows
set_option maxRecDepth 100000
namespace Mine
section
variable {prog : Program} {w : World} {A : Around} {E : Value → Shared → Prop} {s : Shared}
theorem ints_of_get : ∀ {vs : List Value} {ns : List Int}, vs.length = ns.length → (∀ (i : Nat) (v : Value) (n : Int), vs[i]? = some v → ns[i]? = some n → ∃ t, v = Value.int n t) → IntsAre vs ns
  | [], [], _, _ => .nil
  | [], _ :: _, h, _ => by simp at h
  | _ :: _, [], h, _ => by simp at h
  | v :: vs, n :: ns, h, hg => by
    obtain ⟨t, rfl⟩ := hg 0 v n rfl rfl
    exact .cons n t (ints_of_get (by simpa using h) fun i v' n' h1 h2 => hg (i + 1) v' n' (by simpa using h1) (by simpa using h2))
def ByteAt (b : Array UInt8) (i : Nat) (v : Value) : Prop := ∃ c u, b[i]? = some c ∧ v = .int (c.toNat : Int) u
theorem extend_bytes {R : Result → Shared → Prop} (hh : A.handled = none) (b : Array UInt8) (t : Tok) (S : Addr) (res : Value) (c₀ : Nat) (hS : s.heap.get? S = some { cls := .type "list", data := .seq #[] c₀ }) (hn : b.size ≤ sizeLine)
    (hR : ∀ h' tk acc' c', (∀ b o, b ≠ S → s.heap.get? b = some o → h'.get? b = some o) → h'.get? S = some { cls := .type "list", dict := none, data := .seq acc' c', slots := #[] } →
      ItemsOf (ByteAt b) acc' b.size → R (.ok (.ret res)) { s with heap := h', toks := tk }) :
    wpAny (model prog w) A.in1 (Builtin.List.listExtendWith (.ref S) (.bytes b t) res)
      (fun fin s' => match fin with | .done f => R (.ok f) s' | .again c' => c'.quiet = true ∧ codeAny (model prog w) A c' R s') (fun e s' => R (.error e) s') s := by
  have hSI : S ≠ s.heap.objs.size := Nat.ne_of_lt (Heap.lt_size hS)
  have hSf : S ∉ [s.heap.objs.size] := fun hm => hSI (List.mem_singleton.mp hm)
  have hT : s.TypeIs (.bytes b t) "bytes" := typeIs_bytes s b t
  have W := (KBw.walks (prog := prog) (w := w) (A := A.in1) hh s.heap.objs.size b t).toS
  have key : ∀ (h : Heap) (c₁ tk : Nat), KBw.IsBytesIter h s.heap.objs.size b t 0 → (∀ b o, b ≠ S → s.heap.get? b = some o → h.get? b = some o) →
      h.get? S = some { cls := .type "list", data := .seq #[] c₁ } → codeAny (model prog w) A (.builtin "list.extend.loop" ⟨[.ref S, .ref s.heap.objs.size, res], []⟩) R { s with heap := h, toks := tk } := by
    intro h c₁ tk hit hk hS₁
    refine codeAny_extend_loopS W hn S hSf res b.size 0 _ #[] c₁ rfl (Nat.zero_le _) hit hS₁ (ItemsOf.nil _) fun s' acc' c' hm hS' hacc => ?_
    rw [Moved.eq_with hm]
    refine hR s'.heap s'.toks acc' c' (fun b o hb e => hm.heap b o (fun hmem => ?_) (hk b o hb e)) hS' hacc
    rcases List.mem_cons.mp hmem with e' | hmem
    · exact hb e'
    · exact absurd (Heap.lt_size e) (by rw [List.mem_singleton.mp hmem]; exact Nat.lt_irrefl _)
  unfold Builtin.List.listExtendWith
  refine wpAny_bind (wpAny_typeOf hT ?_)
  have h1 : Builtin.List.listSameRef (.ref S) (.bytes b t) = false := rfl
  have h2 : (Value.type "bytes" == Value.type "list") = false := by decide
  have h3 : (Value.type "bytes" == Value.type "tuple") = false := by decide
  simp only [h1, h2, h3, Bool.or_false, Bool.false_eq_true, if_false]
  refine wpAny_bind (KBw.pyIter_bytes ?_)
  have hT₁ : ({ s with heap := s.heap.push { cls := .type "bytes_iterator", data := .fields #[.bytes b t, .int 0 0] } } : Shared).TypeIs (.bytes b t) "bytes" := typeIs_bytes _ b t
  have hit₁ : KBw.IsBytesIter (s.heap.push { cls := .type "bytes_iterator", data := .fields #[.bytes b t, .int 0 0] }) s.heap.objs.size b t 0 := ⟨_, Heap.get?_push_size _ rfl, rfl, rfl⟩
  have hS₁ := Heap.get?_push_of_some { cls := .type "bytes_iterator", data := .fields #[.bytes b t, .int 0 0] } hS
  refine wpAny_bind (wpAny_holding ?_)
  unfold Builtin.List.listLengthHint
  refine wpAny_bind (wpAny_specialOf hT₁ FB.slot_bytes_len.lookup ?_)
  generalize hid : ("bytes.__len__" : String) = id0
  wp_delta
  rw [show splitId id0 = some ("bytes", "__len__") from by subst hid; decide +kernel]
  subst hid
  refine wpAny_bind (wpAny_isInstance hT₁ PySem.F.bm_sub ?_)
  refine wpAny_ite_split (fun hab => absurd hab (by decide)) (fun _ => ?_)
  refine wpAny_ite_split (fun _ => ?_) (fun hab => absurd (by decide +kernel) hab)
  refine wpAny_bind (wpAny_typeOf hT₁ ?_)
  refine wpAny_pure ?_
  refine wpAny_ite_split (fun hab => absurd hab (by decide +kernel)) (fun _ => ?_)
  exact wpAny_pure ⟨plainId_quiet PySem.F.plain_extend_loop _, key _ c₀ _ hit₁ (fun b o _ e => Heap.get?_push_of_some _ e) hS₁⟩
theorem init_list_bytes {R : Result → Shared → Prop} (hh : A.handled = none) (b : Array UInt8) (t : Tok) (S : Addr) (hS : s.heap.get? S = some { cls := .type "list", data := .seq #[] }) (hn : b.size ≤ sizeLine)
    (hR : ∀ h' tk acc' c', (∀ b o, b ≠ S → s.heap.get? b = some o → h'.get? b = some o) → h'.get? S = some { cls := .type "list", dict := none, data := .seq acc' c', slots := #[] } →
      ItemsOf (ByteAt b) acc' b.size → R (.ok (.ret .none)) { s with heap := h', toks := tk }) :
    wpAny (model prog w) A.in1 (Builtin.«list.__init__» ⟨[.ref S, .bytes b t], []⟩)
      (fun fin s' => match fin with | .done f => R (.ok f) s' | .again c' => c'.quiet = true ∧ codeAny (model prog w) A c' R s') (fun e s' => R (.error e) s') s := by
  show wpAny _ _ (do let old ← Builtin.List.listItems (.ref S); Builtin.List.listUpdate (.ref S) (fun _ => #[]); letGo old.toList.reverse; Builtin.List.listExtendWith (.ref S) (.bytes b t) .none) _ _ s
  refine wpAny_bind ?_
  unfold Builtin.List.listItems
  refine wpAny_bind (wpAny_seqItems hS rfl (wpAny_pure ?_))
  show wpAny _ _ (updateSeq S (fun _ => #[]) >>= fun _ => letGo (#[] : Array Value).toList.reverse >>= fun _ => Builtin.List.listExtendWith (.ref S) (.bytes b t) .none) _ _ s
  refine wpAny_bind (wpAny_updateSeq hS rfl ?_)
  have hS₂ := Heap.get?_update_self (Obj.mapSeq (fun _ => (#[] : Array Value))) hS rfl
  have oth : ∀ b o, b ≠ S → s.heap.get? b = some o → (s.heap.update S (Obj.mapSeq (fun _ => (#[] : Array Value)))).get? b = some o :=
    fun b o hb e => (Heap.get?_update_other _ _ (Ne.symm hb)).trans e
  refine wpAny_bind (wpAny_letGo ?_)
  exact extend_bytes hh b t S .none _ hS₂ hn fun h' tk acc' c' hk hS' hacc => hR h' tk acc' c' (fun b o hb e => hk b o hb (oth b o hb e)) hS' hacc
theorem call_list_bytes {Q : Value → Shared → Prop} (hh : A.handled = none) (b : Array UInt8) (t : Tok) (hn : b.size ≤ sizeLine)
    (hQ : ∀ h' tk vs c', (∀ b o, s.heap.get? b = some o → h'.get? b = some o) →
      h'.get? s.heap.objs.size = some (listOf vs.toArray c') → IntsAre vs (KBw.bInts b) → Q (.ref s.heap.objs.size) { s with heap := h', toks := tk }) :
    wpAny (model prog w) A (call (.type "list") [.bytes b t]) Q E s := by
  refine callType_codes (Q₁ := fun obj s₁ => obj = .ref s.heap.objs.size ∧ s₁ = { s with heap := s.heap.push { cls := .type "list", data := .seq #[] } }) PySem.F.called_list (PySem.F.typeCall_list_1 _) PySem.F.entry_list_init
    (code_list_new _ ⟨rfl, rfl⟩) fun obj s₁ h₁ => ?_
  obtain ⟨rfl, rfl⟩ := h₁
  have hS : (s.heap.push { cls := .type "list", data := .seq #[] }).get? s.heap.objs.size = some { cls := .type "list", data := .seq #[] } := Heap.get?_push_size _ rfl
  refine ⟨⟨_, hS, rfl⟩, PySem.F.args_list_init_2 _ _, init_list_bytes (A := A.in1) hh b t _ hS hn fun h' tk acc' c' hk hS' hacc => ?_⟩
  refine ⟨rfl, hQ h' tk acc'.toList c' (fun b o e => hk b o (Nat.ne_of_lt (Heap.lt_size e)) (Heap.get?_push_of_some _ e)) (by simpa using hS') ?_⟩
  refine ints_of_get (by rw [KBw.ints_length, Array.length_toList]; exact hacc.1) fun i v n h1 h2 => ?_
  obtain ⟨c, u, hc, rfl⟩ := hacc.2 i v (by simpa using h1)
  rw [KBw.ints_get hc] at h2
  exact ⟨u, by rw [Option.some.inj h2]⟩
end
end Mine
end
section
open PySem PySem.W PyProof.Rows PySem.SeqAt
set_option maxRecDepth 100000
namespace Mine
/-- the order of lists of ints -/
def llt : List Int → List Int → Bool
  | [], [] => false
  | [], _ :: _ => true
  | _ :: _, [] => false
  | a :: x, b :: y => if a = b then llt x y else decide (a < b)
theorem lt_loop (l b : Addr) (items items2 : Array Value) (n n2 : Nat) (dd dd2 : Option Addr) (sl sl2 : Array (Option Value)) (ns ms : List Int) (h1 : IntsAre items.toList ns) (h2 : IntsAre items2.toList ms) (hlen : ns.length = ms.length) (k : Nat) :
    ∀ i : Nat, items.size - i = k → Meets (Builtin.«list.__eq__.loop» ⟨[.ref l, .ref b, rawInt i, rawInt 0], []⟩)
      (fun _ R s => s.heap.get? l = some { cls := .type "list", dict := dd, data := .seq items n, slots := sl } ∧ s.heap.get? b = some { cls := .type "list", dict := dd2, data := .seq items2 n2, slots := sl2 } ∧
        R (.ok (.ret (.bool (llt (ns.drop i) (ms.drop i))))) s) := by
  have e1 : items.size = ns.length := by simpa using h1.length
  have e2 : items2.size = ms.length := by simpa using h2.length
  induction k with
  | zero =>
    intro i hk prog w A R s h
    obtain ⟨hp, g, d, tk, os⟩ := s; obtain ⟨hl, hb, h⟩ := h
    wp_walk using wpAny_loadPart' hl, wpAny_loadPart' hb
    have hi1 : items[((i : Nat) : Int).toNat]? = none := by simp; omega
    rw [hi1]
    wp_walk using wpAny_loadPart' hl, wpAny_loadPart' hb
    show R (.ok (.ret (.bool (decide (items.size < items2.size))))) _
    rw [List.drop_of_length_le (by omega), List.drop_of_length_le (by omega)] at h
    rw [show decide (items.size < items2.size) = false from decide_eq_false (by omega)]
    exact h
  | succ k ih =>
    intro i hk prog w A R s h
    obtain ⟨hp, g, d, tk, os⟩ := s; obtain ⟨hl, hb, h⟩ := h
    wp_walk using wpAny_loadPart' hl, wpAny_loadPart' hb
    have hlt : i < items.size := by omega
    have hlt2 : i < items2.size := by omega
    have hi1 : items[((i : Nat) : Int).toNat]? = some items[i] := by simp [hlt]
    have hi2 : items2[((i : Nat) : Int).toNat]? = some items2[i] := by simp [hlt2]
    obtain ⟨a, t, ea, ga⟩ := h1.at i items[i] (by simp [hlt])
    obtain ⟨c, u, ec, gc⟩ := h2.at i items2[i] (by simp [hlt2])
    have hd1 : ns.drop i = a :: ns.drop (i + 1) := by rw [List.drop_eq_getElem_cons (by omega)]; congr 1; rw [List.getElem?_eq_getElem (by omega)] at ga; exact Option.some.inj ga
    have hd2 : ms.drop i = c :: ms.drop (i + 1) := by rw [List.drop_eq_getElem_cons (by omega)]; congr 1; rw [List.getElem?_eq_getElem (by omega)] at gc; exact Option.some.inj gc
    have hc : ((i : Int) + 1) = ((i + 1 : Nat) : Int) := by push_cast; rfl
    rw [hd1, hd2] at h
    unfold llt at h
    rw [hi1, hi2, ea, ec]
    refine wpAny_bind (wpAny_eqBool_int ?_)
    by_cases hac : a = c
    · subst hac
      rw [show (a == a) = true by simp]
      rw [if_pos rfl] at h
      wp_walk
      rw [hc]
      exact ⟨plainId_quiet PySem.MeetsSeq3.plain_eq_loop _, codeAny_builtin PySem.MeetsSeq3.entry_eq_loop (by
        rw [Around.under_plainId PySem.MeetsSeq3.plain_eq_loop _]
        exact ih (i + 1) (by omega) prog w A R _ ⟨hl, hb, h⟩)⟩
    · rw [show (a == c) = false by simp [hac]]
      rw [if_neg hac] at h
      wp_walk using wpAny_loadPart' hl, wpAny_loadPart' hb
      rw [hi1, hi2, ea, ec]
      refine wpAny_bind (m := richCompare .Lt (.int a t) (.int c u)) (show wpAny _ _ (compareOp .Lt (.int a t) (.int c u)) _ _ _ from wpAny_lt_int ?_)
      exact wpAny_pure h
theorem list_lt (l b : Addr) (items items2 : Array Value) (n n2 : Nat) (dd dd2 : Option Addr) (sl sl2 : Array (Option Value)) (ns ms : List Int) (h1 : IntsAre items.toList ns) (h2 : IntsAre items2.toList ms) (hlen : ns.length = ms.length) :
    Meets (Builtin.«list.__lt__» ⟨[.ref l, .ref b], []⟩)
      (fun _ R s => s.heap.get? l = some { cls := .type "list", dict := dd, data := .seq items n, slots := sl } ∧ s.heap.get? b = some { cls := .type "list", dict := dd2, data := .seq items2 n2, slots := sl2 } ∧
        R (.ok (.ret (.bool (llt ns ms)))) s) := by
  intro prog w A R s h
  obtain ⟨hp, g, d, tk, os⟩ := s; obtain ⟨hl, hb, h⟩ := h
  have f3 := AutoSeq1.sub_list_list
  wp_walk using wpAny_loadPart' hl, wpAny_loadPart' hb
  exact ⟨plainId_quiet PySem.MeetsSeq3.plain_eq_loop _, codeAny_builtin PySem.MeetsSeq3.entry_eq_loop (by
    rw [Around.under_plainId PySem.MeetsSeq3.plain_eq_loop _]
    exact lt_loop l b items items2 n n2 dd dd2 sl sl2 ns ms h1 h2 hlen _ 0 rfl prog w A R _ ⟨hl, hb, by simpa using h⟩)⟩
section
variable {prog : Program} {w : World} {A : Around} {E : Value → Shared → Prop} {s : Shared}
theorem lt_lists {l b : Addr} {vs ws : List Value} {ns ms : List Int} {Q : Value → Shared → Prop} (hl : s.heap.IsList l vs.toArray) (hb : s.heap.IsList b ws.toArray) (h1 : IntsAre vs ns) (h2 : IntsAre ws ms) (hlen : ns.length = ms.length) (hu : A.units < cLine)
    (h : Q (.bool (llt ns ms)) s) : wpAny (model prog w) A (compareOp .Lt (.ref l) (.ref b)) Q E s := by
  obtain ⟨⟨cls, dd, data, sl⟩, ho, hc, n, hd⟩ := id hl
  obtain ⟨⟨cls2, dd2, data2, sl2⟩, ho2, hc2, n2, hd2⟩ := id hb
  simp only at hc hd hc2 hd2
  subst hc hd hc2 hd2
  exact richCompare_meets_room (op := .Lt) ⟨_, ho, rfl⟩ ⟨_, ho2, rfl⟩ PySem.F.slot_list_lt PySem.F.entry_list_lt (PySem.F.args_list_lt_2 _ _) (list_lt l b vs.toArray ws.toArray n n2 dd dd2 sl sl2 ns ms (by simpa using h1) (by simpa using h2) hlen)
    ⟨ho, ho2, show Value.bool (llt ns ms) ≠ Value.notImplemented ∧ Q (.bool (llt ns ms)) s from ⟨(fun x => nomatch x), h⟩⟩ hu
theorem keyLt_lists {l b : Addr} {vs ws : List Value} {ns ms : List Int} {Q : Bool → Shared → Prop} (hl : s.heap.IsList l vs.toArray) (hb : s.heap.IsList b ws.toArray) (h1 : IntsAre vs ns) (h2 : IntsAre ws ms) (hlen : ns.length = ms.length) (hu : A.units < cLine)
    (h : Q (llt ns ms) s) : wpAny (model prog w) A (keyLt' oneType' (.ref l) (.ref b)) Q E s := by
  obtain ⟨⟨cls, dd, data, sl⟩, ho, hc, n, hd⟩ := id hl
  obtain ⟨⟨cls2, dd2, data2, sl2⟩, ho2, hc2, n2, hd2⟩ := id hb
  simp only at hc hd hc2 hd2
  subst hc hd hc2 hd2
  rw [keyLt'_oneType, oneLt'_eq]
  simp only [if_true]
  refine wpAny_bind (wpAny_cRoomFor hu ?_)
  refine wpAny_bind (wpAny_callSpecialIfBound?_slot (name := Str.ofString "__lt__") ⟨_, ho, rfl⟩ PySem.F.slot_list_lt (call_meets PySem.F.slot_list_lt ⟨_, ho, rfl⟩ PySem.F.entry_list_lt (PySem.F.args_list_lt_2 _ _)
    (list_lt l b vs.toArray ws.toArray n n2 dd dd2 sl sl2 ns ms (by simpa using h1) (by simpa using h2) hlen) ⟨ho, ho2, ?_⟩))
  exact wpAny_truthy_bool h
end
end Mine
end
section
open PySem PySem.W PyProof.Rows
set_option maxRecDepth 100000
namespace Mine
abbrev P0 : Program := PySem.Challenge.rw_oc0017_01.row.prog
def RowIn (fro : List (Addr × Obj)) (v : Value) (r : List Int) : Prop := ∃ a vs n, v = Value.ref a ∧ (a, listOf (List.toArray vs) n) ∈ fro ∧ IntsAre vs r
def RowsIn (W : Nat) (fro : List (Addr × Obj)) (vs : List Value) (rs : List (List Int)) : Prop :=
  vs.length = rs.length ∧ ∀ (i : Nat) v r, vs[i]? = some v → rs[i]? = some r → RowIn fro v r ∧ r.length = W
/-- sifting down to the root, by hand -/
def sd (rows : List (List Int)) (new : List Int) (pos : Nat) : List (List Int) :=
  if h : pos = 0 then rows.set pos new
  else if llt new (rows.getD ((pos - 1) / 2) []) then sd (rows.set pos (rows.getD ((pos - 1) / 2) [])) new ((pos - 1) / 2) else rows.set pos new
termination_by pos
decreasing_by omega
/-- sifting up from a place, then down to the root -/
def su (rows : List (List Int)) (new : List Int) (pos : Nat) : List (List Int) :=
  if h : 2 * pos + 1 < rows.length then
    if 2 * pos + 2 < rows.length ∧ llt (rows.getD (2 * pos + 1) []) (rows.getD (2 * pos + 2) []) = false then su (rows.set pos (rows.getD (2 * pos + 2) [])) new (2 * pos + 2)
    else su (rows.set pos (rows.getD (2 * pos + 1) [])) new (2 * pos + 1)
  else sd (rows.set pos new) new pos
termination_by rows.length - pos
decreasing_by all_goals (simp only [List.length_set]; omega)
theorem rowsIn_get {W : Nat} {fro : List (Addr × Obj)} {vs : List Value} {rs : List (List Int)} (R : RowsIn W fro vs rs) {i : Nat} (hi : i < rs.length) :
    ∃ a us k, vs[i]? = some (.ref a) ∧ (a, listOf (List.toArray us) k) ∈ fro ∧ IntsAre us (rs.getD i []) ∧ (rs.getD i []).length = W := by
  have h1 : vs[i]? = some (vs[i]'(by rw [R.1]; exact hi)) := List.getElem?_eq_getElem _
  have h2 : rs[i]? = some (rs[i]'hi) := List.getElem?_eq_getElem _
  obtain ⟨⟨a, us, k, e, hm, hI⟩, hl⟩ := R.2 i _ _ h1 h2
  have e3 : rs.getD i [] = rs[i]'hi := by simp [List.getD, h2]
  exact ⟨a, us, k, by rw [h1, e], hm, by rw [e3]; exact hI, by rw [e3]; exact hl⟩
theorem rowsIn_set {W : Nat} {fro : List (Addr × Obj)} {vs : List Value} {rs : List (List Int)} (R : RowsIn W fro vs rs) {i : Nat} {v : Value} {r : List Int} (h : RowIn fro v r) (hW : r.length = W) : RowsIn W fro (vs.set i v) (rs.set i r) := by
  refine ⟨by simp [R.1], fun j v' r' h1 h2 => ?_⟩
  rw [List.getElem?_set] at h1 h2
  by_cases e : i = j
  · rw [if_pos e] at h1 h2
    split at h1
    · split at h2
      · cases h1; cases h2; exact ⟨h, hW⟩
      · cases h2
    · cases h1
  · rw [if_neg e] at h1 h2
    exact R.2 j v' r' h1 h2
section
variable {prog : Program} {w : World} {A : Around} {E : Value → Shared → Prop} {s : Shared} {h₀ : Heap} {L H : Addr} {m : Str → Option Value} {fro : List (Addr × Obj)} {vs : List Value} {n : Nat} {k : Int} {t : Tok} {x : Value}
theorem set_item {pre : List (Addr × Obj)} {Q : Unit → Shared → Prop} (F : Fr h₀ L s.heap m) (N : News h₀ L s.heap (pre ++ (H, listOf vs.toArray n) :: fro)) (hpre : ∀ p ∈ pre, p.1 ≠ H) (hoff : ∀ p ∈ fro, p.1 ≠ H) (h0 : 0 ≤ k) (h1 : k < vs.length) (hfit : k < 2 ^ 63)
    (h : ∀ h', Fr h₀ L h' m → News h₀ L h' (pre ++ (H, listOf (vs.set k.toNat x).toArray n) :: fro) → Q () { s with heap := h' }) :
    wpAny (model prog w) A (setItem (.ref H) (.int k t) x) Q E s := by
  have z := N (H, listOf vs.toArray n) (List.mem_append.mpr (.inr (.head _)))
  refine ki_setAt z.1 h0 hfit (by rw [List.size_toArray]; exact h1) (h _ (F.change (Heap.SameBut.update ..) z.2.1 z.2.2) (ki_turn _ N hpre hoff ?_ ?_))
  · apply Array.toList_inj.mp
    simp
  · simp
theorem set_head {Q : Unit → Shared → Prop} (F : Fr h₀ L s.heap m) (N : News h₀ L s.heap ((H, listOf vs.toArray n) :: fro)) (hoff : ∀ p ∈ fro, p.1 ≠ H) (h0 : 0 ≤ k) (h1 : k < vs.length) (hfit : k < 2 ^ 63)
    (h : ∀ h', Fr h₀ L h' m → News h₀ L h' ((H, listOf (vs.set k.toNat x).toArray n) :: fro) → Q () { s with heap := h' }) :
    wpAny (model prog w) A (setItem (.ref H) (.int k t) x) Q E s := set_item (pre := []) F N (fun _ h => nomatch h) hoff h0 h1 hfit h
theorem len_row {news : List (Addr × Obj)} {a : Addr} {us : List Value} {k : Nat} {Q : Value → Shared → Prop} (N : News h₀ L s.heap news) (ha : (a, listOf us.toArray k) ∈ news) (hz : us.length < 2 ^ 62)
    (h : ∀ t tk, Q (.int us.length t) { s with toks := tk }) : wpAny (model prog w) A (call (.builtin "len") [.ref a]) Q E s :=
  Calls.call_len_list (PySem.IsL.isList (n := k) (N _ ha).1) (by rw [List.size_toArray]; omega) (by rw [List.size_toArray]; exact h _ _)
theorem lt_rows {news : List (Addr × Obj)} {a b : Addr} {us ws : List Value} {ns ms : List Int} {k l : Nat} {Q : Value → Shared → Prop} (N : News h₀ L s.heap news) (ha : (a, listOf us.toArray k) ∈ news) (hb : (b, listOf ws.toArray l) ∈ news)
    (h1 : IntsAre us ns) (h2 : IntsAre ws ms) (hlen : ns.length = ms.length) (hu : A.units < cLine) (h : Q (.bool (llt ns ms)) s) : wpAny (model prog w) A (compareOp .Lt (.ref a) (.ref b)) Q E s :=
  lt_lists (PySem.IsL.isList (n := k) (N _ ha).1) (PySem.IsL.isList (n := l) (N _ hb).1) h1 h2 hlen hu h
end
end Mine
end
section
open PySem PySem.W PyProof.Rows
set_option maxRecDepth 100000
set_option maxHeartbeats 4000000
namespace Mine
local macro_rules | `(tactic| walk_at "go1") => `(tactic| (first | (k_unfold; (try dsimp only)) | walk1 | (dsimp only; walk1)))
local macro_rules | `(tactic| walk_at "same1") => `(tactic| (intro z h2 h3
                                                             (simp only [List.forall_mem_cons, List.not_mem_nil, false_implies, implies_true, and_true, ne_eq] at h2)
                                                             (have h3' := h3)
                                                             (simp only [List.contains_cons, List.contains_nil, Bool.or_false, Bool.or_eq_false_iff, beq_eq_false_iff_ne, ne_eq] at h3')
                                                             (simp only [kstB, h2, h3', h3, if_false, Bool.false_eq_true])))
theorem siftdown_spec : ∀ {w : World} {mean : ExcName → Option Value} {mg mb : Str → Option Value} {dp un : Nat} {gd : Option (List Code)} {cn : Str} {cs : Scope} {a : Addr} {ccd : Value} {cl : List (Str × Addr)} {outer : List Env} {A₀ : Around} {base h₀ : Heap} {L : Addr} {m : Str → Option Value} {s : Shared} {Q E : Value → Shared → Prop}
    {H : Addr} {refs : List Value} {rows : List (List Int)} {W n : Nat} {fro fr2 : List (Addr × Obj)} {p0 p1 : Tok} {pos : Nat},
    Below A₀ base outer h₀ → Fr h₀ L s.heap m → (hd.heap_39 w.params).In h₀ → News h₀ L s.heap ((H, listOf refs.toArray n) :: fro) → Top hd.view_39 (looseW hd.view_39 []) mean mg mb h₀ → cs.kind = .function →
    (∀ p ∈ fro, p.1 ≠ H) → (∀ p ∈ fr2, p ∈ fro) → RowsIn W fr2 refs rows → pos < rows.length → rows.length < 2 ^ 20 → dp + 1 < recursionLimit → un + 8 < cLine →
    (∀ refs' h' tk', Fr h₀ L h' m → News h₀ L h' ((H, listOf refs'.toArray n) :: fro) → RowsIn W fr2 refs' (sd rows (rows.getD pos []) pos) → Q .none { s with heap := h', toks := tk' }) →
    wpAny (model PySem.Challenge.rw_oc0017_01.row.prog w) (ktrTop dp un gd cn cs L a ccd cl outer) (call (.ref 42) [.ref H, .int 0 p0, .int pos p1]) Q E s := by
  w_top off
  k_fill
  intro w mean mg mb dp un gd cn cs a ccd cl outer A₀ base h₀ L m s Q E H refs rows W n fro fr2 p0 p1 pos B F X N T hk hoff hsub R hpos hlen hdp hu hret
  refine wpAny_call ?_
  k_dflt ktr_enter
  obtain ⟨r, us, k, hg, hmem, hI, hW⟩ := rowsIn_get R hpos
  iterate 6 walk_at "go1"
  (rename News _ _ _ _ => N1)
  with_unfolding_all refine kim_list N1 (List.Mem.head _) rfl rfl (Int.natCast_nonneg _) (by omega) (by rw [Int.toNat_natCast]; exact hg) ?_
  iterate 2 walk_at "go1"
  (rename Fr _ _ _ _ => F1)
  (rename News _ _ _ _ => N2)
  refine ksw_while (σ := List Value × List (List Int) × Nat × Tok) (fun c => (H, listOf c.1.toArray n) :: fro) (fun c => [(Str.ofString "pos", .int c.2.2.1 c.2.2.2)]) (fun _ => True) [Str.ofString "parentpos", Str.ofString "parent"]
    (fun c => RowsIn W fr2 c.1 c.2.1 ∧ c.2.2.1 < c.2.1.length ∧ c.2.1.length = rows.length ∧ sd c.2.1 (rows.getD pos []) c.2.2.1 = sd rows (rows.getD pos []) pos) (fun c => c.2.2.1) (refs, rows, pos, p1) F1 N2 trivial
    (fun p hp => by rw [List.mem_singleton.mp hp]; rfl) ⟨R, hpos, rfl, rfl⟩ ?_
  rintro ⟨refs1, rows1, pos1, tk1⟩ u h tk - ⟨R1, hpos1, hlen1, hsd⟩ F2 N3
  dsimp only at R1 hpos1 hlen1 hsd F2 N3 ⊢
  iterate 6 walk_at "go1"
  rotate_left
  · iterate 5 walk_at "go1"
    refine set_head F2 N3 hoff (Int.natCast_nonneg _) (by rw [R1.1]; omega) (by omega) (fun h2 F3 N4 => ?_)
    iterate 3 walk_at "go1"
    refine hret _ _ _ (by assumption) (by assumption) ?_
    rw [Int.toNat_natCast, ← hsd]
    have h0 : pos1 = 0 := by omega
    unfold sd
    rw [dif_pos h0]
    exact rowsIn_set R1 ⟨_, _, _, rfl, hmem, hI⟩ hW
  · iterate 15 walk_at "go1"
    have hp1 : 0 < pos1 := by omega
    have e : ((pos1 : Int) - 1).fdiv (2 ^ Int.toNat 1) = (((pos1 - 1) / 2 : Nat) : Int) := by
      rw [show (2 ^ Int.toNat 1 : Int) = 2 from rfl, Int.fdiv_eq_ediv_of_nonneg _ (by omega)]
      omega
    have hpp : (pos1 - 1) / 2 < rows1.length := by omega
    obtain ⟨r2, us2, k2, hg2, hmem2, hI2, hW2⟩ := rowsIn_get R1 hpp
    (rename News _ _ _ _ => N4)
    with_unfolding_all refine kim_list N4 (List.Mem.head _) rfl rfl (by rw [e]; exact Int.natCast_nonneg _) (by rw [e]; omega) (by rw [e, Int.toNat_natCast]; exact hg2) ?_
    iterate 6 walk_at "go1"
    (rename News _ _ _ _ => N5)
    refine lt_rows N5 (List.Mem.tail _ (hsub _ hmem)) (List.Mem.tail _ (hsub _ hmem2)) hI hI2 (hW.trans hW2.symm) (show un + 3 < cLine by omega) ?_
    have hstep : sd rows1 (rows.getD pos []) pos1 = if llt (rows.getD pos []) (rows1.getD ((pos1 - 1) / 2) []) = true then sd (rows1.set pos1 (rows1.getD ((pos1 - 1) / 2) [])) (rows.getD pos []) ((pos1 - 1) / 2) else rows1.set pos1 (rows.getD pos []) := by
      rw [sd, dif_neg (by omega)]
    cases hlt : llt (rows.getD pos []) (rows1.getD ((pos1 - 1) / 2) []) with
    | true =>
      rw [hlt, if_pos rfl] at hstep
      iterate 8 walk_at "go1"
      (rename Fr _ _ _ _ => F5)
      (rename News _ _ _ _ => N6)
      refine set_head F5 N6 hoff (Int.natCast_nonneg _) (by rw [R1.1]; omega) (by omega) (fun h2 F6 N7 => ?_)
      iterate 6 walk_at "go1"
      dsimp only [KswPost]
      (rename Fr _ _ _ _ => F7)
      (rename News _ _ _ _ => N8)
      rw [Int.toNat_natCast] at N8
      rw [e] at F7
      refine ksw_end (refs1.set pos1 (.ref r2), rows1.set pos1 (rows1.getD ((pos1 - 1) / 2) []), (pos1 - 1) / 2, _) F7 N8 (fun p hp => hp) trivial (fun p hp => by rw [List.mem_singleton.mp hp]; rfl) (by walk_at "same1") ⟨?_, ?_, ?_, ?_⟩ ?_
      · exact rowsIn_set R1 ⟨_, _, _, rfl, hmem2, hI2⟩ hW2
      · show (pos1 - 1) / 2 < (rows1.set pos1 _).length
        rw [List.length_set]; exact hpp
      · show (rows1.set pos1 _).length = _
        rw [List.length_set]; exact hlen1
      · show sd _ _ _ = _
        rw [← hstep, hsd]
      · show (pos1 - 1) / 2 < pos1
        omega
    | false =>
      rw [hlt, if_neg (by decide)] at hstep
      iterate 6 walk_at "go1"
      dsimp only [KswPost]
      (rename Fr _ _ _ _ => F5)
      (rename News _ _ _ _ => N6)
      iterate 5 walk_at "go1"
      refine set_head F5 N6 hoff (Int.natCast_nonneg _) (by rw [R1.1]; omega) (by omega) (fun h2 F3 N4 => ?_)
      iterate 3 walk_at "go1"
      refine hret _ _ _ (by assumption) (by assumption) ?_
      rw [Int.toNat_natCast, ← hsd, hstep]
      exact rowsIn_set R1 ⟨_, _, _, rfl, hmem, hI⟩ hW
end Mine
end
section
open PySem PySem.W PyProof.Rows
set_option maxRecDepth 100000
set_option maxHeartbeats 4000000
namespace Mine
local macro_rules | `(tactic| walk_at "go1") => `(tactic| (first | (k_unfold; (try dsimp only)) | walk1 | (dsimp only; walk1)))
local macro_rules | `(tactic| walk_at "same1") => `(tactic| (intro z h2 h3
                                                             (simp only [List.forall_mem_cons, List.not_mem_nil, false_implies, implies_true, and_true, ne_eq] at h2)
                                                             (have h3' := h3)
                                                             (simp only [List.contains_cons, List.contains_nil, Bool.or_false, Bool.or_eq_false_iff, beq_eq_false_iff_ne, ne_eq] at h3')
                                                             (simp only [kstB, h2, h3', h3, if_false, Bool.false_eq_true])))
theorem siftup_spec : ∀ {w : World} {mean : ExcName → Option Value} {mg mb : Str → Option Value} {dp un : Nat} {gd : Option (List Code)} {cn : Str} {cs : Scope} {a : Addr} {ccd : Value} {cl : List (Str × Addr)} {outer : List Env} {A₀ : Around} {base h₀ : Heap} {L : Addr} {m : Str → Option Value} {s : Shared} {Q E : Value → Shared → Prop}
    {H : Addr} {refs : List Value} {rows : List (List Int)} {W n : Nat} {fro fr2 : List (Addr × Obj)} {p0 : Tok},
    Below A₀ base outer h₀ → Fr h₀ L s.heap m → (hd.heap_39 w.params).In h₀ → News h₀ L s.heap ((H, listOf refs.toArray n) :: fro) → Top hd.view_39 (looseW hd.view_39 []) mean mg mb h₀ → cs.kind = .function →
    (∀ p ∈ fro, p.1 ≠ H) → (∀ p ∈ fr2, p ∈ fro) → RowsIn W fr2 refs rows → 0 < rows.length → rows.length < 2 ^ 20 → dp + 2 < recursionLimit → un + 16 < cLine →
    (∀ refs' h' tk', Fr h₀ L h' m → News h₀ L h' ((H, listOf refs'.toArray n) :: fro) → RowsIn W fr2 refs' (su rows (rows.getD 0 []) 0) → Q .none { s with heap := h', toks := tk' }) →
    wpAny (model PySem.Challenge.rw_oc0017_01.row.prog w) (ktrTop dp un gd cn cs L a ccd cl outer) (call (.ref 49) [.ref H, .int 0 p0]) Q E s := by
  w_top off
  k_fill
  intro w mean mg mb dp un gd cn cs a ccd cl outer A₀ base h₀ L m s Q E H refs rows W n fro fr2 p0 B F X N T hk hoff hsub R hpos hlen hdp hu hret
  refine wpAny_call ?_
  k_dflt ktr_enter
  obtain ⟨r, us, k, hg, hmem, hI, hW⟩ := rowsIn_get R hpos
  iterate 9 walk_at "go1"
  (rename News _ _ _ _ => N1)
  refine len_row N1 (List.Mem.head _) (by rw [R.1]; omega) (fun t1 tk1 => ?_)
  iterate 11 walk_at "go1"
  (rename News _ _ _ _ => N2)
  with_unfolding_all refine kim_list N2 (List.Mem.head _) rfl rfl (Int.le_refl _) (by decide) (by exact hg) ?_
  iterate 12 walk_at "go1"
  (rename Fr _ _ _ _ => F1)
  (rename News _ _ _ _ => N3)
  refine ksw_while (σ := List Value × List (List Int) × Nat × Tok × Tok) (fun c => (H, listOf c.1.toArray n) :: fro) (fun c => [(Str.ofString "pos", .int c.2.2.1 c.2.2.2.1), (Str.ofString "childpos", .int (2 * c.2.2.1 + 1) c.2.2.2.2)]) (fun _ => True) [Str.ofString "rightpos"]
    (fun c => RowsIn W fr2 c.1 c.2.1 ∧ c.2.2.1 < c.2.1.length ∧ c.2.1.length = rows.length ∧ su c.2.1 (rows.getD 0 []) c.2.2.1 = su rows (rows.getD 0 []) 0) (fun c => rows.length - c.2.2.1) (refs, rows, 0, p0, _) F1 N3 trivial
    (by
      intro p hp
      rcases List.mem_cons.mp hp with rfl | hp
      · rfl
      · rw [List.mem_singleton.mp hp]; rfl) ⟨R, hpos, rfl, rfl⟩ ?_
  rintro ⟨refs1, rows1, pos1, tkA, tkB⟩ u h tk - ⟨R1, hpos1, hlen1, hsu⟩ F2 N4
  dsimp only at R1 hpos1 hlen1 hsu F2 N4 ⊢
  iterate 6 walk_at "go1"
  rotate_left
  · iterate 5 walk_at "go1"
    refine set_head F2 N4 hoff (Int.natCast_nonneg _) (by rw [R1.1]; omega) (by omega) (fun h2 F3 N5 => ?_)
    iterate 13 walk_at "go1"
    rw [Int.toNat_natCast] at N5
    have hset : (rows1.set pos1 (rows.getD 0 [])).getD pos1 [] = rows.getD 0 [] := by simp [List.getD, hpos1]
    refine siftdown_spec (pos := pos1) (rows := rows1.set pos1 (rows.getD 0 [])) (by assumption) F3 (by assumption) N5 (by assumption) rfl hoff hsub (rowsIn_set R1 ⟨_, _, _, rfl, hmem, hI⟩ hW) (by rw [List.length_set]; exact hpos1) (by rw [List.length_set]; omega)
      (show dp + 1 + 1 < recursionLimit by omega) (show un + 3 + 8 < cLine by omega) (fun refs' h3 tk3 F4 N6 R2 => ?_)
    iterate 3 walk_at "go1"
    refine hret _ _ _ (by assumption) (by assumption) ?_
    rw [← hsu, su, dif_neg (by have := R.1; omega)]
    rw [hset] at R2
    exact R2
  · iterate 15 walk_at "go1"
    have hc1 : 2 * pos1 + 1 < rows1.length := by have := R.1; omega
    by_cases hr : 2 * pos1 + 2 < rows1.length
    · rw [if_pos (by simp only [decide_eq_true_eq]; have := R.1; omega)]
      obtain ⟨rA, usA, kA, hgA, hmemA, hIA, hWA⟩ := rowsIn_get R1 hc1
      obtain ⟨rB, usB, kB, hgB, hmemB, hIB, hWB⟩ := rowsIn_get R1 hr
      iterate 6 walk_at "go1"
      (rename News _ _ _ _ => N5)
      with_unfolding_all refine kim_list N5 (List.Mem.head _) rfl rfl (by omega) (by omega) (by rw [show (2 * (pos1 : Int) + 1).toNat = 2 * pos1 + 1 by omega]; exact hgA) ?_
      iterate 3 walk_at "go1"
      with_unfolding_all refine kim_list N5 (List.Mem.head _) rfl rfl (by omega) (by omega) (by rw [show (2 * (pos1 : Int) + 1 + 1).toNat = 2 * pos1 + 2 by omega]; exact hgB) ?_
      refine lt_rows N5 (List.Mem.tail _ (hsub _ hmemA)) (List.Mem.tail _ (hsub _ hmemB)) hIA hIB (hWA.trans hWB.symm) (show un + 3 < cLine by omega) ?_
      cases hlt : llt (rows1.getD (2 * pos1 + 1) []) (rows1.getD (2 * pos1 + 2) []) with
      | true =>
        have hch : 2 * pos1 + 1 < rows1.length := by omega
        obtain ⟨r2, us2, k2, hg2, hmem2, hI2, hW2⟩ := rowsIn_get R1 hch
        iterate 10 walk_at "go1"
        (rename News _ _ _ _ => N7)
        with_unfolding_all refine kim_list N7 (List.Mem.head _) rfl rfl (by omega) (by omega) (by rw [show (2 * (pos1 : Int) + 1).toNat = 2 * pos1 + 1 by omega]; exact hg2) ?_
        iterate 2 walk_at "go1"
        (rename Fr _ _ _ _ => F8)
        (rename News _ _ _ _ => N8)
        refine set_head F8 N8 hoff (Int.natCast_nonneg _) (by rw [R1.1]; omega) (by omega) (fun h9 F9 N9 => ?_)
        iterate 10 walk_at "go1"
        refine mul_int ?_ (.of_left (by decide))
        iterate 4 walk_at "go1"
        dsimp only [KswPost]
        (rename Fr _ _ _ _ => F10)
        (rename News _ _ _ _ => N10)
        rw [Int.toNat_natCast] at N10
        rw [show (2 * (pos1 : Int) + 1 : Int) = ((2 * pos1 + 1 : Nat) : Int) by omega] at F10
        refine ksw_end (refs1.set pos1 (.ref r2), rows1.set pos1 (rows1.getD (2 * pos1 + 1) []), 2 * pos1 + 1, _, _) F10 N10 (fun p hp => hp) trivial (List.forall_mem_cons.mpr ⟨rfl, List.forall_mem_cons.mpr ⟨rfl, fun _ h => nomatch h⟩⟩) (by walk_at "same1") ⟨?_, ?_, ?_, ?_⟩ ?_
        · exact rowsIn_set R1 ⟨_, _, _, rfl, hmem2, hI2⟩ hW2
        · show 2 * pos1 + 1 < (rows1.set pos1 _).length
          rw [List.length_set]; exact hch
        · show (rows1.set pos1 _).length = _
          rw [List.length_set]; exact hlen1
        · show su _ _ _ = _
          rw [← hsu]
          conv => rhs; rw [su]
          rw [dif_pos hc1, if_neg (by rw [hlt]; simp)]
        · show rows.length - (2 * pos1 + 1) < rows.length - pos1
          omega
      | false =>
        have hch : 2 * pos1 + 2 < rows1.length := by omega
        obtain ⟨r2, us2, k2, hg2, hmem2, hI2, hW2⟩ := rowsIn_get R1 hch
        iterate 15 walk_at "go1"
        (rename News _ _ _ _ => N7)
        with_unfolding_all refine kim_list N7 (List.Mem.head _) rfl rfl (by omega) (by omega) (by rw [show (2 * (pos1 : Int) + 1 + 1).toNat = 2 * pos1 + 2 by omega]; exact hg2) ?_
        iterate 2 walk_at "go1"
        (rename Fr _ _ _ _ => F8)
        (rename News _ _ _ _ => N8)
        refine set_head F8 N8 hoff (Int.natCast_nonneg _) (by rw [R1.1]; omega) (by omega) (fun h9 F9 N9 => ?_)
        iterate 10 walk_at "go1"
        refine mul_int ?_ (.of_left (by decide))
        iterate 4 walk_at "go1"
        dsimp only [KswPost]
        (rename Fr _ _ _ _ => F10)
        (rename News _ _ _ _ => N10)
        rw [Int.toNat_natCast] at N10
        rw [show (2 * (pos1 : Int) + 1 + 1 : Int) = ((2 * pos1 + 2 : Nat) : Int) by omega] at F10
        refine ksw_end (refs1.set pos1 (.ref r2), rows1.set pos1 (rows1.getD (2 * pos1 + 2) []), 2 * pos1 + 2, _, _) F10 N10 (fun p hp => hp) trivial (List.forall_mem_cons.mpr ⟨rfl, List.forall_mem_cons.mpr ⟨rfl, fun _ h => nomatch h⟩⟩) (by walk_at "same1") ⟨?_, ?_, ?_, ?_⟩ ?_
        · exact rowsIn_set R1 ⟨_, _, _, rfl, hmem2, hI2⟩ hW2
        · show 2 * pos1 + 2 < (rows1.set pos1 _).length
          rw [List.length_set]; exact hch
        · show (rows1.set pos1 _).length = _
          rw [List.length_set]; exact hlen1
        · show su _ _ _ = _
          rw [← hsu]
          conv => rhs; rw [su]
          rw [dif_pos hc1, if_pos ⟨hr, hlt⟩]
        · show rows.length - (2 * pos1 + 2) < rows.length - pos1
          omega
    · rw [if_neg (by simp only [decide_eq_true_eq]; have := R.1; omega)]
      have hch : 2 * pos1 + 1 < rows1.length := by omega
      obtain ⟨r2, us2, k2, hg2, hmem2, hI2, hW2⟩ := rowsIn_get R1 hch
      iterate 8 walk_at "go1"
      (rename News _ _ _ _ => N7)
      with_unfolding_all refine kim_list N7 (List.Mem.head _) rfl rfl (by omega) (by omega) (by rw [show (2 * (pos1 : Int) + 1).toNat = 2 * pos1 + 1 by omega]; exact hg2) ?_
      iterate 2 walk_at "go1"
      (rename Fr _ _ _ _ => F8)
      (rename News _ _ _ _ => N8)
      refine set_head F8 N8 hoff (Int.natCast_nonneg _) (by rw [R1.1]; omega) (by omega) (fun h9 F9 N9 => ?_)
      iterate 10 walk_at "go1"
      refine mul_int ?_ (.of_left (by decide))
      iterate 4 walk_at "go1"
      dsimp only [KswPost]
      (rename Fr _ _ _ _ => F10)
      (rename News _ _ _ _ => N10)
      rw [Int.toNat_natCast] at N10
      rw [show (2 * (pos1 : Int) + 1 : Int) = ((2 * pos1 + 1 : Nat) : Int) by omega] at F10
      refine ksw_end (refs1.set pos1 (.ref r2), rows1.set pos1 (rows1.getD (2 * pos1 + 1) []), 2 * pos1 + 1, _, _) F10 N10 (fun p hp => hp) trivial (List.forall_mem_cons.mpr ⟨rfl, List.forall_mem_cons.mpr ⟨rfl, fun _ h => nomatch h⟩⟩) (by walk_at "same1") ⟨?_, ?_, ?_, ?_⟩ ?_
      · exact rowsIn_set R1 ⟨_, _, _, rfl, hmem2, hI2⟩ hW2
      · show 2 * pos1 + 1 < (rows1.set pos1 _).length
        rw [List.length_set]; exact hch
      · show (rows1.set pos1 _).length = _
        rw [List.length_set]; exact hlen1
      · show su _ _ _ = _
        rw [← hsu]
        conv => rhs; rw [su]
        rw [dif_pos hc1, if_neg (by intro hh; exact hr hh.1)]
      · show rows.length - (2 * pos1 + 1) < rows.length - pos1
        omega
end Mine
end
section
open PySem PySem.W PyProof.Rows
set_option maxRecDepth 100000
set_option maxHeartbeats 4000000
namespace Mine
local macro_rules | `(tactic| walk_at "go1") => `(tactic| (first | (k_unfold; (try dsimp only)) | walk1 | (dsimp only; walk1)))
theorem rowsIn_push {W : Nat} {fro : List (Addr × Obj)} {vs : List Value} {rs : List (List Int)} (R : RowsIn W fro vs rs) {v : Value} {r : List Int} (h : RowIn fro v r) (hW : r.length = W) : RowsIn W fro (vs ++ [v]) (rs ++ [r]) := by
  refine ⟨by simp [R.1], fun j v' r' h1 h2 => ?_⟩
  rw [List.getElem?_append] at h1 h2
  have := R.1
  by_cases e : j < vs.length
  · rw [if_pos e] at h1
    rw [if_pos (by omega)] at h2
    exact R.2 j v' r' h1 h2
  · rw [if_neg e] at h1
    rw [if_neg (by omega)] at h2
    have e0 : j - vs.length = 0 := by
      rcases Nat.eq_zero_or_pos (j - vs.length) with h | h
      · exact h
      · obtain ⟨k, hk⟩ : ∃ k, j - vs.length = k + 1 := ⟨j - vs.length - 1, by omega⟩
        rw [hk] at h1; simp at h1
    rw [e0] at h1
    rw [show j - rs.length = 0 by omega] at h2
    simp at h1 h2
    subst h1; subst h2
    exact ⟨h, hW⟩
theorem heappush_spec : ∀ {w : World} {mean : ExcName → Option Value} {mg mb : Str → Option Value} {dp un : Nat} {gd : Option (List Code)} {cn : Str} {cs : Scope} {a : Addr} {ccd : Value} {cl : List (Str × Addr)} {outer : List Env} {A₀ : Around} {base h₀ : Heap} {L : Addr} {m : Str → Option Value} {s : Shared} {Q E : Value → Shared → Prop}
    {H r : Addr} {refs : List Value} {rows : List (List Int)} {row : List Int} {W n : Nat} {fro fr2 : List (Addr × Obj)},
    Below A₀ base outer h₀ → Fr h₀ L s.heap m → (hd.heap_39 w.params).In h₀ → News h₀ L s.heap ((H, listOf refs.toArray n) :: fro) → Top hd.view_39 (looseW hd.view_39 []) mean mg mb h₀ → cs.kind = .function →
    (∀ p ∈ fro, p.1 ≠ H) → (∀ p ∈ fr2, p ∈ fro) → RowsIn W fr2 refs rows → RowIn fr2 (.ref r) row → row.length = W → rows.length + 1 < 2 ^ 20 → dp + 2 < recursionLimit → un + 16 < cLine →
    (∀ refs' n' h' tk', Fr h₀ L h' m → News h₀ L h' ((H, listOf refs'.toArray n') :: fro) → RowsIn W fr2 refs' (sd (rows ++ [row]) row rows.length) → Q .none { s with heap := h', toks := tk' }) →
    wpAny (model PySem.Challenge.rw_oc0017_01.row.prog w) (ktrTop dp un gd cn cs L a ccd cl outer) (call (.ref 28) [.ref H, .ref r]) Q E s := by
  w_top off
  k_fill
  intro w mean mg mb dp un gd cn cs a ccd cl outer A₀ base h₀ L m s Q E H r refs rows row W n fro fr2 B F X N T hk hoff hsub R hrow hW hlen hdp hu hret
  refine wpAny_call ?_
  k_dflt ktr_enter
  iterate 10 walk_at "go1"
  (rename Fr _ _ _ _ => F1)
  (rename News _ _ _ _ => N1)
  refine append_K F1 N1 (Upd.head hoff) (fun h2 F2 N2 => ?_) (by rw [List.size_toArray, R.1, sizeLine_eq]; omega)
  rw [show refs.toArray.push (Value.ref r) = (refs ++ [Value.ref r]).toArray by simp] at N2
  iterate 18 walk_at "go1"
  refine len_row N2 (List.Mem.head _) (by rw [List.length_append, R.1]; simp; omega) (fun t1 tk1 => ?_)
  iterate 4 walk_at "go1"
  rw [show ((((refs ++ [Value.ref r]).length : Nat) : Int) - 1) = ((rows.length : Nat) : Int) by rw [List.length_append, R.1]; simp]
  have hget : (rows ++ [row]).getD rows.length [] = row := by simp [List.getD]
  refine siftdown_spec (pos := rows.length) (rows := rows ++ [row]) (by assumption) F2 (by assumption) N2 (by assumption) rfl hoff hsub (rowsIn_push R hrow hW) (by simp) (by simp; omega)
    (show dp + 1 + 1 < recursionLimit by omega) (show un + 3 + 8 < cLine by omega) (fun refs' h3 tk3 F4 N6 R2 => ?_)
  iterate 3 walk_at "go1"
  refine hret _ _ _ _ (by assumption) (by assumption) ?_
  rw [hget] at R2
  exact R2
theorem rowsIn_dropLast {W : Nat} {fro : List (Addr × Obj)} {vs : List Value} {rs : List (List Int)} (R : RowsIn W fro vs rs) : RowsIn W fro vs.dropLast rs.dropLast := by
  have e := R.1
  refine ⟨by simp [e], fun j v' r' h1 h2 => ?_⟩
  rw [List.getElem?_dropLast] at h1 h2
  split at h1
  · split at h2
    · exact R.2 j v' r' h1 h2
    · cases h2
  · cases h1
/-- what heappop leaves, and what it hands back -/
def hpop (rows : List (List Int)) : List (List Int) :=
  if rows.length = 1 then [] else su (rows.dropLast.set 0 (rows.getD (rows.length - 1) [])) (rows.getD (rows.length - 1) []) 0
theorem heappop_spec : ∀ {w : World} {mean : ExcName → Option Value} {mg mb : Str → Option Value} {dp un : Nat} {gd : Option (List Code)} {cn : Str} {cs : Scope} {a : Addr} {ccd : Value} {cl : List (Str × Addr)} {outer : List Env} {A₀ : Around} {base h₀ : Heap} {L : Addr} {m : Str → Option Value} {s : Shared} {Q E : Value → Shared → Prop}
    {H : Addr} {refs : List Value} {rows : List (List Int)} {W n : Nat} {fro fr2 : List (Addr × Obj)},
    Below A₀ base outer h₀ → Fr h₀ L s.heap m → (hd.heap_39 w.params).In h₀ → News h₀ L s.heap ((H, listOf refs.toArray n) :: fro) → Top hd.view_39 (looseW hd.view_39 []) mean mg mb h₀ → cs.kind = .function →
    (∀ p ∈ fro, p.1 ≠ H) → (∀ p ∈ fr2, p ∈ fro) → RowsIn W fr2 refs rows → 0 < rows.length → rows.length < 2 ^ 20 → dp + 3 < recursionLimit → un + 24 < cLine →
    (∀ r refs' n' h' tk', Fr h₀ L h' m → News h₀ L h' ((H, listOf refs'.toArray n') :: fro) → RowsIn W fr2 refs' (hpop rows) → RowIn fr2 (.ref r) (rows.getD 0 []) → Q (.ref r) { s with heap := h', toks := tk' }) →
    wpAny (model PySem.Challenge.rw_oc0017_01.row.prog w) (ktrTop dp un gd cn cs L a ccd cl outer) (call (.ref 35) [.ref H]) Q E s := by
  w_top off
  k_fill
  intro w mean mg mb dp un gd cn cs a ccd cl outer A₀ base h₀ L m s Q E H refs rows W n fro fr2 B F X N T hk hoff hsub R hpos hlen hdp hu hret
  obtain ⟨r, us, k, hg, hmem, hI, hW⟩ := rowsIn_get R (show rows.length - 1 < rows.length by omega)
  obtain ⟨init, rfl⟩ : ∃ init, refs = init ++ [Value.ref r] := by
    have hne : refs ≠ [] := by intro h; have := R.1; rw [h] at this; simp at this; omega
    refine ⟨refs.dropLast, ?_⟩
    have hlast : refs.getLast hne = .ref r := by
      rw [List.getLast_eq_getElem]
      have := R.1
      rw [List.getElem?_eq_getElem (by omega)] at hg
      have h2 := Option.some.inj hg
      simp only [this] at h2 ⊢
      exact h2
    rw [← hlast]
    exact (List.dropLast_concat_getLast hne).symm
  have hinit : init.length + 1 = rows.length := by have := R.1; simpa using this
  have RD : RowsIn W fr2 init rows.dropLast := by have := rowsIn_dropLast R; simpa using this
  refine wpAny_call ?_
  k_dflt ktr_enter
  iterate 7 walk_at "go1"
  (rename Fr _ _ _ _ => F1)
  (rename News _ _ _ _ => N1)
  refine kl_pop (its := (init ++ [Value.ref r]).toArray) F1 N1 (kpa_last (.ref r) init) (Upd.head hoff) (by show (init ++ [Value.ref r]).length ≤ _; rw [sizeLine_eq]; simp; omega) (fun h2 F2 N2 => ?_)
  iterate 7 walk_at "go1"
  cases hin : init.isEmpty with
  | true =>
    have h1 : rows.length = 1 := by rw [List.isEmpty_iff] at hin; rw [hin] at hinit; simpa using hinit.symm
    rw [if_pos rfl]
    iterate 6 walk_at "go1"
    refine hret r init (n + 1) _ _ (by assumption) (by assumption) ?_ ?_
    · unfold hpop
      rw [if_pos h1]
      rw [List.isEmpty_iff] at hin
      rw [hin]
      exact ⟨rfl, fun i v r h => by simp at h⟩
    · rw [show (0 : Nat) = rows.length - 1 by omega]
      exact ⟨_, _, _, rfl, hmem, hI⟩
  | false =>
    have h1 : 2 ≤ rows.length := by rw [List.isEmpty_eq_false_iff] at hin; have := List.length_pos_iff.mpr hin; omega
    rw [if_neg (by decide)]
    have hd0 : 0 < rows.dropLast.length := by simp; omega
    obtain ⟨r0, us0, k0, hg0, hmem0, hI0, hW0⟩ := rowsIn_get RD hd0
    have e0 : rows.dropLast.getD 0 [] = rows.getD 0 [] := by simp only [List.getD, List.getElem?_dropLast]; rw [if_pos (by omega)]
    iterate 5 walk_at "go1"
    (rename News _ _ _ _ => N3)
    with_unfolding_all refine kim_list N3 (List.Mem.head _) rfl rfl (Int.le_refl _) (by decide) (by exact hg0) ?_
    iterate 6 walk_at "go1"
    (rename Fr _ _ _ _ => F4)
    (rename News _ _ _ _ => N4)
    refine set_head F4 N4 hoff (Int.le_refl _) (by omega) (by decide) (fun h5 F5 N5 => ?_)
    iterate 11 walk_at "go1"
    have RS := rowsIn_set (i := 0) RD ⟨_, _, _, rfl, hmem, hI⟩ hW
    have e1 : (rows.dropLast.set 0 (rows.getD (rows.length - 1) [])).getD 0 [] = rows.getD (rows.length - 1) [] := by
      simp only [List.getD, List.getElem?_set]
      rw [if_pos trivial, if_pos hd0]
      rfl
    refine siftup_spec (rows := rows.dropLast.set 0 (rows.getD (rows.length - 1) [])) (by assumption) F5 (by assumption) N5 (by assumption) rfl hoff hsub RS (by rw [List.length_set]; exact hd0) (by rw [List.length_set]; simp; omega)
      (show dp + 1 + 2 < recursionLimit by omega) (show un + 3 + 16 < cLine by omega) (fun refs' h6 tk6 F6 N6 R2 => ?_)
    iterate 4 walk_at "go1"
    refine hret r0 _ _ _ _ (by assumption) (by assumption) ?_ ?_
    · unfold hpop
      rw [if_neg (by omega)]
      rw [e1] at R2
      exact R2
    · rw [← e0]
      exact ⟨_, _, _, rfl, hmem0, hI0⟩
end Mine
end
section
open PySem PySem.W PyProof.Rows
set_option maxRecDepth 100000
set_option maxHeartbeats 4000000
namespace Mine
local macro_rules | `(tactic| walk_at "go1") => `(tactic| (first | (k_unfold; (try dsimp only)) | walk1 | (dsimp only; walk1)))
local macro_rules | `(tactic| walk_at "same2") => `(tactic| (intro z h1 h2 h3
                                                             (simp only [List.forall_mem_cons, List.not_mem_nil, false_implies, implies_true, and_true, ne_eq] at h2)
                                                             (have h3' := h3)
                                                             (simp only [List.contains_cons, List.contains_nil, Bool.or_false, Bool.or_eq_false_iff, beq_eq_false_iff_ne, ne_eq] at h3')
                                                             (first | (simp only [kstB, h1, h2, h3', h3, if_false, Bool.false_eq_true]; done) | (simp [kstB, h1, h2, h3', h3]; done))))
def tstep (place : Int) (c : Int × Int) (z : Int × Int) : Int × Int :=
  (c.1 + (if z.2 = 1 then z.1 - 1 - ((place.fdiv c.2).fmod z.1) else (place.fdiv c.2).fmod z.1) * c.2, c.2 * z.1)
def thereOf (sizes turns : List Int) (place : Int) : Int := ((sizes.zip turns).foldl (tstep place) (0, 1)).1
def turned (text sizes turns : List Int) : List Int := (List.range text.length).map fun p => text.getD (thereOf sizes turns (p : Nat)).toNat 0
theorem rs_up (n : Nat) : Builtin.Range.rangeSize 0 (n : Int) 1 = (n : Int) := by
  unfold Builtin.Range.rangeSize
  rw [if_pos (by decide)]
  split <;> omega
theorem sm_up {n : Nat} (h : n < 2 ^ 60) : Builtin.Range.small 0 (n : Int) 1 = true := by
  have e := rs_up n
  have fl : ∀ k : Int, 0 ≤ k → k < 2 ^ 61 → Builtin.Range.rangeFitsLong k = true := by
    intro k h1 h2
    unfold Builtin.Range.rangeFitsLong
    simp only [Bool.and_eq_true, decide_eq_true_eq]
    omega
  unfold Builtin.Range.small
  rw [e, fl 0 (by omega) (by omega), fl n (by omega) (by omega), fl 1 (by omega) (by omega), if_pos (by decide), fl _ (by omega) (by omega)]
  simp
theorem zip_take_succ {sizes turns : List Int} {i : Nat} {z t : Int} (h1 : sizes[i]? = some z) (h2 : turns[i]? = some t) : (sizes.zip turns).take (i + 1) = (sizes.zip turns).take i ++ [(z, t)] := by
  rw [List.take_add_one, (List.getElem?_zip_eq_some (z := (z, t))).mpr ⟨h1, h2⟩]; rfl
theorem mem_at {us : List Value} {ns : List Int} {i : Nat} (hI : IntsAre us ns) (hi : i < ns.length) : ∃ t, us[i]? = some (.int (ns.getD i 0) t) := by
  have : i < us.length := by rw [hI.length]; exact hi
  exact (hI.int_at i us[i] (List.getElem?_eq_getElem this)).imp fun t e => by rw [List.getElem?_eq_getElem this, e]
theorem turned_spec : ∀ {w : World} {mean : ExcName → Option Value} {mg mb : Str → Option Value} {dp un : Nat} {gd : Option (List Code)} {cn : Str} {cs : Scope} {a : Addr} {ccd : Value} {cl : List (Str × Addr)} {outer : List Env} {A₀ : Around} {base h₀ : Heap} {L : Addr} {m : Str → Option Value} {s : Shared} {Q E : Value → Shared → Prop}
    {fro : List (Addr × Obj)} {tA sA uA : Addr} {tv sv uv : List Value} {text sizes turns : List Int} {n1 n2 n3 : Nat},
    Below A₀ base outer h₀ → Fr h₀ L s.heap m → (hd.heap_39 w.params).In h₀ → News h₀ L s.heap fro → Top hd.view_39 (looseW hd.view_39 []) mean mg mb h₀ → cs.kind = .function →
    (tA, listOf tv.toArray n1) ∈ fro → (sA, listOf sv.toArray n2) ∈ fro → (uA, listOf uv.toArray n3) ∈ fro → IntsAre tv text → IntsAre sv sizes → IntsAre uv turns →
    sizes.length ≤ turns.length → sizes.length ≤ 3 → text.length < 2 ^ 20 → (∀ z ∈ sizes, 1 ≤ z ∧ z ≤ 3) → (∀ p : Nat, p < text.length → 0 ≤ thereOf sizes turns p ∧ thereOf sizes turns p < text.length) →
    dp + 1 < recursionLimit → un + 8 < cLine →
    (∀ O ov n h' tk', Fr h₀ L h' m → News h₀ L h' ((O, listOf (List.toArray ov) n) :: fro) → (∀ p ∈ fro, p.1 < O) → IntsAre ov (turned text sizes turns) → Q (.ref O) { s with heap := h', toks := tk' }) →
    wpAny (model PySem.Challenge.rw_oc0017_01.row.prog w) (ktrTop dp un gd cn cs L a ccd cl outer) (call (.ref 56) [.ref tA, .ref sA, .ref uA]) Q E s := by
  w_top off
  k_fill
  intro w mean mg mb dp un gd cn cs a ccd cl outer A₀ base h₀ L m s Q E fro tA sA uA tv sv uv text sizes turns n1 n2 n3 B F X N T hk ht hs hu IT IS IU hlen hsl htl hsz hth hdp hun hret
  refine wpAny_call ?_
  k_dflt ktr_enter
  iterate 5 walk_at "go1"
  (rename Fr _ _ _ _ => F1)
  (rename News _ _ _ _ => N1)
  refine newList_K F1 N1 ?_
  intro O h2 F2 N2 hO
  iterate 14 walk_at "go1"
  (rename News _ _ _ _ => N3)
  refine len_row N3 (List.Mem.tail _ ht) (by rw [IT.length]; omega) (fun t1 tk1 => ?_)
  iterate 2 walk_at "go1"
  (rename IsRange _ _ _ _ _ _ _ _ => hR)
  (rename Fr _ _ _ _ => F3)
  (rename News _ _ _ _ => N4)
  refine kst_range (σ := List Value × Nat) (n := tv.length) (fun c => (O, listOf c.1.toArray c.2) :: fro) (fun _ => []) (fun _ => True) [Str.ofString "there", Str.ofString "unit", Str.ofString "k", Str.ofString "figure"]
    (fun pre c => IntsAre c.1 ((List.range pre.length).map fun p => text.getD (thereOf sizes turns (p : Nat)).toNat 0)) ([], 0) rfl hR (sm_up (by rw [IT.length]; omega)) (rs_up _) F3 N4 trivial (fun _ h => nomatch h) .nil ?_ ?_
  · rintro ⟨ov, en⟩ pre kk tt u h tk own hkk hpl hown - hI F4 N5
    rw [Int.zero_add] at hkk
    subst hkk
    dsimp only at hI F4 N5 ⊢
    rw [List.cons_append] at N5
    iterate 9 walk_at "go1"
    (rename Fr _ _ _ _ => F5)
    refine For_invVF F5 rfl rfl ?_
    iterate 10 walk_at "go1"
    (rename News _ _ _ _ => N6)
    refine len_row N6 (List.Mem.tail _ (List.mem_append_left _ hs)) (by rw [IS.length]; omega) (fun t2 tk2 => ?_)
    iterate 2 walk_at "go1"
    (rename IsRange _ _ _ _ _ _ _ _ => hR2)
    (rename Fr _ _ _ _ => F6)
    (rename News _ _ _ _ => N7)
    refine kst_range (σ := Int × Int × Tok × Tok) (n := sv.length) (fun _ => (O, listOf ov.toArray en) :: (fro ++ own)) (fun c => [(Str.ofString "there", .int c.1 c.2.2.1), (Str.ofString "unit", .int c.2.1 c.2.2.2)]) (fun _ => True) [Str.ofString "figure"]
      (fun q c => (c.1, c.2.1) = ((sizes.zip turns).take q.length).foldl (tstep (pre.length : Int)) (0, 1) ∧ 1 ≤ c.2.1 ∧ c.2.1 ≤ 3 ^ q.length) (0, 1, _, _) rfl hR2 (sm_up (by rw [IS.length]; omega)) (rs_up _) F6 N7 trivial (List.forall_mem_cons.mpr ⟨rfl, List.forall_mem_cons.mpr ⟨rfl, fun _ h => nomatch h⟩⟩) ⟨rfl, Int.le_refl _, Int.le_refl _⟩ ?_ ?_
    · rintro ⟨th, unit, tkA, tkB⟩ q kk t3 u3 h3 tk3 own3 hkk hql hown3 - ⟨hfold, hunit, hpow⟩ F7 N8
      rw [Int.zero_add] at hkk
      subst hkk
      dsimp only at hfold hunit hpow F7 N8 ⊢
      rw [List.cons_append] at N8
      have hqs : q.length < sizes.length := by rw [← IS.length]; exact hql
      obtain ⟨tz, hz⟩ := mem_at IS hqs
      obtain ⟨tu, hu2⟩ := mem_at IU (show q.length < turns.length by omega)
      have hzb := hsz (sizes.getD q.length 0) (by simp [List.getD, hqs])
      have hu27 : unit ≤ 27 := by
        have : q.length = 0 ∨ q.length = 1 ∨ q.length = 2 := by omega
        rcases this with h | h | h <;> rw [h] at hpow <;> simp at hpow <;> omega
      iterate 6 walk_at "go1"
      refine floordiv_int (by omega) ?_ (Or.inl (PyProof.noPylong_small (by omega)))
      iterate 3 walk_at "go1"
      (rename News _ _ _ _ => N21)
      with_unfolding_all refine kim_list N21 (List.Mem.tail _ (List.mem_append_left _ (List.mem_append_left _ hs))) rfl rfl (Int.natCast_nonneg _) (by omega) (by rw [Int.toNat_natCast]; exact hz) ?_
      refine mod_int' (by omega) ?_
      have hzs : sizes[q.length]? = some (sizes.getD q.length 0) := by simp [List.getD, hqs]
      have hqt : q.length < turns.length := by omega
      have hts : turns[q.length]? = some (turns.getD q.length 0) := by simp [List.getD, hqt]
      have hf0 : 0 ≤ (((pre.length : Int).fdiv unit).fmod (sizes.getD q.length 0)) := Int.fmod_nonneg_of_pos _ (by omega)
      have hf1 : (((pre.length : Int).fdiv unit).fmod (sizes.getD q.length 0)) < sizes.getD q.length 0 := Int.fmod_lt_of_pos _ (by omega)
      iterate 7 walk_at "go1"
      (rename News _ _ _ _ => N22)
      with_unfolding_all refine kim_list N22 (List.Mem.tail _ (List.mem_append_left _ (List.mem_append_left _ hu))) rfl rfl (Int.natCast_nonneg _) (by omega) (by rw [Int.toNat_natCast]; exact hu2) ?_
      iterate 3 walk_at "go1"
      by_cases ht1 : turns.getD q.length 0 = 1
      · rw [if_pos (by simp only [beq_iff_eq]; exact ht1)]
        iterate 8 walk_at "go1"
        (rename News _ _ _ _ => N23)
        with_unfolding_all refine kim_list N23 (List.Mem.tail _ (List.mem_append_left _ (List.mem_append_left _ hs))) rfl rfl (Int.natCast_nonneg _) (by omega) (by rw [Int.toNat_natCast]; exact hz) ?_
        iterate 5 walk_at "go1"
        iterate 8 walk_at "go1"
        refine mul_int ?_ (.of_left (intBits_le_64 (by omega) (by omega)))
        iterate 6 walk_at "go1"
        iterate 3 walk_at "go1"
        (rename News _ _ _ _ => N24)
        with_unfolding_all refine kim_list N24 (List.Mem.tail _ (List.mem_append_left _ (List.mem_append_left _ hs))) rfl rfl (Int.natCast_nonneg _) (by omega) (by rw [Int.toNat_natCast]; exact hz) ?_
        refine mul_int ?_ (.of_right (intBits_le_64 (by omega) (by omega)))
        iterate 3 walk_at "go1"
        (rename Fr _ _ _ _ => F30)
        (rename News _ _ _ _ => N30)
        refine kst_end (th + (sizes.getD q.length 0 - 1 - (((pre.length : Int).fdiv unit).fmod (sizes.getD q.length 0))) * unit, unit * sizes.getD q.length 0, _, _) F30 N30 (fun p hp => List.mem_append_left _ hp) (fun p hp => List.Mem.tail _ (List.mem_append_right _ hp)) rfl trivial (List.forall_mem_cons.mpr ⟨rfl, List.forall_mem_cons.mpr ⟨rfl, fun _ h => nomatch h⟩⟩) (by walk_at "same2") ⟨?_, ?_, ?_⟩
        · show (_, _) = _
          rw [List.length_append, List.length_singleton, zip_take_succ hzs hts, List.foldl_append, ← hfold]
          show _ = tstep _ (th, unit) (_, _)
          unfold tstep
          rw [if_pos ht1]
        · show 1 ≤ unit * sizes.getD q.length 0
          have := Int.mul_le_mul hunit hzb.1 (by omega) (by omega)
          omega
        · show unit * sizes.getD q.length 0 ≤ 3 ^ (q ++ [_]).length
          rw [List.length_append, List.length_singleton, Int.pow_succ]
          exact Int.mul_le_mul hpow hzb.2 (by omega) (by omega)
      · rw [if_neg (by simp only [beq_iff_eq]; exact ht1)]
        iterate 9 walk_at "go1"
        refine mul_int ?_ (.of_left (intBits_le_64 (by omega) (by omega)))
        iterate 6 walk_at "go1"
        iterate 3 walk_at "go1"
        (rename News _ _ _ _ => N25)
        with_unfolding_all refine kim_list N25 (List.Mem.tail _ (List.mem_append_left _ (List.mem_append_left _ hs))) rfl rfl (Int.natCast_nonneg _) (by omega) (by rw [Int.toNat_natCast]; exact hz) ?_
        refine mul_int ?_ (.of_right (intBits_le_64 (by omega) (by omega)))
        iterate 3 walk_at "go1"
        (rename Fr _ _ _ _ => F30)
        (rename News _ _ _ _ => N30)
        refine kst_end (th + ((((pre.length : Int).fdiv unit).fmod (sizes.getD q.length 0))) * unit, unit * sizes.getD q.length 0, _, _) F30 N30 (fun p hp => List.mem_append_left _ hp) (fun p hp => List.Mem.tail _ (List.mem_append_right _ hp)) rfl trivial (List.forall_mem_cons.mpr ⟨rfl, List.forall_mem_cons.mpr ⟨rfl, fun _ h => nomatch h⟩⟩) (by walk_at "same2") ⟨?_, ?_, ?_⟩
        · show (_, _) = _
          rw [List.length_append, List.length_singleton, zip_take_succ hzs hts, List.foldl_append, ← hfold]
          show _ = tstep _ (th, unit) (_, _)
          unfold tstep
          rw [if_neg ht1]
        · show 1 ≤ unit * sizes.getD q.length 0
          have := Int.mul_le_mul hunit hzb.1 (by omega) (by omega)
          omega
        · show unit * sizes.getD q.length 0 ≤ 3 ^ (q ++ [_]).length
          rw [List.length_append, List.length_singleton, Int.pow_succ]
          exact Int.mul_le_mul hpow hzb.2 (by omega) (by omega)
    · rintro ⟨th, unit, tkA, tkB⟩ u3 h3 tk3 - ⟨hfold, -, -⟩ F7 N8
      dsimp only at hfold F7 N8 ⊢
      have hth0 : th = thereOf sizes turns (pre.length : Nat) := by
        have e := congrArg Prod.fst hfold
        rw [rangeKs_length, List.take_of_length_le (by rw [List.length_zip, IS.length]; omega)] at e
        exact e
      have hpt : pre.length < text.length := by rw [← IT.length]; exact hpl
      obtain ⟨hb0, hb1⟩ := hth pre.length hpt
      rw [← hth0] at hb0 hb1
      obtain ⟨tx, hx⟩ := mem_at IT (show th.toNat < text.length by omega)
      have hoO : ∀ p ∈ fro ++ own, p.1 ≠ O := by
        intro p hp
        rcases List.mem_append.mp hp with hp | hp
        · exact Nat.ne_of_lt (hO p hp)
        · exact hown p hp O (List.Mem.head _)
      iterate 10 walk_at "go1"
      (rename News _ _ _ _ => N31)
      with_unfolding_all refine kim_list N31 (List.Mem.tail _ (List.mem_append_left _ ht)) rfl rfl hb0 (by omega) hx ?_
      iterate 1 walk_at "go1"
      (rename Fr _ _ _ _ => F32)
      (rename News _ _ _ _ => N32)
      refine append_K F32 N32 (Upd.head hoO) (fun h33 F33 N33 => ?_) (by rw [List.size_toArray, hI.length, sizeLine_eq]; simp; omega)
      rw [show ov.toArray.push (Value.int (text.getD th.toNat 0) tx) = (ov ++ [Value.int (text.getD th.toNat 0) tx]).toArray by simp] at N33
      iterate 3 walk_at "go1"
      refine kst_end (ov ++ [Value.int (text.getD th.toNat 0) tx], en + 1) F33 N33 (fun p hp => List.mem_append_left _ hp) (fun p hp => List.Mem.tail _ (List.mem_append_right _ hp)) rfl trivial (fun _ h => nomatch h) (by walk_at "same2") ?_
      show IntsAre _ _
      rw [List.length_append, List.length_singleton, List.range_succ, List.map_append]
      refine hI.append ?_
      rw [hth0]
      exact .cons _ _ .nil
  · rintro ⟨ov, en⟩ u h tk - hI F4 N5
    dsimp only at hI F4 N5 ⊢
    iterate 4 walk_at "go1"
    refine hret O ov en _ _ (by assumption) (by assumption) hO ?_
    rw [rangeKs_length, IT.length] at hI
    exact hI
end Mine
end
section
open PySem PySem.W PyProof.Rows
set_option maxRecDepth 100000
set_option maxHeartbeats 1000000
namespace Mine
section
variable {prog : Program} {w : World} {A : Around} {E : Value → Shared → Prop} {s : Shared} {env : Env} {h₀ : Heap} {x : Str} {body : List Stmt} {Q : Flow → Shared → Prop}
def RngS {σ : Type} (Led : σ → List (Addr × Obj)) (ps : σ → List (Str × Value)) (x : Str) (stored : List Str) (m₀ : Str → Option Value) (P : σ → Prop) (m : Str → Option Value) (nx : List (Addr × Obj)) : Prop :=
  ∃ c : σ, nx = Led c ∧ (∀ p ∈ ps c, m p.1 = some p.2) ∧ (∀ z, z ≠ x → (∀ p ∈ ps c, z ≠ p.1) → stored.contains z = false → m z = m₀ z) ∧ P c
theorem rng {σ : Type} {r : Addr} {a₀ b₀ cc : Int} {t₀ u₀ v₀ : Tok} {n : Nat} {m₀ : Str → Option Value} (Led : σ → List (Addr × Obj)) (ps : σ → List (Str × Value)) (stored : List Str) (P : Nat → σ → Prop) (c₀ : σ)
    (hh : A.handled = none) (hr : IsRange s.heap r a₀ b₀ cc t₀ u₀ v₀) (hsmall : Builtin.Range.small a₀ b₀ cc = true) (hn : Builtin.Range.rangeSize a₀ b₀ cc = (n : Int)) (F : Fr h₀ env.locals s.heap m₀) (N : News h₀ env.locals s.heap (Led c₀)) (hk : ∀ p ∈ ps c₀, m₀ p.1 = some p.2) (hp : P 0 c₀)
    (turn : ∀ (c : σ) (i : Nat) t (u : Str → Option Value) h tk own, i < n → OwnOff own ((Led c₀).map (·.1)) → P i c →
      Fr h₀ env.locals h (fun y => if y = x then some (.int (a₀ + (i : Int) * cc) t) else kstB (fun z => if stored.contains z then u z else m₀ z) (ps c) y) → News h₀ env.locals h (Led c ++ own) →
      wpAny (model prog w) A (execs body env) (InvPostN h₀ env.locals (RngS Led ps x stored m₀ (P (i + 1))) own ((Led c₀).map (·.1)) { s with heap := h, toks := tk } Q) E { s with heap := h, toks := tk })
    (done : ∀ (c : σ) (u : Str → Option Value) h tk, P n c → Fr h₀ env.locals h (fun y => if y = x then u y else kstB (fun z => if stored.contains z then u z else m₀ z) (ps c) y) → News h₀ env.locals h (Led c) → Q .next { s with heap := h, toks := tk }) :
    wpAny (model prog w) A (pyIter (.ref r)) (fun it s₂ => LoopAtV prog w A h₀ env x body Q E it s₂) E s := by
  refine wpAny_pyIter_range hr hsmall ?_
  have W : Walks prog w A s.heap.objs.size [s.heap.objs.size] [s.heap.objs.size] n (fun i v => i < n ∧ ∃ t, v = .int (a₀ + i * cc) t)
      (fun i h => IsRangeIter h s.heap.objs.size (a₀ + (i : Nat) * cc) ((n : Int) - (i : Nat)) cc) := (Walks.range hh _ a₀ cc n).bound
  refine loop_invN (fun i m nx => RngS Led ps x stored m₀ (P i) m nx) W ?_ ?_ ?_ ?_ (by show IsRangeIter _ _ _ _ _; rw [hn]; simpa using Heap.get?_push_size _ rfl) (F.push _) (fun p hp => ⟨Heap.get?_push_of_some _ (N p hp).1, (N p hp).2⟩) ⟨c₀, rfl, hk, fun _ _ _ _ => rfl, hp⟩ ?_ ?_
  · intro hm
    exact absurd F.ns.lt ((List.mem_singleton.mp hm) ▸ Nat.lt_irrefl _)
  · intro b hb
    rw [List.mem_singleton.mp hb]
    exact next_is_new F
  · intro p hp hI
    exact absurd (Heap.lt_size (N p hp).1) ((List.mem_singleton.mp hI) ▸ Nat.lt_irrefl _)
  · intro p hp hI
    exact absurd (Heap.lt_size (N p hp).1) ((List.mem_singleton.mp hI) ▸ Nat.lt_irrefl _)
  · rintro i v m₁ nx h tk own hi ⟨_, t, rfl⟩ _ hoff ⟨c, rfl, h1, h2, hp'⟩ F₁ N₁
    exact turn c i t m₁ h tk own hi hoff hp' (kst_fr h1 h2 F₁) N₁
  · rintro m₁ nx h tk ⟨c, rfl, h1, h2, hp'⟩ F₁ N₁
    exact done c m₁ h tk hp' (kst_frOut h1 h2 F₁) N₁
theorem rng_end {σ : Type} {Led : σ → List (Addr × Obj)} {ps : σ → List (Str × Value)} {stored : List Str} {m₀ : Str → Option Value} {P : σ → Prop} (c : σ) {L : Addr} {m' : Str → Option Value} {own news' : List (Addr × Obj)} {adr : List Addr} {s₁ : Shared} {h' : Heap} {tk : Nat}
    (F : Fr h₀ L h' m') (N : News h₀ L h' news') (hn : ∀ p ∈ Led c, p ∈ news') (ho : ∀ p ∈ own, p ∈ news') (ha : (Led c).map (·.1) = adr) (hk : ∀ p ∈ ps c, m' p.1 = some p.2) (hr : ∀ z, z ≠ x → (∀ p ∈ ps c, z ≠ p.1) → stored.contains z = false → m' z = m₀ z) (hp : P c) :
    InvEndN h₀ L (RngS Led ps x stored m₀ P) own adr s₁ { s₁ with heap := h', toks := tk } :=
  InvEndN.intro F N ⟨c, rfl, hk, hr, hp⟩ ha hn ho
end
section
variable {prog : Program} {w : World} {A A₀ : Around} {s : Shared} {K : Frag} {L : Addr} {h₀ base : Heap} {m mg mb : Str → Option Value} {news : List (Addr × Obj)} {p : Program} {loose : List Str} {mean : ExcName → Option Value}
theorem news_new {g h h' : Heap} {L : Addr} {m : Str → Option Value} {news : List (Addr × Obj)} {o : Obj} (F : Fr g L h m) (N : News g L h news) (hk : ∀ b o, h.get? b = some o → h'.get? b = some o) (hg : h'.get? h.objs.size = some o) :
    Fr g L h' m ∧ News g L h' ((h.objs.size, o) :: news) ∧ ∀ p ∈ news, p.1 < h.objs.size := by
  refine ⟨F.kept hk, fun p hp => ?_, fun p hp => Heap.lt_size (N p hp).1⟩
  rcases List.mem_cons.mp hp with rfl | hp
  · refine ⟨hg, Nat.ne_of_gt F.ns.lt, ?_⟩
    cases hq : g.get? h.objs.size with
    | none => rfl
    | some o' => exact absurd (Heap.lt_size (F.keep _ _ hq)) (Nat.lt_irrefl _)
  · exact ⟨hk _ _ (N p hp).1, (N p hp).2⟩
/-- a def of the text entered, in the clean logic -/
theorem code_defW {env : Env} {outer : List Env} {R : Flow → Shared → Prop} {name qual : Str} {params : Arguments} {body : List Stmt} {scope : Scope} {dV kV doc pm cdv ct oc : Value} {an od : Option Addr} {osl : Array (Option Value)} {f : Addr} {args : Args} {binds : List (Str × Value)}
    (B : Below A₀ base outer h₀) (F : Fr h₀ L s.heap m) (X₀ : K.In h₀) (N : News h₀ L s.heap news) (T : Top p loose mean mg mb h₀) (hA : A.frames = some (env :: outer)) (hf : env.frame = some L) (hke : env.scope.kind = .function)
    (ho : K.lookup f = some ⟨oc, od, .func (fnOf name qual params body scope dV kV doc pm an cdv ct), osl⟩) (hcd : codeIn K cdv qual = true) (hroom : A.depth < recursionLimit)
    (hbind : BindsTo s (fnOf name qual params body scope dV kV doc pm an cdv ct) args binds) (hloc : ∀ y ∈ binds, scope.names.lookup y.1 = some .local)
    (h : ∀ g L' h₁, Fr h₀ L g m → Fr g L' h₁ (fun y => binds.reverse.lookup y) → News g L' h₁ news → Below A base (env :: outer) g → K.In g → Top p loose mean mg mb g →
      wpC (model prog w) (A.deeper (envOf qual scope L' f cdv)) (execs body (envOf qual scope L' f cdv))
        (fun fl s' => LeaveK h₀ L m g (okR R) (match fl with | .ret v => v | _ => .none) s') { s with heap := h₁, toks := s.toks + binds.length })
    (hco : scope.isCoroutine = false) (hgen : scope.isGenerator = false) (hk : scope.kind = .function)
    (hcell : ∀ x ∈ scope.names, x.2 ≠ .cell) : codeC (model prog w) A (.call (.ref f) args) R s := by
  obtain ⟨FG, BG, st, lv⟩ := groundX (R := okR R) B F N hA hf hke
  have hlim := T.nolimit
  refine codeC_call_function (fd := fnOf name qual params body scope dV kV doc pm an cdv ct) (body := body) hroom ((X₀.keeps F.keep) _ _ ho) rfl hco hgen rfl (codeRec_of (X₀.keeps F.keep) hcd) (hbind _ _ _ _ ?_)
  refine wpAny_newFunctionEnv hcell hloc (fun h₁ hns hsb => ⟨(hlim.keeps F.keep).fresh _ hsb, codeC_func ?_⟩) hk
  have hk₁ : ∀ b o, s.heap.get? b = some o → h₁.get? b = some o := fun b o e => hsb.extBut b o (Nat.ne_of_lt (Heap.lt_size e)) (Heap.get?_push_of_some _ e)
  refine wpC_mono (h _ s.heap.objs.size h₁ FG ⟨hns, fun b o e => hk₁ b o (of_hideAll _ e), Nat.le_of_eq (hideAll_size _ _)⟩
    (fun p hp => ⟨hk₁ _ _ (N p hp).1, Nat.ne_of_lt (Heap.lt_size (N p hp).1), hideAll_none _ (List.mem_map_of_mem hp)⟩) BG (X₀.keeps st) (T.keeps st)) (fun fl s' hl => lv _ _ hl)
end
end Mine
end
section
open PySem PySem.W PyProof.Rows
set_option maxRecDepth 100000
set_option maxHeartbeats 4000000
namespace Mine
local macro_rules | `(tactic| walk_at "go1") => `(tactic| (first | (k_unfold; (try dsimp only)) | walk1 | (dsimp only; walk1)))
local macro_rules | `(tactic| walk_at "same2") => `(tactic| (intro z h1 h2 h3
                                                             (simp only [List.forall_mem_cons, List.not_mem_nil, false_implies, implies_true, and_true, ne_eq] at h2)
                                                             (have h3' := h3)
                                                             (simp only [List.contains_cons, List.contains_nil, Bool.or_false, Bool.or_eq_false_iff, beq_eq_false_iff_ne, ne_eq] at h3')
                                                             (first | (simp only [kstB, h1, h2, h3', h3, if_false, Bool.false_eq_true]; done) | (simp [kstB, h1, h2, h3', h3]; done))))
def swapB (b : Array UInt8) (w : Nat) : Array UInt8 := ((List.range b.size).map fun p => b.getD (p / w * w + (w - 1 - p % w)) 0).toArray
abbrev ba (c : Array UInt8) : Obj := { cls := .type "bytearray", data := .bytearray c }
def swAt (b : Array UInt8) (w p : Nat) : UInt8 := b.getD (p / w * w + (w - 1 - p % w)) 0
section
variable {prog : Program} {w : World} {A : Around} {s : Shared} {E : Value → Shared → Prop} {h₀ : Heap} {L D : Addr} {m : Str → Option Value} {news news' : List (Addr × Obj)}
theorem set_ba_K {b : Array UInt8} {k v : Int} {t u : Tok} {Q : Unit → Shared → Prop} (F : Fr h₀ L s.heap m) (N : News h₀ L s.heap news) (h0 : 0 ≤ k) (hk : k < b.size) (hz : b.size ≤ 2 ^ 24) (hv0 : 0 ≤ v) (hv1 : v < 256)
    (U : Upd D (ba b) (ba (b.setIfInBounds k.toNat v.toNat.toUInt8)) news news')
    (h : ∀ h', Fr h₀ L h' m → News h₀ L h' news' → Q () { s with heap := h' }) : wpAny (model prog w) A (setItem (.ref D) (.int k t) (.int v u)) Q E s := by
  obtain ⟨pre, post, rfl, rfl, a, b'⟩ := U.split
  have z := N (D, ba b) (List.mem_append.mpr (.inr (.head _)))
  exact set_bytearray z.1 h0 hk hz hv0 hv1 fun h' hs ho' => h h' (F.change hs z.2.1 z.2.2) (news_set N a b' hs ho')
end
theorem rs_step {n wd : Nat} (h : 0 < wd) : Builtin.Range.rangeSize 0 ((n * wd : Nat) : Int) (wd : Int) = (n : Int) := by
  unfold Builtin.Range.rangeSize
  rw [if_pos (by omega)]
  rcases Nat.eq_zero_or_pos n with rfl | hn
  · simp
  · have hp : 0 < n * wd := Nat.mul_pos hn h
    rw [if_pos (by omega)]
    obtain ⟨k, rfl⟩ : ∃ k, n = k + 1 := ⟨n - 1, by omega⟩
    have e : (((k + 1) * wd : Nat) : Int) - 0 - 1 = ((wd : Int) - 1) + (k : Int) * (wd : Int) := by
      rw [Nat.succ_mul]; push_cast; omega
    rw [e, Int.add_mul_ediv_right _ _ (by omega), Int.ediv_eq_zero_of_lt (by omega) (by omega)]
    push_cast
    omega
theorem sm_step {n wd : Nat} (h : 0 < wd) (h1 : n * wd < 2 ^ 60) (h2 : n < 2 ^ 60) (h3 : wd < 2 ^ 60) : Builtin.Range.small 0 ((n * wd : Nat) : Int) (wd : Int) = true := by
  have e := rs_step (n := n) h
  have fl : ∀ k : Int, 0 ≤ k → k < 2 ^ 61 → Builtin.Range.rangeFitsLong k = true := by
    intro k h1 h2
    unfold Builtin.Range.rangeFitsLong
    simp only [Bool.and_eq_true, decide_eq_true_eq]
    omega
  unfold Builtin.Range.small
  have h4 : (0 : Int) ≤ ((n * wd : Nat) : Int) := by omega
  have h5 : ((n * wd : Nat) : Int) < 2 ^ 60 := by omega
  generalize ((n * wd : Nat) : Int) = z at e h4 h5 ⊢
  rw [e, if_pos (by omega), fl 0 (by omega) (by omega), fl z (by omega) (by omega), fl wd (by omega) (by omega), fl n (by omega) (by omega), fl _ (by omega) (by omega)]
  simp
theorem byteswap_spec : ∀ {w : World} {mean : ExcName → Option Value} {mg mb : Str → Option Value} {dp un : Nat} {gd : Option (List Code)} {cn : Str} {cs : Scope} {a : Addr} {ccd : Value} {cl : List (Str × Addr)} {outer : List Env} {A₀ : Around} {base h₀ : Heap} {L : Addr} {m : Str → Option Value} {s : Shared} {Q : Value → Shared → Prop}
    {fro : List (Addr × Obj)} {b : Array UInt8} {tb tw : Tok} {wd n : Nat},
    Below A₀ base outer h₀ → Fr h₀ L s.heap m → (hd.heap_39 w.params).In h₀ → News h₀ L s.heap fro → Top hd.view_39 (looseW hd.view_39 []) mean mg mb h₀ → cs.kind = .function →
    0 < wd → b.size = n * wd → 0 < b.size → b.size < 2 ^ 20 → dp + 1 < recursionLimit → un + 8 < cLine →
    (∀ t h' tk', Fr h₀ L h' m → News h₀ L h' fro → Q (.bytes (swapB b wd) t) { s with heap := h', toks := tk' }) →
    wpC (model PySem.Challenge.rw_oc0017_01.row.prog w) (ktrTop dp un gd cn cs L a ccd cl outer) (call (.ref 21) [.bytes b tb, .int wd tw]) Q s := by
  w_top off
  k_fill
  intro w mean mg mb dp un gd cn cs a ccd cl outer A₀ base h₀ L m s Q fro b tb tw wd n B F X N T hk hw hbs hb0 hb1 hdp hu hret
  refine wpC_call ?_
  k_dflt (refine' code_defW ?k1 ?k2 ?k3 ?k4 ?k5 ?kA ?kF ?kK ?k6 ?k7 ?k8 ?k9 ?kB ?_ ?c2 ?c3 ?c4 ?c5; (case kA => exact rfl); (case kF => exact rfl); (case kK => assumption); (case k1 => k_asm); (case k2 => k_asm); (case k3 => k_asm); (case k4 => k_asm); (case k5 => k_asm); (case k6 => k_is); (case k7 => k_is); (case k8 => ktr_room); (case k9 => exact BindsTo.of_eq rfl); (case c5 => decide); (case kB => exact locs rfl); (case c2 => exact rfl); (case c3 => exact rfl); (case c4 => exact rfl))
  intro g L' h₁ FG F1 N1 B1 X1 T1
  refine wpC_execs_cons (wpC_Assign_Name (wpC_Call ?_))
  iterate 1 walk_at "go1"
  refine wpC_args_cons (wpC_of ?_)
  iterate 7 walk_at "go1"
  refine wpC_args_nil ⟨⟨_, .inr rfl, Looks.of_pure rfl⟩, ?_⟩
  refine call_bytearray (by omega) (by omega) (fun h2 hkeep hget => ?_)
  dsimp only at hkeep hget ⊢
  (rename Fr _ _ _ _ => F1)
  (rename News _ _ _ _ => N1)
  obtain ⟨F2, N2, hlt⟩ := news_new F1 N1 hkeep hget
  clear F1 N1
  obtain ⟨D, hD⟩ : ∃ D, D = h₁.objs.size := ⟨_, rfl⟩
  rw [← hD] at N2 hlt ⊢
  iterate 1 walk_at "go1"
  refine wpC_of ?_
  iterate 2 walk_at "go1"
  (rename Fr _ _ _ _ => F3)
  refine For_invVF F3 rfl rfl ?_
  iterate 16 walk_at "go1"
  (rename Fr _ _ _ _ => F4)
  (rename News _ _ _ _ => N4)
  have hnn : n ≤ n * wd := Nat.le_mul_of_pos_right _ hw
  have hww : wd ≤ n * wd := by
    rcases Nat.eq_zero_or_pos n with rfl | hn
    · rw [hbs] at hb0; simp at hb0
    · exact Nat.le_mul_of_pos_left _ hn
  with_unfolding_all refine range3_rows F4 N4 (by omega) ?_ (Or.inl (PyProof.noPylong_small (by omega)))
  intro h5 tk5 t1 u1 v1 hR F5 N5 _
  dsimp only
  have hb : ((b.size : Nat) : Int) = ((n * wd : Nat) : Int) := by rw [hbs]
  refine rng (σ := Array UInt8) (n := n) (fun c => (D, ba c) :: fro) (fun _ => []) [Str.ofString "j"] (fun i c => c.size = b.size ∧ ∀ p, p < i * wd → c.getD p 0 = swAt b wd p) _ rfl hR
    (by show Builtin.Range.small 0 ((b.size : Nat) : Int) _ = true; rw [hb]; exact sm_step hw (by omega) (by omega) (by omega)) (by show Builtin.Range.rangeSize 0 ((b.size : Nat) : Int) _ = _; rw [hb]; exact rs_step hw) F5 N5 (fun _ h => nomatch h)
    ⟨by simp, fun p hp => by simp at hp⟩ ?_ ?_
  · rintro c i tt u h tk own hi hown ⟨hcs, hc⟩ F6 N6
    dsimp only at F6 N6 ⊢
    rw [List.cons_append] at N6
    iterate 1 walk_at "go1"
    (rename Fr _ _ _ _ => F7)
    refine For_invVF F7 rfl rfl ?_
    iterate 7 walk_at "go1"
    (rename IsRange _ _ _ _ _ _ _ _ => hR2)
    (rename Fr _ _ _ _ => F8)
    (rename News _ _ _ _ => N8)
    refine rng (σ := Array UInt8) (n := wd) (fun c => (D, ba c) :: (fro ++ own)) (fun _ => []) [] (fun j c => c.size = b.size ∧ (∀ p, p < i * wd → c.getD p 0 = swAt b wd p) ∧ ∀ q, q < j → c.getD (i * wd + (wd - 1 - q)) 0 = b.getD (i * wd + q) 0) c rfl hR2
      (sm_up (by omega)) (rs_up _) F8 N8 (fun _ h => nomatch h) ⟨hcs, hc, fun q hq => absurd hq (Nat.not_lt_zero _)⟩ ?_ ?_
    · rintro c j t2 u2 h2 tk2 own2 hj hown2 ⟨hcs, hc, hin⟩ F9 N9
      dsimp only at F9 N9 ⊢
      rw [List.cons_append] at N9
      have hiw : i * wd + wd ≤ n * wd := by rw [← Nat.succ_mul]; exact Nat.mul_le_mul_right _ hi
      have e1 : (0 : Int) + (i : Int) * (wd : Int) = ((i * wd : Nat) : Int) := by push_cast; omega
      have e2 : (0 : Int) + (j : Int) * 1 = (j : Int) := by omega
      rw [e1, e2] at F9
      iterate 8 walk_at "go1"
      refine KBw.item_K rfl (by rw [KBw.ints_length]; omega) (by omega) (by rw [KBw.ints_length]; omega) (fun t3 k3 hb2 hb3 => ?_)
      iterate 11 walk_at "go1"
      (rename Fr _ _ _ _ => F10)
      (rename News _ _ _ _ => N10)
      refine set_ba_K F10 N10 (by omega) (by rw [hcs]; omega) (by rw [hcs]; omega) hb2 hb3 (Upd.head ?_) (fun h11 F11 N11 => ?_)
      · intro p hp
        rcases List.mem_append.mp hp with hp | hp
        · rcases List.mem_append.mp hp with hp | hp
          · exact Nat.ne_of_lt (hlt p hp)
          · exact hown p hp D (List.Mem.head _)
        · exact hown2 p hp D (List.Mem.head _)
      iterate 1 walk_at "go1"
      have ek : (((i * wd : Nat) : Int) + (wd : Int) - 1 - (j : Int)).toNat = i * wd + (wd - 1 - j) := by omega
      have ev : ((KBw.bInts b).getD (((i * wd : Nat) : Int) + (j : Int)).toNat 0).toNat.toUInt8 = b.getD (i * wd + j) 0 := by
        rw [show (((i * wd : Nat) : Int) + (j : Int)).toNat = i * wd + j by omega, KBw.bInts, ← KBw.getD_ints]
        simp [Array.getD_eq_getD_getElem?, List.getD_eq_getElem?_getD]
      rw [ek, ev] at N11
      refine rng_end _ F11 N11 (fun p hp => List.mem_append_left _ hp) (fun p hp => List.Mem.tail _ (List.mem_append_right _ hp)) rfl (fun _ h => nomatch h) (by walk_at "same2") ⟨?_, ?_, ?_⟩
      · rw [Array.size_setIfInBounds]; exact hcs
      · intro p hp
        rw [Array.getD_eq_getD_getElem?, Array.getElem?_setIfInBounds, if_neg (by omega), ← Array.getD_eq_getD_getElem?]
        exact hc p hp
      · intro q hq
        rw [Array.getD_eq_getD_getElem?, Array.getElem?_setIfInBounds]
        by_cases hqj : q = j
        · subst hqj
          rw [if_pos rfl, if_pos (by rw [hcs]; omega)]; rfl
        · rw [if_neg (by omega), ← Array.getD_eq_getD_getElem?]
          exact hin q (by omega)
    · rintro c u2 h2 tk2 ⟨hcs, hc, hin⟩ F9 N9
      dsimp only at F9 N9 ⊢
      iterate 1 walk_at "go1"
      refine rng_end c F9 N9 (fun p hp => List.mem_append_left _ hp) (fun p hp => List.Mem.tail _ (List.mem_append_right _ hp)) rfl (fun _ h => nomatch h) (by walk_at "same2") ⟨hcs, fun p hp => ?_⟩
      by_cases hpi : p < i * wd
      · exact hc p hpi
      · rw [Nat.succ_mul] at hp
        have e := hin (wd - 1 - (p - i * wd)) (by omega)
        rw [show i * wd + (wd - 1 - (wd - 1 - (p - i * wd))) = p by omega] at e
        rw [e]
        unfold swAt
        have hd : p / wd = i := by rw [Nat.div_eq_iff hw]; omega
        have hm : p % wd = p - i * wd := by
          have := Nat.div_add_mod p wd
          rw [hd, Nat.mul_comm] at this; omega
        rw [hd, hm]
  · rintro c u h tk ⟨hcs, hc⟩ F6 N6
    dsimp only at F6 N6 ⊢
    iterate 8 walk_at "go1"
    refine call_bytes_ba (N6 _ (.head _)).1 (by rw [hcs]; omega) (fun t k => ?_)
    dsimp only
    iterate 1 walk_at "go1"
    have ec : c = swapB b wd := by
      apply Array.ext
      · simp [swapB, hcs]
      · intro p h1 h2
        have := hc p (by omega)
        rw [Array.getD_eq_getD_getElem?, Array.getElem?_eq_getElem h1] at this
        simp only [Option.getD_some] at this
        simp [swapB, this, swAt]
    rw [ec]
    refine ⟨_, rfl, hret _ _ _ (by assumption) (fun p hp => ?_)⟩
    (rename News h₀ L _ _ => N20)
    exact N20 p (List.Mem.tail _ hp)
end Mine
end
section
open PySem PySem.W PyProof.Rows
set_option maxRecDepth 100000
namespace Mine
theorem llt_irrefl : ∀ a : List Int, llt a a = false
  | [] => rfl
  | x :: a => by show (if x = x then llt a a else _) = false; rw [if_pos rfl]; exact llt_irrefl a
theorem llt_neg : ∀ {a c : List Int} (b : List Int), llt a c = true → llt a b = true ∨ llt b c = true
  | [], [], _, h => by simp [llt] at h
  | [], _ :: _, [], _ => .inr rfl
  | [], _ :: _, _ :: _, _ => .inl rfl
  | _ :: _, [], _, h => by simp [llt] at h
  | x :: a, z :: c, [], _ => .inr rfl
  | x :: a, z :: c, y :: b, h => by
    unfold llt at h ⊢
    by_cases h1 : x = y
    · subst h1
      rw [if_pos rfl]
      by_cases h2 : x = z
      · subst h2
        rw [if_pos rfl] at h ⊢
        exact llt_neg b h
      · rw [if_neg h2] at h ⊢
        exact .inr h
    · rw [if_neg h1]
      by_cases h2 : y = z
      · subst h2
        rw [if_pos rfl]
        rw [if_neg h1] at h
        exact .inl h
      · rw [if_neg h2]
        by_cases h3 : x = z
        · subst h3
          simp only [decide_eq_true_eq]; omega
        · rw [if_neg h3] at h
          simp only [decide_eq_true_eq] at h ⊢; omega
theorem llt_total : ∀ {a b : List Int}, llt a b = false → llt b a = false → a = b
  | [], [], _, _ => rfl
  | [], _ :: _, h, _ => by simp [llt] at h
  | _ :: _, [], _, h => by simp [llt] at h
  | x :: a, y :: b, h1, h2 => by
    unfold llt at h1 h2
    by_cases h : x = y
    · subst h
      rw [if_pos rfl] at h1 h2
      rw [llt_total h1 h2]
    · rw [if_neg h] at h1
      rw [if_neg (Ne.symm h)] at h2
      simp only [decide_eq_false_iff_not] at h1 h2
      omega
/-- not after -/
def lle (a b : List Int) : Prop := llt b a = false
theorem lle_refl (a : List Int) : lle a a := llt_irrefl a
theorem lle_trans {a b c : List Int} (h1 : lle a b) (h2 : lle b c) : lle a c := by
  unfold lle at *
  cases h : llt c a
  · rfl
  · rcases llt_neg b h with e | e
    · rw [h2] at e; cases e
    · rw [h1] at e; cases e
theorem llt_asym {a b : List Int} (h : llt a b = true) (e : llt b a = true) : False := by
  induction a generalizing b with
  | nil => cases b <;> simp [llt] at h e
  | cons x a ih => cases b with
    | nil => simp [llt] at h
    | cons y b =>
      unfold llt at h e
      by_cases hx : x = y
      · subst hx
        rw [if_pos rfl] at h e
        exact ih h e
      · rw [if_neg hx] at h
        rw [if_neg (Ne.symm hx)] at e
        simp only [decide_eq_true_eq] at h e
        omega
theorem lle_of_llt {a b : List Int} (h : llt a b = true) : lle a b := by
  unfold lle
  cases e : llt b a
  · rfl
  · exact (llt_asym h e).elim
theorem lle_antisymm {a b : List Int} (h1 : lle a b) (h2 : lle b a) : a = b := llt_total h2 h1
theorem lle_total (a b : List Int) : lle a b ∨ lle b a := by
  cases h : llt b a
  · exact .inl h
  · exact .inr (lle_of_llt h)
theorem llt_of_lle_ne {a b : List Int} (h : lle a b) (hne : a ≠ b) : llt a b = true := by
  cases e : llt a b
  · exact absurd (llt_total e h) hne
  · rfl
theorem llt_of_llt_of_lle {a b c : List Int} (h1 : llt a b = true) (h2 : lle b c) : llt a c = true := by
  rcases llt_neg c h1 with e | e
  · exact e
  · unfold lle at h2; rw [h2] at e; cases e
theorem llt_of_lle_of_llt {a b c : List Int} (h1 : lle a b) (h2 : llt b c = true) : llt a c = true := by
  rcases llt_neg a h2 with e | e
  · unfold lle at h1; rw [h1] at e; cases e
  · exact e
theorem llt_trans {a b c : List Int} (h1 : llt a b = true) (h2 : llt b c = true) : llt a c = true := llt_of_llt_of_lle h1 (lle_of_llt h2)
end Mine
end
section
open PySem PySem.W PyProof.Rows
set_option maxRecDepth 100000
namespace Mine
def hT {α : Type} (n : Nat) (lt : Nat → Nat → Bool) : KasT α → (α → Prop) → Prop
  | .ret a, Q => Q a
  | .ask i j k, Q => i < n ∧ j < n ∧ hT n lt (k (lt i j)) Q
theorem hT_bind {α β : Type} {n : Nat} {lt : Nat → Nat → Bool} {f : α → KasT β} {Q : β → Prop} : ∀ (t : KasT α), hT n lt t (fun a => hT n lt (f a) Q) → hT n lt (t.bind f) Q
  | .ret _, h => h
  | .ask i j k, h => ⟨h.1, h.2.1, hT_bind (k (lt i j)) h.2.2⟩
theorem hT_mono {α : Type} {n : Nat} {lt : Nat → Nat → Bool} {Q R : α → Prop} (hq : ∀ a, Q a → R a) : ∀ (t : KasT α), hT n lt t Q → hT n lt t R
  | .ret _, h => hq _ h
  | .ask i j k, h => ⟨h.1, h.2.1, hT_mono hq (k (lt i j)) h.2.2⟩
theorem hT_wp {α : Type} {n : Nat} {lt : Nat → Nat → Bool} {cmp : Nat → Nat → (Bool → Shared → Prop) → Shared → Prop} {Q : α → Shared → Prop} {s : Shared}
    (hc : ∀ i j C, i < n → j < n → C (lt i j) s → cmp i j C s) : ∀ (t : KasT α), hT n lt t (fun a => Q a s) → t.kasWp cmp Q s
  | .ret _, h => h
  | .ask i j k, h => hc i j _ h.1 h.2.1 (hT_wp hc (k (lt i j)) h.2.2)
section
variable (key : Nat → List Int)
def KP (p : Array Nat) (i : Nat) : List Int := key (p.getD i 0)
def SrtTo (p : Array Nat) (k : Nat) : Prop := ∀ i j, i ≤ j → j < k → lle (KP key p i) (KP key p j)
def NonI (p : Array Nat) (k : Nat) : Prop := ∀ i j, i ≤ j → j < k → lle (KP key p j) (KP key p i)
def PB (n : Nat) (p : Array Nat) : Prop := p.Perm (List.range n).toArray
variable {key} {n : Nat} {p : Array Nat}
theorem PB.size (h : PB n p) : p.size = n := by have := (Array.perm_iff_toList_perm.mp h).length_eq; simpa using this
theorem PB.lt (h : PB n p) (hn : 0 < n) (i : Nat) : p.getD i 0 < n := by
  rw [Array.getD_eq_getD_getElem?]
  by_cases hi : i < p.size
  · rw [Array.getElem?_eq_getElem hi, Option.getD_some]
    have hm : p[i] ∈ p.toList := by simp
    have := (Array.perm_iff_toList_perm.mp h).mem_iff.mp hm
    simpa using this
  · rw [Array.getElem?_eq_none (by omega)]; exact hn
theorem KP_congr {p q : Array Nat} {i j : Nat} (h : p[i]? = q[j]?) : KP key p i = KP key q j := by
  unfold KP; rw [Array.getD_eq_getD_getElem?, Array.getD_eq_getD_getElem?, h]
theorem KP_bubble {src d : Nat} (hs : src < p.size) (hd : d ≤ src) (k : Nat) :
    KP key (bubble p src d) k = if k = src - d then KP key p src else if src - d < k ∧ k ≤ src then KP key p (k - 1) else KP key p k := by
  have e := getElem?_bubble hs d hd k
  by_cases h1 : k = src - d
  · rw [if_pos h1] at e ⊢; exact KP_congr e
  · rw [if_neg h1] at e ⊢
    by_cases h2 : src - d < k ∧ k ≤ src
    · rw [if_pos h2] at e ⊢; exact KP_congr e
    · rw [if_neg h2] at e ⊢; exact KP_congr e
theorem KP_rev {i j : Nat} (hj : j ≤ p.size) (k : Nat) : KP key (kas_rev p i j) k = if i ≤ k ∧ k < j then KP key p (i + j - 1 - k) else KP key p k := by
  have e := getElem?_mirror_all (i := i) hj k
  unfold kas_rev
  by_cases h1 : i ≤ k ∧ k < j
  · rw [if_pos h1] at e ⊢; exact KP_congr e
  · rw [if_neg h1] at e ⊢; exact KP_congr e
theorem KP_rev_equal {i j : Nat} (hj : j ≤ p.size) (heq : ∀ k, i ≤ k → k < j → KP key p k = KP key p (j - 1)) (k : Nat) : KP key (kas_rev p i j) k = KP key p k := by
  rw [KP_rev hj]
  split
  · rw [heq _ (by omega) (by omega), heq k (by omega) (by omega)]
  · rfl
theorem PB.rev (h : PB n p) (i j : Nat) : PB n (kas_rev p i j) := (mirror_perm ..).trans h
theorem PB.bub (h : PB n p) (i j : Nat) : PB n (bubble p i j) := (bubble_perm ..).trans h
variable (hn : 0 < n)
include hn
theorem asc_ok {lt : Nat → Nat → Bool} (hlt : ∀ i j, lt i j = llt (key i) (key j)) (hp : PB n p) : ∀ (f a : Nat), 1 ≤ a → a + f ≤ n → SrtTo key p a → ∀ {Q : Nat → Prop}, (∀ m, a ≤ m → m ≤ a + f → SrtTo key p m → (m = a + f ∨ llt (KP key p m) (KP key p (m - 1)) = true) → Q m) → hT n lt (kas_asc p f a) Q
  | 0, a, _, _, hs, Q, h => h a (Nat.le_refl _) (Nat.le_refl _) hs (.inl rfl)
  | f + 1, a, ha, haf, hs, Q, h => by
    refine ⟨hp.lt hn _, hp.lt hn _, ?_⟩
    rw [hlt]
    cases hl : llt (key (p.getD a 0)) (key (p.getD (a - 1) 0))
    · try dsimp only
      rw [if_neg (by simp)]
      refine asc_ok hlt hp f (a + 1) (by omega) (by omega) (fun i j hij hj => ?_) (fun m h1 h2 hm ho => h m (by omega) (by omega) hm (by rcases ho with ho | ho; exact .inl (by omega); exact .inr ho))
      by_cases hjx : j < a
      · exact hs i j hij hjx
      · have : j = a := by omega
        subst this
        by_cases hi : i = j
        · subst hi; exact lle_refl _
        · exact lle_trans (hs i (j - 1) (by omega) (by omega)) hl
    · try dsimp only
      rw [if_pos rfl]
      exact h a (Nat.le_refl _) (by omega) hs (.inr hl)
theorem tail3_ok {lt : Nat → Nat → Bool} (hlt : ∀ i j, lt i j = llt (key i) (key j)) (hp : PB n p) {k : Nat} (hk : 1 ≤ k) (hkn : k ≤ n) (hs : NonI key p k) {Q : Nat × Array Nat → Prop}
    (h : ∀ m p', PB n p' → 1 ≤ m → m ≤ n → SrtTo key p' m → Q (m, p')) : hT n lt (kas_tail3 k n p) Q := by
  unfold kas_tail3
  refine hT_bind _ (asc_ok hn hlt (hp.rev 0 k) (n - k) k hk (by omega) ?_ (fun m h1 h2 hm _ => h m _ (hp.rev 0 k) (by omega) (by omega) hm))
  intro i j hij hj
  have hsz : k ≤ p.size := by rw [hp.size]; exact hkn
  rw [KP_rev hsz, KP_rev hsz, if_pos (by omega), if_pos (by omega)]
  exact hs _ _ (by omega) (by omega)
theorem desc_ok {lt : Nat → Nat → Bool} (hlt : ∀ i j, lt i j = llt (key i) (key j)) : ∀ (f : Nat) (p : Array Nat) (a q : Nat), PB n p → 1 ≤ a → a + f ≤ n → NonI key p a → q + 1 ≤ a → (∀ i, a - (q + 1) ≤ i → i < a → KP key p i = KP key p (a - 1)) →
    ∀ {Q : Array Nat × Nat × Nat → Prop}, (∀ p' m q', PB n p' → a ≤ m → m ≤ a + f → NonI key p' m → q' + 1 ≤ m → (∀ i, m - (q' + 1) ≤ i → i < m → KP key p' i = KP key p' (m - 1)) → Q (p', m, q')) → hT n lt (kas_desc f p a q) Q
  | 0, p, a, q, hp, _, _, hs, hq, he, Q, h => h p a q hp (Nat.le_refl _) (Nat.le_refl _) hs hq he
  | f + 1, p, a, q, hp, ha, haf, hs, hq, he, Q, h => by
    have hsz : a ≤ p.size := by rw [hp.size]; omega
    refine ⟨hp.lt hn _, hp.lt hn _, ?_⟩
    rw [hlt]
    cases hl : llt (key (p.getD a 0)) (key (p.getD (a - 1) 0))
    · try dsimp only
      rw [if_neg (by simp)]
      refine ⟨hp.lt hn _, hp.lt hn _, ?_⟩
      rw [hlt]
      cases hl2 : llt (key (p.getD (a - 1) 0)) (key (p.getD a 0))
      · try dsimp only
        rw [if_neg (by simp)]
        have heq : KP key p a = KP key p (a - 1) := llt_total hl hl2
        refine desc_ok hlt f p (a + 1) (q + 1) hp (by omega) (by omega) (fun i j hij hj => ?_) (by omega) (fun i h1 h2 => ?_) (fun p' m q' b1 b2 b3 b4 b5 b6 => h p' m q' b1 (by omega) (by omega) b4 b5 b6)
        · by_cases hjx : j < a
          · exact hs i j hij hjx
          · have : j = a := by omega
            subst this
            by_cases hi : i = j
            · subst hi; exact lle_refl _
            · rw [heq]; exact hs i (j - 1) (by omega) (by omega)
        · rw [show a + 1 - 1 = a by omega]
          by_cases hix : i = a
          · subst hix; rfl
          · rw [heq]; exact he i (by omega) (by omega)
      · try dsimp only
        rw [if_pos rfl]
        exact h p a q hp (Nat.le_refl _) (by omega) hs hq he
    · try dsimp only
      rw [if_pos rfl]
      have step1 : ∀ xs : Array Nat, (∀ k, KP key xs k = KP key p k) → NonI key xs (a + 1) := by
        intro xs hk i j hij hj
        rw [hk, hk]
        by_cases hjx : j < a
        · exact hs i j hij hjx
        · have : j = a := by omega
          subst this
          by_cases hi : i = j
          · subst hi; exact lle_refl _
          · exact lle_trans (lle_of_llt hl) (hs i (j - 1) (by omega) (by omega))
      by_cases hq0 : q > 0
      · rw [if_pos hq0]
        exact desc_ok hlt f _ (a + 1) 0 (hp.rev _ _) (by omega) (by omega) (step1 _ (KP_rev_equal hsz he)) (by omega) (fun i h1 h2 => by congr 1; omega) (fun p' m q' b1 b2 b3 b4 b5 b6 => h p' m q' b1 (by omega) (by omega) b4 b5 b6)
      · rw [if_neg hq0]
        exact desc_ok hlt f p (a + 1) 0 hp (by omega) (by omega) (step1 _ (fun _ => rfl)) (by omega) (fun i h1 h2 => by congr 1; omega) (fun p' m q' b1 b2 b3 b4 b5 b6 => h p' m q' b1 (by omega) (by omega) b4 b5 b6)
theorem descPart_ok {lt : Nat → Nat → Bool} (hlt : ∀ i j, lt i j = llt (key i) (key j)) (hp : PB n p) {k : Nat} (hkn : k + 1 ≤ n) (hs : NonI key p (k + 1)) {Q : Nat × Array Nat → Prop}
    (h : ∀ m p', PB n p' → 1 ≤ m → m ≤ n → SrtTo key p' m → Q (m, p')) : hT n lt (kas_descPart k n p) Q := by
  unfold kas_descPart
  refine hT_bind _ (desc_ok hn hlt _ p (k + 1) 0 hp (by omega) (by omega) hs (by omega) (fun i h1 h2 => by congr 1; omega) (fun p' m q' b1 b2 b3 b4 b5 b6 => ?_))
  dsimp only
  have hsz : m ≤ p'.size := by rw [b1.size]; omega
  by_cases hq : q' > 0
  · rw [if_pos hq]
    refine tail3_ok hn hlt (b1.rev _ _) (by omega) (by omega) (fun i j hij hj => ?_) h
    rw [KP_rev_equal hsz b6, KP_rev_equal hsz b6]
    exact b4 i j hij hj
  · rw [if_neg hq]
    exact tail3_ok hn hlt b1 (by omega) (by omega) b4 h
theorem count_ok {lt : Nat → Nat → Bool} (hlt : ∀ i j, lt i j = llt (key i) (key j)) (hp : PB n p) {Q : Nat × Array Nat → Prop}
    (h : ∀ m p', PB n p' → 1 ≤ m → m ≤ n → SrtTo key p' m → Q (m, p')) : hT n lt (kas_count n p) Q := by
  unfold kas_count
  refine hT_bind _ (asc_ok hn hlt hp (n - 1) 1 (by omega) (by omega) (fun i j hij hj => by
    obtain rfl : i = j := by omega
    exact lle_refl _) (fun m h1 h2 hm ho => ?_))
  by_cases hmn : m = n
  · rw [if_pos (by simpa using hmn)]
    exact h m p hp (by omega) (by omega) hm
  · rw [if_neg (by simpa using hmn)]
    have hl : llt (KP key p m) (KP key p (m - 1)) = true := ho.resolve_left (by omega)
    by_cases hm1 : m > 1
    · rw [if_pos hm1]
      refine ⟨hp.lt hn _, hp.lt hn _, ?_⟩
      rw [hlt]
      cases hl2 : llt (key (p.getD 0 0)) (key (p.getD (m - 1) 0))
      · try dsimp only
        rw [if_neg (by simp)]
        have hsz : m ≤ p.size := by rw [hp.size]; omega
        have hall : ∀ k, 0 ≤ k → k < m → KP key p k = KP key p (m - 1) := fun k _ hk =>
          lle_antisymm (hm k (m - 1) (by omega) (by omega)) (lle_trans (show lle (KP key p (m - 1)) (KP key p 0) from hl2) (hm 0 k (by omega) hk))
        refine descPart_ok hn hlt (hp.rev 0 m) (by omega) (fun i j hij hj => ?_) h
        rw [KP_rev_equal hsz hall, KP_rev_equal hsz hall]
        by_cases hjm : j < m
        · rw [hall i (by omega) (by omega), hall j (by omega) hjm]; exact lle_refl _
        · have : j = m := by omega
          subst this
          by_cases hi : i = j
          · subst hi; exact lle_refl _
          · rw [hall i (by omega) (by omega)]; exact lle_of_llt hl
      · try dsimp only
        rw [if_pos rfl]
        exact h m p hp (by omega) (by omega) hm
    · rw [if_neg hm1]
      have : m = 1 := by omega
      subst this
      refine descPart_ok hn hlt hp (by omega) (fun i j hij hj => ?_) h
      by_cases hi : i = j
      · subst hi; exact lle_refl _
      · have h1 : i = 0 := by omega
        have h2 : j = 1 := by omega
        subst h1 h2
        exact lle_of_llt hl
theorem place_ok {lt : Nat → Nat → Bool} (hlt : ∀ i j, lt i j = llt (key i) (key j)) (hp : PB n p) {k : Nat} (hk : k < n) (hs : SrtTo key p k) : ∀ (f l r : Nat), l ≤ r → r ≤ k → r - l ≤ f → (∀ i, i < l → lle (KP key p i) (KP key p k)) → (∀ i, r ≤ i → i < k → llt (KP key p k) (KP key p i) = true) →
    ∀ {Q : Nat → Prop}, (∀ l, l ≤ k → (∀ i, i < l → lle (KP key p i) (KP key p k)) → (∀ i, l ≤ i → i < k → llt (KP key p k) (KP key p i) = true) → Q l) → hT n lt (kas_place p k f l r) Q
  | 0, l, r, hlr, hrk, hf, hlo, hhi, Q, h => by
    have : l = r := by omega
    subst this
    exact h l hrk hlo hhi
  | f + 1, l, r, hlr, hrk, hf, hlo, hhi, Q, h => by
    unfold kas_place
    by_cases hge : l ≥ r
    · rw [if_pos hge]
      have : l = r := by omega
      subst this
      exact h l hrk hlo hhi
    · rw [if_neg hge]
      refine ⟨hp.lt hn _, hp.lt hn _, ?_⟩
      rw [hlt]
      cases hl : llt (key (p.getD k 0)) (key (p.getD ((l + r) / 2) 0))
      · try dsimp only
        rw [if_neg (by simp)]
        exact place_ok hlt hp hk hs f _ _ (by omega) hrk (by omega) (fun i hi => lle_trans (hs i ((l + r) / 2) (by omega) (by omega)) hl) hhi h
      · try dsimp only
        rw [if_pos rfl]
        exact place_ok hlt hp hk hs f _ _ (by omega) (by omega) (by omega) hlo (fun i h1 h2 => llt_of_llt_of_lle hl (hs _ _ h1 h2)) h
theorem bin_ok {lt : Nat → Nat → Bool} (hlt : ∀ i j, lt i j = llt (key i) (key j)) : ∀ (f : Nat) (p : Array Nat) (k : Nat), PB n p → k + f = n → SrtTo key p k → ∀ {Q : Array Nat → Prop}, (∀ p', PB n p' → SrtTo key p' n → Q p') → hT n lt (kas_bin f p k) Q
  | 0, p, k, hp, hk, hs, Q, h => h p hp (by
    obtain rfl : k = n := by omega
    exact hs)
  | f + 1, p, k, hp, hk, hs, Q, h => by
    unfold kas_bin
    refine hT_bind _ (place_ok hn hlt hp (by omega) hs k 0 k (by omega) (by omega) (by omega) (fun i hi => by omega) (fun i h1 h2 => by omega) (fun l hl hlo hhi => ?_))
    refine bin_ok hlt f _ (k + 1) (hp.bub _ _) (by omega) (fun i j hij hj => ?_) h
    have hsz : k < p.size := by rw [hp.size]; omega
    rw [KP_bubble hsz (by omega), KP_bubble hsz (by omega), show k - (k - l) = l by omega]
    by_cases hi : i = l
    · rw [if_pos hi]
      by_cases hj2 : j = l
      · rw [if_pos hj2]; exact lle_refl _
      · rw [if_neg hj2, if_pos (by omega)]
        exact lle_of_llt (hhi _ (by omega) (by omega))
    · rw [if_neg hi]
      by_cases hj2 : j = l
      · rw [if_pos hj2, if_neg (by omega)]
        exact hlo i (by omega)
      · rw [if_neg hj2]
        by_cases hi3 : l < i ∧ i ≤ k
        · rw [if_pos hi3, if_pos (by omega)]
          exact hs _ _ (by omega) (by omega)
        · rw [if_neg hi3]
          by_cases hj3 : l < j ∧ j ≤ k
          · rw [if_pos hj3]
            exact hs _ _ (by omega) (by omega)
          · rw [if_neg hj3]
            exact hs _ _ hij (by omega)
theorem sort_ok {lt : Nat → Nat → Bool} (hlt : ∀ i j, lt i j = llt (key i) (key j)) {Q : Array Nat → Prop} (h : ∀ p', PB n p' → SrtTo key p' n → Q p') : hT n lt (kas_sort n) Q := by
  unfold kas_sort
  refine hT_bind _ (count_ok hn hlt (Array.Perm.refl _) (fun m p' hp h1 h2 hs => ?_))
  dsimp only
  by_cases hm : m < n
  · rw [if_pos hm, show max m 1 = m by omega]
    exact bin_ok hn hlt _ _ _ hp (by omega) hs h
  · rw [if_neg hm]
    have : m = n := by omega
    subst this
    exact h _ hp hs
end
end Mine
end
section
open PySem PySem.W PyProof.Rows
set_option maxRecDepth 100000
namespace Mine
abbrev Rows := List (List Int)
def at' (rows : Rows) (i : Nat) : List Int := rows.getD i []
theorem at_set (rows : Rows) (i j : Nat) (x : List Int) : at' (rows.set i x) j = if i = j ∧ j < rows.length then x else at' rows j := by
  unfold at'
  rw [List.getD_eq_getElem?_getD, List.getD_eq_getElem?_getD, List.getElem?_set]
  by_cases h : i = j
  · subst h
    by_cases h2 : i < rows.length
    · simp [h2]
    · simp [h2]
  · simp [h]
theorem at_ne {rows : Rows} {i j : Nat} {x : List Int} (h : i ≠ j) : at' (rows.set i x) j = at' rows j := by rw [at_set, if_neg (fun h' => h h'.1)]
theorem at_eq {rows : Rows} {i : Nat} {x : List Int} (h : i < rows.length) : at' (rows.set i x) i = x := by rw [at_set, if_pos ⟨rfl, h⟩]
theorem at_elem {rows : Rows} {i : Nat} (h : i < rows.length) : at' rows i = rows[i] := by
  unfold at'; rw [List.getD_eq_getElem?_getD, List.getElem?_eq_getElem h]; rfl
theorem at_mem {rows : Rows} {i : Nat} (h : i < rows.length) : at' rows i ∈ rows := by rw [at_elem h]; exact List.getElem_mem h
theorem set2_perm {l : Rows} {i j : Nat} {x : List Int} (hi : i < l.length) (hj : j < l.length) (hne : i ≠ j) : ((l.set i (at' l j)).set j x).Perm (l.set i x) := by
  rw [List.perm_iff_count]
  intro b
  rw [List.count_set (by rw [List.length_set]; exact hj), List.count_set hi, List.count_set hi, List.getElem_set, if_neg hne, at_elem hj]
  have h1 : (if l[i] == b then 1 else 0) ≤ l.count b := by
    split
    · rename_i h
      rw [beq_iff_eq] at h
      exact List.count_pos_iff.mpr (h ▸ List.getElem_mem hi)
    · exact Nat.zero_le _
  generalize (if l[i] == b then 1 else 0) = A at *
  generalize (if l[j] == b then 1 else 0) = B at *
  omega
theorem sd_perm (rows : Rows) (new : List Int) (pos : Nat) (h : pos < rows.length) : (sd rows new pos).Perm (rows.set pos new) := by
  unfold sd
  split
  · exact .refl _
  · rename_i h0
    split
    · have hp : (pos - 1) / 2 < rows.length := by omega
      refine (sd_perm _ new _ (by rw [List.length_set]; exact hp)).trans ?_
      exact set2_perm h hp (by omega)
    · exact .refl _
termination_by pos
decreasing_by omega
theorem su_perm (rows : Rows) (new : List Int) (pos : Nat) (h : pos < rows.length) : (su rows new pos).Perm (rows.set pos new) := by
  unfold su
  split
  · rename_i h1
    split
    · rename_i h2
      refine (su_perm _ new _ (by rw [List.length_set]; exact h2.1)).trans ?_
      exact set2_perm h h2.1 (by omega)
    · refine (su_perm _ new _ (by rw [List.length_set]; exact h1)).trans ?_
      exact set2_perm h h1 (by omega)
  · refine (sd_perm _ new _ (by rw [List.length_set]; exact h)).trans ?_
    rw [List.set_set]
termination_by rows.length - pos
decreasing_by all_goals (simp only [List.length_set]; omega)
def HeapOrd (rows : Rows) : Prop := ∀ i, 0 < i → i < rows.length → lle (at' rows ((i - 1) / 2)) (at' rows i)
def Near (rows : Rows) (pos : Nat) (new : List Int) : Prop :=
  (∀ i, 0 < i → i < rows.length → i ≠ pos → (i - 1) / 2 ≠ pos → lle (at' rows ((i - 1) / 2)) (at' rows i)) ∧
  (∀ i, 0 < i → i < rows.length → (i - 1) / 2 = pos → lle new (at' rows i)) ∧
  (0 < pos → ∀ i, 0 < i → i < rows.length → (i - 1) / 2 = pos → lle (at' rows ((pos - 1) / 2)) (at' rows i))
theorem near_done {rows : Rows} {pos : Nat} {new : List Int} (hp : pos < rows.length) (h : Near rows pos new) (hpar : 0 < pos → lle (at' rows ((pos - 1) / 2)) new) : HeapOrd (rows.set pos new) := by
  intro i hi hl
  rw [List.length_set] at hl
  by_cases e : i = pos
  · subst e
    rw [at_eq hp, at_ne (by omega)]
    exact hpar hi
  · rw [at_ne (i := pos) (j := i) (Ne.symm e)]
    by_cases e2 : (i - 1) / 2 = pos
    · rw [e2, at_eq hp]; exact h.2.1 i hi hl e2
    · rw [at_ne (Ne.symm e2)]; exact h.1 i hi hl e e2
theorem sd_heap (rows : Rows) (new : List Int) (pos : Nat) (hp : pos < rows.length) (h : Near rows pos new) : HeapOrd (sd rows new pos) := by
  unfold sd
  split
  · exact near_done hp h (fun h0 => by omega)
  · rename_i h0
    have hpp : (pos - 1) / 2 < rows.length := by omega
    split
    · rename_i hlt
      change llt new (at' rows ((pos - 1) / 2)) = true at hlt
      change HeapOrd (sd (rows.set pos (at' rows ((pos - 1) / 2))) new ((pos - 1) / 2))
      refine sd_heap _ new _ (by rw [List.length_set]; exact hpp) ⟨fun i hi hl h1 h2 => ?_, fun i hi hl h1 => ?_, fun h3 i hi hl h1 => ?_⟩
      · rw [List.length_set] at hl
        have e : i ≠ pos := fun e => h2 (by rw [e])
        rw [at_ne (i := pos) (j := i) (Ne.symm e)]
        by_cases e2 : (i - 1) / 2 = pos
        · rw [e2, at_eq hp]; exact h.2.2 (by omega) i hi hl e2
        · rw [at_ne (Ne.symm e2)]; exact h.1 i hi hl e e2
      · rw [List.length_set] at hl
        by_cases e : i = pos
        · subst e; rw [at_eq hp]; exact lle_of_llt hlt
        · rw [at_ne (i := pos) (j := i) (Ne.symm e)]
          have := h.1 i hi hl e (by omega)
          rw [h1] at this
          exact lle_trans (lle_of_llt hlt) this
      · rw [List.length_set] at hl
        rw [at_ne (i := pos) (j := ((pos - 1) / 2 - 1) / 2) (by omega)]
        have h4 := h.1 ((pos - 1) / 2) h3 hpp (by omega) (by omega)
        by_cases e : i = pos
        · subst e; rw [at_eq hp]; exact h4
        · rw [at_ne (i := pos) (j := i) (Ne.symm e)]
          have := h.1 i hi hl e (by omega)
          rw [h1] at this
          exact lle_trans h4 this
    · rename_i hlt
      exact near_done hp h (fun _ => by simpa [lle, at'] using hlt)
termination_by pos
decreasing_by omega
def Hole (rows : Rows) (pos : Nat) : Prop :=
  (∀ i, 0 < i → i < rows.length → i ≠ pos → (i - 1) / 2 ≠ pos → lle (at' rows ((i - 1) / 2)) (at' rows i)) ∧
  (0 < pos → ∀ i, 0 < i → i < rows.length → (i - 1) / 2 = pos → lle (at' rows ((pos - 1) / 2)) (at' rows i))
theorem hole_step {rows : Rows} {pos c : Nat} (hc : (c - 1) / 2 = pos) (hc0 : 0 < c) (hcl : c < rows.length) (h : Hole rows pos) (hmin : ∀ i, 0 < i → i < rows.length → (i - 1) / 2 = pos → lle (at' rows c) (at' rows i)) : Hole (rows.set pos (at' rows c)) c := by
  have hp : pos < rows.length := by omega
  refine ⟨fun i hi hl h1 h2 => ?_, fun h3 i hi hl h1 => ?_⟩
  · rw [List.length_set] at hl
    by_cases e : i = pos
    · subst e
      rw [at_eq hp, at_ne (by omega)]
      exact h.2 hi c hc0 hcl hc
    · rw [at_ne (i := pos) (j := i) (Ne.symm e)]
      by_cases e2 : (i - 1) / 2 = pos
      · rw [e2, at_eq hp]; exact hmin i hi hl e2
      · rw [at_ne (Ne.symm e2)]; exact h.1 i hi hl e e2
  · rw [List.length_set] at hl
    rw [hc, at_eq hp, at_ne (i := pos) (j := i) (by omega)]
    have := h.1 i hi hl (by omega) (by omega)
    rw [h1] at this
    exact this
theorem su_heap (rows : Rows) (new : List Int) (pos : Nat) (hp : pos < rows.length) (h : Hole rows pos) : HeapOrd (su rows new pos) := by
  unfold su
  split
  · rename_i h1
    split
    · rename_i h2
      refine su_heap _ new _ (by rw [List.length_set]; exact h2.1) (hole_step (by omega) (by omega) h2.1 h (fun i hi hl hpar => ?_))
      have : i = 2 * pos + 1 ∨ i = 2 * pos + 2 := by omega
      rcases this with rfl | rfl
      · exact h2.2
      · exact lle_refl _
    · rename_i h2
      refine su_heap _ new _ (by rw [List.length_set]; exact h1) (hole_step (by omega) (by omega) h1 h (fun i hi hl hpar => ?_))
      have : i = 2 * pos + 1 ∨ i = 2 * pos + 2 := by omega
      rcases this with rfl | rfl
      · exact lle_refl _
      · have : llt (at' rows (2 * pos + 1)) (at' rows (2 * pos + 2)) = true := by
          cases e : llt (at' rows (2 * pos + 1)) (at' rows (2 * pos + 2))
          · exact absurd ⟨hl, e⟩ h2
          · rfl
        exact lle_of_llt this
  · rename_i h1
    refine sd_heap _ new pos (by rw [List.length_set]; exact hp) ⟨fun i hi hl e1 e2 => ?_, fun i hi hl e => ?_, fun _ i hi hl e => ?_⟩
    · rw [List.length_set] at hl
      rw [at_ne (Ne.symm e1), at_ne (Ne.symm e2)]
      exact h.1 i hi hl e1 e2
    · rw [List.length_set] at hl; omega
    · rw [List.length_set] at hl; omega
termination_by rows.length - pos
decreasing_by all_goals (simp only [List.length_set]; omega)
/-- what heappush leaves -/
def hpush (rows : Rows) (row : List Int) : Rows := sd (rows ++ [row]) row rows.length
theorem hpush_perm (rows : Rows) (row : List Int) : (hpush rows row).Perm (rows ++ [row]) := by
  refine (sd_perm _ row _ (by simp)).trans (.of_eq ?_)
  simp
theorem hpush_heap {rows : Rows} (row : List Int) (h : HeapOrd rows) : HeapOrd (hpush rows row) := by
  have hat : ∀ i, i < rows.length → at' (rows ++ [row]) i = at' rows i := fun i hi => by
    unfold at'; rw [List.getD_eq_getElem?_getD, List.getD_eq_getElem?_getD, List.getElem?_append_left hi]
  refine sd_heap _ row _ (by simp) ⟨fun i hi hl h1 h2 => ?_, fun i hi hl e => ?_, fun _ i hi hl e => ?_⟩
  · simp at hl
    rw [hat _ (by omega), hat _ (by omega)]
    exact h i hi (by omega)
  · simp at hl; omega
  · simp at hl; omega
theorem root_least {rows : Rows} (h : HeapOrd rows) : ∀ i, i < rows.length → lle (at' rows 0) (at' rows i) := by
  intro i
  induction i using Nat.strongRecOn with
  | _ i ih =>
    intro hi
    by_cases h0 : i = 0
    · subst h0; exact lle_refl _
    · exact lle_trans (ih ((i - 1) / 2) (by omega) (by omega)) (h i (by omega) hi)
theorem hpop_perm {rows : Rows} (h : 0 < rows.length) : rows.Perm (at' rows 0 :: hpop rows) := by
  unfold hpop
  split
  · rename_i h1
    obtain ⟨x, rfl⟩ := List.length_eq_one_iff.mp h1
    exact .refl _
  · rename_i h1
    have hd : 0 < rows.dropLast.length := by rw [List.length_dropLast]; omega
    refine .trans ?_ (.cons _ (su_perm _ _ 0 (by rw [List.length_set]; exact hd)).symm)
    rw [List.set_set]
    have hne : rows ≠ [] := by intro e; rw [e] at h; simp at h
    have hlast : rows.getD (rows.length - 1) [] = rows.getLast hne := by
      rw [List.getD_eq_getElem?_getD, List.getElem?_eq_getElem (by omega), List.getLast_eq_getElem]; rfl
    rw [hlast]
    have e : rows = rows.dropLast ++ [rows.getLast hne] := (List.dropLast_concat_getLast hne).symm
    cases hdl : rows.dropLast with
    | nil => rw [hdl] at hd; simp at hd
    | cons y d =>
      rw [hdl] at e
      have e0 : at' rows 0 = y := by rw [e]; rfl
      rw [e0]
      have e2 : rows.Perm (y :: (d ++ [rows.getLast hne])) := List.Perm.of_eq (by rw [← List.cons_append]; exact e)
      refine e2.trans (.cons _ ?_)
      show (d ++ [_]).Perm (_ :: d)
      exact List.perm_append_comm
theorem hpop_heap {rows : Rows} (h : 0 < rows.length) (H : HeapOrd rows) : HeapOrd (hpop rows) := by
  unfold hpop
  split
  · intro i _ hl; simp at hl
  · rename_i h1
    have hd : 0 < rows.dropLast.length := by rw [List.length_dropLast]; omega
    refine su_heap _ _ 0 (by rw [List.length_set]; exact hd) ⟨fun i hi hl e1 e2 => ?_, fun h0 => by omega⟩
    rw [List.length_set, List.length_dropLast] at hl
    rw [at_ne (Ne.symm e1), at_ne (Ne.symm e2)]
    have hat : ∀ i, i < rows.length - 1 → at' rows.dropLast i = at' rows i := fun i hi => by
      unfold at'; rw [List.getD_eq_getElem?_getD, List.getD_eq_getElem?_getD, List.getElem?_dropLast, if_pos hi]
    rw [hat _ (by omega), hat _ (by omega)]
    exact H i hi (by omega)
end Mine
end
section
open PySem PySem.W PyProof.Rows
set_option maxRecDepth 100000
namespace Mine
theorem lle_tail {p q : Int} {t : List Int} : lle (p :: t) (q :: t) ↔ p ≤ q := by
  unfold lle llt
  by_cases h : q = p
  · rw [if_pos h, llt_irrefl]; simp [h]
  · rw [if_neg h]; simp
theorem llt_head {p q : Int} {t u : List Int} (h : p < q) : llt (p :: t) (q :: u) = true := by
  unfold llt; rw [if_neg (by omega)]; simpa using h
/-- strictly rising -/
def Rising (l : Rows) : Prop := l.Pairwise fun a b => llt a b = true
theorem rising_unique : ∀ {l m : Rows}, Rising l → Rising m → (∀ r, r ∈ l ↔ r ∈ m) → l = m
  | [], [], _, _, _ => rfl
  | [], b :: m, _, _, h => absurd ((h b).mpr (.head _)) (by simp)
  | a :: l, [], _, _, h => absurd ((h a).mp (.head _)) (by simp)
  | a :: l, b :: m, h1, h2, h => by
    obtain ⟨ha, hl⟩ := List.pairwise_cons.mp h1
    obtain ⟨hb, hm⟩ := List.pairwise_cons.mp h2
    have hab : a = b := by
      rcases List.mem_cons.mp ((h a).mp (.head _)) with e | e
      · exact e
      · rcases List.mem_cons.mp ((h b).mpr (.head _)) with e' | e'
        · exact e'.symm
        · exact (llt_asym (hb a e) (ha b e')).elim
    subst hab
    rw [rising_unique hl hm fun r => ⟨fun hr => ?_, fun hr => ?_⟩]
    · rcases List.mem_cons.mp ((h r).mp (.tail _ hr)) with e | e
      · have := ha r hr; rw [e, llt_irrefl] at this; cases this
      · exact e
    · rcases List.mem_cons.mp ((h r).mpr (.tail _ hr)) with e | e
      · have := hb r hr; rw [e, llt_irrefl] at this; cases this
      · exact e
structure Sys where
  N : Nat
  K : Nat
  T : Nat → List Int
  P : Nat → Int
  sw : Nat → List Int → List Int
  pr : Nat → Int
  nx : Nat → Nat → Nat
  pos : 0 < N
  zero : P 0 = 0
  price : ∀ k, k < K → 1 ≤ pr k
  nxl : ∀ n k, n < N → k < K → nx k n < N
  nxt : ∀ n k, n < N → k < K → sw k (T n) = T (nx k n)
  nxp : ∀ n k, n < N → k < K → P (nx k n) ≤ P n + pr k
  reach : ∀ Pr : Nat → Prop, Pr 0 → (∀ n k, n < N → k < K → Pr n → P (nx k n) = P n + pr k → Pr (nx k n)) → ∀ n, n < N → Pr n
  few : K ≤ 3
def Sys.Least (S : Sys) (r : List Int) : Prop := ∃ n, n < S.N ∧ r = S.P n :: S.T n ∧ ∀ n', n' < S.N → S.T n' = S.T n → S.P n ≤ S.P n'
def texts (told : Rows) : List (List Int) := told.map List.tail
def Sys.pushAll (S : Sys) (row : List Int) (K : Nat) (H : Rows) : Rows := (List.range K).foldl (fun h k => hpush h ((row.headD 0 + S.pr k) :: S.sw k row.tail)) H
theorem Sys.pushAll_succ (S : Sys) (row : List Int) (K : Nat) (H : Rows) : S.pushAll row (K + 1) H = hpush (S.pushAll row K H) ((row.headD 0 + S.pr K) :: S.sw K row.tail) := by
  unfold Sys.pushAll; rw [List.range_succ, List.foldl_append]; rfl
theorem Sys.pushAll_mem (S : Sys) (row : List Int) (H : Rows) (r : List Int) : ∀ K, r ∈ S.pushAll row K H ↔ r ∈ H ∨ ∃ k, k < K ∧ r = (row.headD 0 + S.pr k) :: S.sw k row.tail
  | 0 => by simp [Sys.pushAll]
  | K + 1 => by
    rw [S.pushAll_succ, (hpush_perm _ _).mem_iff, List.mem_append, Sys.pushAll_mem S row H r K, List.mem_singleton]
    constructor
    · rintro ((h | ⟨k, hk, e⟩) | e)
      · exact .inl h
      · exact .inr ⟨k, by omega, e⟩
      · exact .inr ⟨K, by omega, e⟩
    · rintro (h | ⟨k, hk, e⟩)
      · exact .inl (.inl h)
      · by_cases hkK : k = K
        · subst hkK; exact .inr e
        · exact .inl (.inr ⟨k, by omega, e⟩)
theorem Sys.pushAll_len (S : Sys) (row : List Int) (H : Rows) : ∀ K, (S.pushAll row K H).length = H.length + K
  | 0 => rfl
  | K + 1 => by rw [S.pushAll_succ, (hpush_perm _ _).length_eq, List.length_append, Sys.pushAll_len S row H K]; rfl
theorem Sys.pushAll_heap (S : Sys) (row : List Int) {H : Rows} (h : HeapOrd H) : ∀ K, HeapOrd (S.pushAll row K H)
  | 0 => h
  | K + 1 => by rw [S.pushAll_succ]; exact hpush_heap _ (Sys.pushAll_heap S row h K)
def Sys.left (S : Sys) (told : Rows) : Nat := ((List.range S.N).filter fun n => !(texts told).contains (S.T n)).length
structure Sys.Inv (S : Sys) (H told : Rows) : Prop where
  heap : HeapOrd H
  snd : ∀ r, r ∈ H ∨ r ∈ told → ∃ n q, n < S.N ∧ r = q :: S.T n ∧ S.P n ≤ q
  srt : Rising told
  sep : ∀ r ∈ told, ∀ r' ∈ H, lle r r'
  nd : told.Pairwise fun a b => a.tail ≠ b.tail
  clo : ∀ q t, (q :: t) ∈ told → ∀ k, k < S.K → ∃ q', ((q' :: S.sw k t) ∈ H ∨ (q' :: S.sw k t) ∈ told) ∧ q' ≤ q + S.pr k
  st : ∃ q, ((q :: S.T 0) ∈ H ∨ (q :: S.T 0) ∈ told) ∧ q ≤ 0
def Sys.mes (S : Sys) (H told : Rows) : Nat := 4 * S.left told + H.length
theorem Sys.init (S : Sys) : S.Inv [0 :: S.T 0] [] where
  heap := fun i hi hl => by simp at hl; omega
  snd := fun r hr => by
    rcases hr with hr | hr
    · exact ⟨0, 0, S.pos, List.mem_singleton.mp hr, Int.le_of_eq S.zero⟩
    · cases hr
  srt := .nil
  sep := fun r hr => by cases hr
  nd := .nil
  clo := fun q t hr => by cases hr
  st := ⟨0, .inl (.head _), Int.le_refl _⟩
theorem Sys.mes_init (S : Sys) : S.mes [0 :: S.T 0] [] ≤ 4 * S.N + 1 := by
  unfold Sys.mes Sys.left
  have := List.length_filter_le (fun n => !(texts []).contains (S.T n)) (List.range S.N)
  rw [List.length_range] at this
  simp only [List.length_singleton]
  omega
theorem mem_texts {told : Rows} {t : List Int} : t ∈ texts told ↔ ∃ r ∈ told, r.tail = t := by
  unfold texts; rw [List.mem_map]
theorem nd_eq {told : Rows} (h : told.Pairwise fun a b => a.tail ≠ b.tail) {a b : List Int} (ha : a ∈ told) (hb : b ∈ told) (e : a.tail = b.tail) : a = b := by
  induction told with
  | nil => cases ha
  | cons x l ih =>
    obtain ⟨h1, h2⟩ := List.pairwise_cons.mp h
    rcases List.mem_cons.mp ha with ea | ha
    · rcases List.mem_cons.mp hb with eb | hb
      · rw [ea, eb]
      · rw [ea] at e; exact absurd e (h1 b hb)
    · rcases List.mem_cons.mp hb with eb | hb
      · rw [eb] at e; exact absurd e.symm (h1 a ha)
      · exact ih h2 ha hb
theorem filter_lt {l : List Nat} {p q : Nat → Bool} (hpq : ∀ x ∈ l, q x = true → p x = true) {x : Nat} (hx : x ∈ l) (hp : p x = true) (hq : q x = false) : (l.filter q).length < (l.filter p).length := by
  induction l with
  | nil => cases hx
  | cons y l ih =>
    have hle : (l.filter q).length ≤ (l.filter p).length := by
      clear ih hx
      induction l with
      | nil => exact Nat.le_refl _
      | cons z l ih2 =>
        have ih3 := ih2 (fun x hx => hpq x (by rcases List.mem_cons.mp hx with rfl | h; exact .head _; exact .tail _ (.tail _ h)))
        have := hpq z (.tail _ (.head _))
        rw [List.filter_cons, List.filter_cons]
        cases hz : q z
        · cases hz2 : p z <;> simp <;> omega
        · rw [this hz]; simpa using ih3
    rw [List.filter_cons, List.filter_cons]
    rcases List.mem_cons.mp hx with rfl | hx
    · rw [hp, hq]; simp; omega
    · have ih' := ih (fun z hz => hpq z (.tail _ hz)) hx
      have := hpq y (.head _)
      cases hz : q y
      · cases hz2 : p y <;> simp <;> omega
      · rw [this hz]; simpa using ih'
section
variable {S : Sys} {H told : Rows}
theorem Sys.Inv.form (I : S.Inv H told) {r : List Int} (h : r ∈ H ∨ r ∈ told) : ∃ n q, n < S.N ∧ r = q :: S.T n ∧ S.P n ≤ q := I.snd r h
/-- a row whose text was told: dropped -/
theorem Sys.Inv.skip (I : S.Inv H told) (hne : 0 < H.length) (hin : (at' H 0).tail ∈ texts told) : S.Inv (hpop H) told ∧ S.mes (hpop H) told < S.mes H told := by
  have hp := hpop_perm hne
  have hsub : ∀ r, r ∈ hpop H → r ∈ H := fun r hr => hp.mem_iff.mpr (.tail _ hr)
  have hmem : ∀ q t, (q :: t) ∈ H ∨ (q :: t) ∈ told → ∃ q', ((q' :: t) ∈ hpop H ∨ (q' :: t) ∈ told) ∧ q' ≤ q := by
    intro q t h
    rcases h with h | h
    · rcases List.mem_cons.mp (hp.mem_iff.mp h) with e | e
      · obtain ⟨r', hr', et⟩ := mem_texts.mp hin
        rw [← e] at et
        obtain ⟨n', q', _, er', _⟩ := I.snd r' (.inr hr')
        have e2 : r' = q' :: t := by rw [er'] at et ⊢; simp at et; rw [et]
        refine ⟨q', .inr (e2 ▸ hr'), ?_⟩
        have := I.sep r' hr' (q :: t) (by rw [e]; exact at_mem hne)
        rw [e2] at this
        exact lle_tail.mp this
      · exact ⟨q, .inl e, Int.le_refl _⟩
    · exact ⟨q, .inr h, Int.le_refl _⟩
  refine ⟨⟨hpop_heap hne I.heap, fun r hr => I.snd r (hr.imp (hsub r) id), I.srt, fun r hr r' hr' => I.sep r hr r' (hsub _ hr'), I.nd, ?_, ?_⟩, ?_⟩
  · intro q t hr k hk
    obtain ⟨q', h', hle⟩ := I.clo q t hr k hk
    obtain ⟨q'', h'', hle'⟩ := hmem q' _ h'
    exact ⟨q'', h'', by omega⟩
  · obtain ⟨q', h', hle⟩ := I.st
    obtain ⟨q'', h'', hle'⟩ := hmem q' _ h'
    exact ⟨q'', h'', by omega⟩
  · have := hp.length_eq
    rw [List.length_cons] at this
    unfold Sys.mes
    omega
/-- a row whose text is new: told, its turns pushed -/
theorem Sys.Inv.tell (I : S.Inv H told) (hne : 0 < H.length) (hin : ¬ (at' H 0).tail ∈ texts told) : S.Inv (S.pushAll (at' H 0) S.K (hpop H)) (told ++ [at' H 0]) ∧ S.mes (S.pushAll (at' H 0) S.K (hpop H)) (told ++ [at' H 0]) < S.mes H told := by
  have hp := hpop_perm hne
  have hr0 : at' H 0 ∈ H := at_mem hne
  obtain ⟨n0, q0, hn0, er, hq0⟩ := I.snd _ (.inl hr0)
  have hsub : ∀ r, r ∈ hpop H → r ∈ H := fun r hr => hp.mem_iff.mpr (.tail _ hr)
  have hleast : ∀ r, r ∈ H → lle (at' H 0) r := by
    intro r hr
    obtain ⟨i, hi, e⟩ := List.mem_iff_getElem.mp hr
    rw [← e, ← at_elem hi]
    exact root_least I.heap i hi
  have hnew : ∀ k, k < S.K → (((at' H 0).headD 0 + S.pr k) :: S.sw k (at' H 0).tail) = (q0 + S.pr k) :: S.T (S.nx k n0) := by
    intro k hk
    rw [er]
    simp only [List.headD_cons, List.tail_cons]
    rw [S.nxt n0 k hn0 hk]
  have hdiff : ∀ r ∈ told, r ≠ at' H 0 := fun r hr e => hin (mem_texts.mpr ⟨r, hr, by rw [e]⟩)
  have hmem : ∀ r, r ∈ H ∨ r ∈ told → r ∈ S.pushAll (at' H 0) S.K (hpop H) ∨ r ∈ told ++ [at' H 0] := by
    intro r h
    rcases h with h | h
    · rcases List.mem_cons.mp (hp.mem_iff.mp h) with e | e
      · exact .inr (List.mem_append_right _ (by rw [e]; exact .head _))
      · exact .inl ((S.pushAll_mem _ _ _ _).mpr (.inl e))
    · exact .inr (List.mem_append_left _ h)
  refine ⟨⟨S.pushAll_heap _ (hpop_heap hne I.heap) _, ?_, ?_, ?_, ?_, ?_, ?_⟩, ?_⟩
  · intro r hr
    rcases hr with hr | hr
    · rcases (S.pushAll_mem _ _ _ _).mp hr with hr | ⟨k, hk, e⟩
      · exact I.snd r (.inl (hsub r hr))
      · refine ⟨S.nx k n0, q0 + S.pr k, S.nxl n0 k hn0 hk, by rw [e, hnew k hk], ?_⟩
        have := S.nxp n0 k hn0 hk
        omega
    · rcases List.mem_append.mp hr with hr | hr
      · exact I.snd r (.inr hr)
      · rw [List.mem_singleton.mp hr]; exact I.snd _ (.inl hr0)
  · refine List.pairwise_append.mpr ⟨I.srt, List.pairwise_singleton _ _, fun a ha b hb => ?_⟩
    rw [List.mem_singleton.mp hb]
    exact llt_of_lle_ne (I.sep a ha _ hr0) (hdiff a ha)
  · intro r hr r' hr'
    have h1 : lle r (at' H 0) := by
      rcases List.mem_append.mp hr with hr | hr
      · exact I.sep r hr _ hr0
      · rw [List.mem_singleton.mp hr]; exact lle_refl _
    refine lle_trans h1 ?_
    rcases (S.pushAll_mem _ _ _ _).mp hr' with hr' | ⟨k, hk, e⟩
    · exact hleast _ (hsub _ hr')
    · rw [e, hnew k hk, er]
      exact lle_of_llt (llt_head (by have := S.price k hk; omega))
  · refine List.pairwise_append.mpr ⟨I.nd, List.pairwise_singleton _ _, fun a ha b hb e => ?_⟩
    rw [List.mem_singleton.mp hb] at e
    exact hin (mem_texts.mpr ⟨a, ha, e⟩)
  · intro q t hr k hk
    rcases List.mem_append.mp hr with hr | hr
    · obtain ⟨q', h', hle⟩ := I.clo q t hr k hk
      exact ⟨q', hmem _ h', hle⟩
    · have e := List.mem_singleton.mp hr
      refine ⟨q + S.pr k, .inl ((S.pushAll_mem _ _ _ _).mpr (.inr ⟨k, hk, ?_⟩)), Int.le_refl _⟩
      rw [← e]; rfl
  · obtain ⟨q', h', hle⟩ := I.st
    exact ⟨q', hmem _ h', hle⟩
  · have h1 := hp.length_eq
    rw [List.length_cons] at h1
    have h2 := S.few
    have h3 : S.left (told ++ [at' H 0]) < S.left told := by
      unfold Sys.left
      refine filter_lt (x := n0) ?_ (List.mem_range.mpr hn0) ?_ ?_
      · intro x _ hx
        simp only [Bool.not_eq_true', List.contains_eq_mem, decide_eq_false_iff_not] at hx ⊢
        intro hc
        apply hx
        obtain ⟨r, hr, e⟩ := mem_texts.mp hc
        exact mem_texts.mpr ⟨r, List.mem_append_left _ hr, e⟩
      · simp only [Bool.not_eq_true', List.contains_eq_mem, decide_eq_false_iff_not]
        rw [er] at hin; exact hin
      · simp only [Bool.not_eq_false', List.contains_eq_mem, decide_eq_true_eq]
        exact mem_texts.mpr ⟨at' H 0, List.mem_append_right _ (.head _), by rw [er]; rfl⟩
    unfold Sys.mes
    rw [S.pushAll_len]
    omega
theorem Sys.Inv.done (I : S.Inv [] told) (r : List Int) : r ∈ told ↔ S.Least r := by
  have hall : ∀ n, n < S.N → ∃ q, (q :: S.T n) ∈ told ∧ q ≤ S.P n := by
    refine S.reach _ ?_ ?_
    · obtain ⟨q, h, hle⟩ := I.st
      exact ⟨q, h.resolve_left (by simp), by rw [S.zero]; exact hle⟩
    · rintro n k hn hk ⟨q, hq, hle⟩ e
      obtain ⟨q', h', hle'⟩ := I.clo q _ hq k hk
      rw [S.nxt n k hn hk] at h'
      exact ⟨q', h'.resolve_left (by simp), by omega⟩
  have hleast : ∀ r, r ∈ told → S.Least r := by
    intro r hr
    obtain ⟨n, q, hn, e, hle⟩ := I.snd r (.inr hr)
    have hmin : ∀ n', n' < S.N → S.T n' = S.T n → q ≤ S.P n' := by
      intro n' hn' et
      obtain ⟨q', hq', hle'⟩ := hall n' hn'
      have := nd_eq I.nd hr hq' (by rw [e, et]; rfl)
      rw [e] at this
      have := (List.cons.inj this).1
      omega
    have hqn : q = S.P n := by have := hmin n hn rfl; omega
    exact ⟨n, hn, by rw [e, hqn], fun n' hn' et => by have := hmin n' hn' et; omega⟩
  refine ⟨hleast r, ?_⟩
  rintro ⟨n, hn, e, hmin⟩
  obtain ⟨q, hq, hle⟩ := hall n hn
  obtain ⟨n', hn', e', hmin'⟩ := hleast _ hq
  obtain ⟨e1, e2⟩ := List.cons.inj e'
  have h1 := hmin n' hn' e2.symm
  have h2 : q = S.P n := by omega
  rw [e, ← h2]; exact hq
/-- the entries kept: the first of each text -/
def keep1 (due : Rows) (e : List Int) : Rows := if (texts due).contains e.tail then due else due ++ [e]
def keepAll (l : Rows) : Rows := l.foldl keep1 []
structure Kept (S : Sys) (pre due : Rows) : Prop where
  srt : Rising due
  nd : due.Pairwise fun a b => a.tail ≠ b.tail
  sub : ∀ e ∈ due, e ∈ pre
  cov : ∀ e ∈ pre, ∃ d ∈ due, d.tail = e.tail ∧ lle d e
theorem Kept.step {pre due : Rows} {e : List Int} (h : Kept S pre due) (hle : ∀ x ∈ pre, lle x e) : Kept S (pre ++ [e]) (keep1 due e) := by
  unfold keep1
  split
  · rename_i hc
    simp only [List.contains_eq_mem, decide_eq_true_eq] at hc
    refine ⟨h.srt, h.nd, fun x hx => List.mem_append_left _ (h.sub x hx), fun x hx => ?_⟩
    rcases List.mem_append.mp hx with hx | hx
    · exact h.cov x hx
    · rw [List.mem_singleton.mp hx]
      obtain ⟨d, hd, et⟩ := mem_texts.mp hc
      exact ⟨d, hd, et, hle d (h.sub d hd)⟩
  · rename_i hc
    simp only [List.contains_eq_mem, decide_eq_true_eq] at hc
    have hne : ∀ a ∈ due, a.tail ≠ e.tail := fun a ha et => hc (mem_texts.mpr ⟨a, ha, et⟩)
    refine ⟨List.pairwise_append.mpr ⟨h.srt, List.pairwise_singleton _ _, fun a ha b hb => ?_⟩, List.pairwise_append.mpr ⟨h.nd, List.pairwise_singleton _ _, fun a ha b hb => ?_⟩, fun x hx => ?_, fun x hx => ?_⟩
    · rw [List.mem_singleton.mp hb]
      exact llt_of_lle_ne (hle a (h.sub a ha)) (fun e' => hne a ha (by rw [e']))
    · rw [List.mem_singleton.mp hb]; exact hne a ha
    · rcases List.mem_append.mp hx with hx | hx
      · exact List.mem_append_left _ (h.sub x hx)
      · exact List.mem_append_right _ hx
    · rcases List.mem_append.mp hx with hx | hx
      · obtain ⟨d, hd, a, b⟩ := h.cov x hx
        exact ⟨d, List.mem_append_left _ hd, a, b⟩
      · rw [List.mem_singleton.mp hx]
        exact ⟨e, List.mem_append_right _ (.head _), rfl, lle_refl _⟩
theorem kept_all {l : Rows} (h : l.Pairwise lle) : Kept S l (keepAll l) := by
  suffices ∀ (post pre due : Rows), (pre ++ post).Pairwise lle → Kept S pre due → Kept S (pre ++ post) (post.foldl keep1 due) from
    this l [] [] h ⟨.nil, .nil, fun _ h => (by cases h), fun _ h => (by cases h)⟩
  intro post
  induction post with
  | nil => intro pre due _ hk; simpa using hk
  | cons e post ih =>
    intro pre due hp hk
    have hp' : ((pre ++ [e]) ++ post).Pairwise lle := by simpa using hp
    have := ih (pre ++ [e]) (keep1 due e) hp' (hk.step fun x hx => (List.pairwise_append.mp hp).2.2 x hx e (.head _))
    simpa using this
theorem kept_least {l : Rows} (h : l.Pairwise lle) (hm : ∀ r, r ∈ l ↔ ∃ n, n < S.N ∧ r = S.P n :: S.T n) (r : List Int) : r ∈ keepAll l ↔ S.Least r := by
  have K := kept_all (S := S) h
  have h1 : ∀ r, r ∈ keepAll l → S.Least r := by
    intro r hr
    obtain ⟨n, hn, e⟩ := (hm r).mp (K.sub r hr)
    refine ⟨n, hn, e, fun n' hn' et => ?_⟩
    obtain ⟨d, hd, et', hle⟩ := K.cov (S.P n' :: S.T n') ((hm _).mpr ⟨n', hn', rfl⟩)
    have := nd_eq K.nd hr hd (by rw [et', e]; exact et.symm)
    rw [← this, e, et] at hle
    exact lle_tail.mp hle
  refine ⟨h1 r, ?_⟩
  rintro ⟨n, hn, e, hmin⟩
  obtain ⟨d, hd, et, hle⟩ := K.cov r ((hm r).mpr ⟨n, hn, e⟩)
  obtain ⟨n', hn', e', hmin'⟩ := h1 d hd
  rw [e', e] at et
  simp only [List.tail_cons] at et
  rw [e', e, et] at hle
  have h3 := lle_tail.mp hle
  have h4 := hmin n' hn' et
  have : r = d := by rw [e, e', et]; congr 1; omega
  rw [this]; exact hd
theorem told_due (I : S.Inv [] told) {l : Rows} (h : l.Pairwise lle) (hm : ∀ r, r ∈ l ↔ ∃ n, n < S.N ∧ r = S.P n :: S.T n) : told = keepAll l :=
  rising_unique I.srt (kept_all (S := S) h).srt fun r => (I.done r).trans (kept_least h hm r).symm
end
end Mine
end
section
open PySem PySem.W PyProof.Rows
set_option maxRecDepth 100000
namespace Mine
def turnsOf (K n : Nat) : List Int := (List.range K).map (fun k => ((n : Int).fdiv ((2 : Int) ^ k)).fmod 2) ++ [0]
def priceOf (prs tn : List Int) : Int := (((List.range prs.length).filter fun k => tn.getD k 0 != tn.getD (k + 1) 0).map fun k => prs.getD k 0).sum
def widthsOf (szs : List Int) : List Nat := (List.range szs.length).map fun k => ((szs.take (k + 1)).foldl (· * ·) 1).toNat
def swapL (t : List Int) (w : Nat) : List Int := (List.range t.length).map fun p => t.getD (p / w * w + (w - 1 - p % w)) 0
def shapes : List (List Int) := [[2], [3], [2, 2], [2, 3], [3, 2], [3, 3], [2, 2, 1], [2, 2, 2], [2, 3, 1], [2, 3, 2], [3, 2, 1], [3, 2, 2], [3, 3, 1], [3, 3, 2]]
def lenOf (szs : List Int) : Nat := (szs.foldl (· * ·) 1).toNat
def nxOf (k n : Nat) : Nat := n ^^^ (2 ^ (k + 1) - 1)
def okShape (szs : List Int) : Bool :=
  ((List.range (lenOf szs)).all fun p => thereOf szs (turnsOf szs.length 0) (p : Int) == (p : Int)) &&
  (List.range (2 ^ szs.length)).all fun n =>
    ((List.range (lenOf szs)).all fun p => decide (0 ≤ thereOf szs (turnsOf szs.length n) (p : Int)) && decide (thereOf szs (turnsOf szs.length n) (p : Int) < (lenOf szs : Int))) &&
    (List.range szs.length).all fun k => decide (nxOf k n < 2 ^ szs.length) && ((List.range (lenOf szs)).all fun p =>
      decide (p / (widthsOf szs).getD k 0 * (widthsOf szs).getD k 0 + ((widthsOf szs).getD k 0 - 1 - p % (widthsOf szs).getD k 0) < lenOf szs) &&
      (thereOf szs (turnsOf szs.length n) ((p / (widthsOf szs).getD k 0 * (widthsOf szs).getD k 0 + ((widthsOf szs).getD k 0 - 1 - p % (widthsOf szs).getD k 0) : Nat) : Int) == thereOf szs (turnsOf szs.length (nxOf k n)) (p : Int)))
theorem shapes_ok : shapes.all okShape = true := by decide +kernel
section
variable {szs txt prs : List Int}
theorem shape_fact (hs : szs ∈ shapes) : okShape szs = true := List.all_eq_true.mp shapes_ok szs hs
theorem turned_zero (hs : szs ∈ shapes) (hl : txt.length = lenOf szs) : turned txt szs (turnsOf szs.length 0) = txt := by
  have h := (Bool.and_eq_true_iff.mp (shape_fact hs)).1
  rw [List.all_eq_true] at h
  unfold turned
  apply List.ext_getElem
  · simp
  · intro p h1 h2
    have := h p (List.mem_range.mpr (by rw [← hl]; exact h2))
    rw [beq_iff_eq] at this
    simp [this, h2]
theorem there_in (hs : szs ∈ shapes) {n : Nat} (hn : n < 2 ^ szs.length) {p : Nat} (hp : p < lenOf szs) : 0 ≤ thereOf szs (turnsOf szs.length n) p ∧ thereOf szs (turnsOf szs.length n) p < lenOf szs := by
  have h := (Bool.and_eq_true_iff.mp (shape_fact hs)).2
  rw [List.all_eq_true] at h
  have h1 := (Bool.and_eq_true_iff.mp (h n (List.mem_range.mpr hn))).1
  rw [List.all_eq_true] at h1
  have h2 := Bool.and_eq_true_iff.mp (h1 p (List.mem_range.mpr hp))
  simpa using h2
theorem turned_swap (hs : szs ∈ shapes) (hl : txt.length = lenOf szs) {n k : Nat} (hn : n < 2 ^ szs.length) (hk : k < szs.length) :
    nxOf k n < 2 ^ szs.length ∧ swapL (turned txt szs (turnsOf szs.length n)) ((widthsOf szs).getD k 0) = turned txt szs (turnsOf szs.length (nxOf k n)) := by
  have h := (Bool.and_eq_true_iff.mp (shape_fact hs)).2
  rw [List.all_eq_true] at h
  have h1 := (Bool.and_eq_true_iff.mp (h n (List.mem_range.mpr hn))).2
  rw [List.all_eq_true] at h1
  have h2 := Bool.and_eq_true_iff.mp (h1 k (List.mem_range.mpr hk))
  refine ⟨by simpa using h2.1, ?_⟩
  have h3 := h2.2
  rw [List.all_eq_true] at h3
  unfold swapL
  apply List.ext_getElem
  · simp [turned]
  · intro p a1 a2
    have hp : p < lenOf szs := by simp [turned] at a2; omega
    have h4 := Bool.and_eq_true_iff.mp (h3 p (List.mem_range.mpr hp))
    rw [decide_eq_true_eq, beq_iff_eq] at h4
    rw [List.getElem_map, List.getElem_range]
    generalize p / (widthsOf szs).getD k 0 * (widthsOf szs).getD k 0 + ((widthsOf szs).getD k 0 - 1 - p % (widthsOf szs).getD k 0) = q at h4 ⊢
    have e : ∀ c (j : Nat), j < lenOf szs → (turned txt szs c).getD j 0 = txt.getD (thereOf szs c (j : Nat)).toNat 0 := by
      intro c j hj
      unfold turned
      rw [List.getD_eq_getElem?_getD, List.getElem?_map, List.getElem?_range (by omega)]
      rfl
    rw [e _ q h4.1, h4.2, ← e _ p hp, List.getD_eq_getElem?_getD, List.getElem?_eq_getElem a2]
    rfl
end
theorem len2 {l : List Int} (h : l.length = 2) : ∃ a b, l = [a, b] := by
  match l, h with
  | [a, b], _ => exact ⟨a, b, rfl⟩
theorem len3 {l : List Int} (h : l.length = 3) : ∃ a b c, l = [a, b, c] := by
  match l, h with
  | [a, b, c], _ => exact ⟨a, b, c, rfl⟩
def dif (K n k : Nat) : Bool := (turnsOf K n).getD k 0 != (turnsOf K n).getD (k + 1) 0
theorem price1 (a : Int) (n : Nat) : priceOf [a] (turnsOf 1 n) = if dif 1 n 0 then a else 0 := by
  unfold priceOf dif
  show ((([0] : List Nat).filter _).map _).sum = _
  simp only [List.filter_cons, List.filter_nil]
  split <;> simp
theorem price2 (a b : Int) (n : Nat) : priceOf [a, b] (turnsOf 2 n) = (if dif 2 n 0 then a else 0) + if dif 2 n 1 then b else 0 := by
  unfold priceOf dif
  show ((([0, 1] : List Nat).filter _).map _).sum = _
  simp only [List.filter_cons, List.filter_nil]
  split <;> split <;> simp
theorem price3 (a b c : Int) (n : Nat) : priceOf [a, b, c] (turnsOf 3 n) = (if dif 3 n 0 then a else 0) + (if dif 3 n 1 then b else 0) + if dif 3 n 2 then c else 0 := by
  unfold priceOf dif
  show ((([0, 1, 2] : List Nat).filter _).map _).sum = _
  simp only [List.filter_cons, List.filter_nil]
  split <;> split <;> split <;> simp <;> omega
theorem dif_step : ∀ K ∈ [1, 2, 3], ∀ n ∈ List.range (2 ^ K), ∀ k ∈ List.range K, ∀ j ∈ List.range K, dif K (nxOf k n) j = (dif K n j ^^ (j == k)) := by decide +kernel
theorem price_step : ∀ {prs : List Int}, (prs.length = 1 ∨ prs.length = 2 ∨ prs.length = 3) → ∀ {n k : Nat}, n < 2 ^ prs.length → k < prs.length →
    (priceOf prs (turnsOf prs.length (nxOf k n)) = priceOf prs (turnsOf prs.length n) + (if dif prs.length n k then - prs.getD k 0 else prs.getD k 0)) := by
  intro prs h n k hn hk
  rcases h with h | h | h
  · obtain ⟨a, rfl⟩ := List.length_eq_one_iff.mp h
    simp only [List.length_singleton] at hn hk ⊢
    have e := fun j hj => dif_step 1 (by decide) n (List.mem_range.mpr hn) k (List.mem_range.mpr hk) j (List.mem_range.mpr hj)
    obtain rfl : k = 0 := by omega
    rw [price1, price1, e 0 (by omega)]
    cases dif 1 n 0 <;> simp <;> omega
  · obtain ⟨a, b, rfl⟩ := len2 h
    simp only [List.length_cons, List.length_nil] at hn hk ⊢
    have e := fun j hj => dif_step 2 (by decide) n (List.mem_range.mpr hn) k (List.mem_range.mpr hk) j (List.mem_range.mpr hj)
    show priceOf [a, b] (turnsOf 2 (nxOf k n)) = priceOf [a, b] (turnsOf 2 n) + (if dif 2 n k then _ else _)
    rw [price2, price2, e 0 (by omega), e 1 (by omega)]
    have : k = 0 ∨ k = 1 := by omega
    rcases this with rfl | rfl <;> cases dif 2 n 0 <;> cases dif 2 n 1 <;> simp <;> omega
  · obtain ⟨a, b, c, rfl⟩ := len3 h
    simp only [List.length_cons, List.length_nil] at hn hk ⊢
    have e := fun j hj => dif_step 3 (by decide) n (List.mem_range.mpr hn) k (List.mem_range.mpr hk) j (List.mem_range.mpr hj)
    show priceOf [a, b, c] (turnsOf 3 (nxOf k n)) = priceOf [a, b, c] (turnsOf 3 n) + (if dif 3 n k then _ else _)
    rw [price3, price3, e 0 (by omega), e 1 (by omega), e 2 (by omega)]
    have : k = 0 ∨ k = 1 ∨ k = 2 := by omega
    rcases this with rfl | rfl | rfl <;> cases dif 3 n 0 <;> cases dif 3 n 1 <;> cases dif 3 n 2 <;> simp <;> omega
theorem reach_all {K : Nat} (hK : K = 1 ∨ K = 2 ∨ K = 3) (Pr : Nat → Prop) (h0 : Pr 0) (h : ∀ n k, n < 2 ^ K → k < K → Pr n → dif K n k = false → Pr (nxOf k n)) : ∀ n, n < 2 ^ K → Pr n := by
  intro n hn
  rcases hK with rfl | rfl | rfl
  · have a1 : Pr 1 := h 0 0 (by decide) (by decide) h0 (by decide +kernel)
    have : n = 0 ∨ n = 1 := by omega
    rcases this with rfl | rfl <;> assumption
  · have a1 : Pr 1 := h 0 0 (by decide) (by decide) h0 (by decide +kernel)
    have a3 : Pr 3 := h 0 1 (by decide) (by decide) h0 (by decide +kernel)
    have a2 : Pr 2 := h 3 0 (by decide) (by decide) a3 (by decide +kernel)
    have : n = 0 ∨ n = 1 ∨ n = 2 ∨ n = 3 := by omega
    rcases this with rfl | rfl | rfl | rfl <;> assumption
  · have a1 : Pr 1 := h 0 0 (by decide) (by decide) h0 (by decide +kernel)
    have a3 : Pr 3 := h 0 1 (by decide) (by decide) h0 (by decide +kernel)
    have a7 : Pr 7 := h 0 2 (by decide) (by decide) h0 (by decide +kernel)
    have a2 : Pr 2 := h 3 0 (by decide) (by decide) a3 (by decide +kernel)
    have a6 : Pr 6 := h 7 0 (by decide) (by decide) a7 (by decide +kernel)
    have a4 : Pr 4 := h 7 1 (by decide) (by decide) a7 (by decide +kernel)
    have a5 : Pr 5 := h 4 0 (by decide) (by decide) a4 (by decide +kernel)
    have : n = 0 ∨ n = 1 ∨ n = 2 ∨ n = 3 ∨ n = 4 ∨ n = 5 ∨ n = 6 ∨ n = 7 := by omega
    rcases this with rfl | rfl | rfl | rfl | rfl | rfl | rfl | rfl <;> assumption
theorem shape_len {szs : List Int} (hs : szs ∈ shapes) : szs.length = 1 ∨ szs.length = 2 ∨ szs.length = 3 := by
  have : ∀ z ∈ shapes, z.length = 1 ∨ z.length = 2 ∨ z.length = 3 := by decide +kernel
  exact this szs hs
/-- the system of one script -/
def sysOf (szs txt prs : List Int) (hs : szs ∈ shapes) (hl : txt.length = lenOf szs) (hp : prs.length = szs.length) (hpr : ∀ x ∈ prs, 1 ≤ x) : Sys where
  N := 2 ^ szs.length
  K := szs.length
  T := fun n => turned txt szs (turnsOf szs.length n)
  P := fun n => priceOf prs (turnsOf szs.length n)
  sw := fun k t => swapL t ((widthsOf szs).getD k 0)
  pr := fun k => prs.getD k 0
  nx := nxOf
  pos := Nat.two_pow_pos _
  zero := by
    have h := shape_len hs
    rw [← hp] at h ⊢
    rcases h with h | h | h
    · obtain ⟨a, rfl⟩ := List.length_eq_one_iff.mp h
      exact (price1 a 0).trans (by rw [show dif 1 0 0 = false by decide +kernel]; rfl)
    · obtain ⟨a, b, rfl⟩ := len2 h
      exact (price2 a b 0).trans (by rw [show dif 2 0 0 = false by decide +kernel, show dif 2 0 1 = false by decide +kernel]; rfl)
    · obtain ⟨a, b, c, rfl⟩ := len3 h
      exact (price3 a b c 0).trans (by rw [show dif 3 0 0 = false by decide +kernel, show dif 3 0 1 = false by decide +kernel, show dif 3 0 2 = false by decide +kernel]; rfl)
  price := fun k hk => by
    refine hpr _ ?_
    rw [List.getD_eq_getElem?_getD, List.getElem?_eq_getElem (by omega)]
    exact List.getElem_mem _
  nxl := fun n k hn hk => (turned_swap hs hl hn hk).1
  nxt := fun n k hn hk => (turned_swap hs hl hn hk).2
  nxp := fun n k hn hk => by
    have h := shape_len hs
    have hk1 : 1 ≤ prs.getD k 0 := hpr _ (by rw [List.getD_eq_getElem?_getD, List.getElem?_eq_getElem (by omega)]; exact List.getElem_mem _)
    rw [← hp] at h hn hk ⊢
    rw [price_step h hn hk]
    split <;> omega
  reach := fun Pr h0 h n hn => reach_all (shape_len hs) Pr h0 (fun n k hn hk hPr hd => h n k hn hk hPr (by
    have h' := shape_len hs
    rw [← hp] at h' hn hk hd ⊢
    rw [price_step h' hn hk, hd]; rfl)) n hn
  few := by rcases shape_len hs with h | h | h <;> omega
end Mine
end
section
open PySem PySem.W PyProof.Rows PySem.Calls
set_option maxRecDepth 100000
set_option maxHeartbeats 1000000
namespace Mine
section
variable {prog : Program} {w : World} {A : Around} {s : Shared} {K : Frag} {mg mb : Str → Option Value} {p : Program} {loose : List Str} {mean : ExcName → Option Value}
/-- a def with cells entered, from the caller of the claim, in the clean logic -/
theorem codeC_defC {R : Flow → Shared → Prop} {name qual : Str} {params : Arguments} {body : List Stmt} {scope : Scope} {dV kV doc pm cdv ct oc : Value} {an od : Option Addr} {osl : Array (Option Value)} {f : Addr} {args : Args} {binds : List (Str × Value)}
    (X₀ : K.In s.heap) (T : Top p loose mean mg mb s.heap) (hroom : A.depth < recursionLimit)
    (ho : K.lookup f = some ⟨oc, od, .func (fnOf name qual params body scope dV kV doc pm an cdv ct), osl⟩) (hcd : codeIn K cdv qual = true)
    (hbind : BindsTo s (fnOf name qual params body scope dV kV doc pm an cdv ct) args binds) (hkind : (binds.all fun y => scope.names.lookup y.1 == some .local || scope.names.lookup y.1 == some .cell) = true)
    (hnd : ((cellsFrom 0 scope.names []).map (·.1)).Nodup)
    (h : ∀ L h₁ tk cells, Fr s.heap L h₁ (bindL (envOfC qual scope L f cdv).kindOf binds fun _ => none) → News s.heap L h₁ cells →
      CellsAre (bindC (envOfC qual scope L f cdv).kindOf binds fun _ => none) (cellsFrom (L + 1) scope.names []) cells →
      wpC (model prog w) (A.deeper (envOfC qual scope L f cdv)) (execs body (envOfC qual scope L f cdv)) (fun fl s' => R (.ret (match fl with | .ret v => v | _ => .none)) s') { s with heap := h₁, toks := tk })
    (hco : scope.isCoroutine = false) (hgen : scope.isGenerator = false) (hk : scope.kind = .function) : codeC (model prog w) A (.call (.ref f) args) R s := by
  refine codeC_call_function (fd := fnOf name qual params body scope dV kV doc pm an cdv ct) (body := body) hroom (X₀ _ _ ho) rfl hco hgen rfl (codeRec_of X₀ hcd) (hbind _ _ _ _ ?_)
  refine wpAny_newFunctionEnv_cells hk (kindsX hkind _) fun env' he s' x => ?_
  subst he
  refine ⟨T.nolimit.keeps x.toInCall.keep, codeC_func ?_⟩
  obtain ⟨h₁, tk, rfl, _⟩ := x.done
  obtain ⟨cells, NC, Y⟩ := PyProof.Rows.Cl.news (h₀ := s.heap) (Nat.le_refl _) fun n c hm => ⟨x.cell n c (lookup_of_mem_nodup (cellsFrom_names scope.names 0 (s.heap.objs.size + 1) [] [] rfl ▸ hnd) hm), x.above n c hm⟩
  exact h s.heap.objs.size h₁ tk cells ⟨x.toInCall.ns, x.toInCall.keep, x.toInCall.fresh⟩ NC Y
end
section
variable {prog : Program} {w : World} {A : Around} {E : Value → Shared → Prop} {s : Shared} {h₀ : Heap} {L : Addr} {news : List (Addr × Obj)} {value slice : PySem.Expr} {a : Addr} {l : List Value} {ns : List Int} {n : Nat} {k : Int} {u : Tok} {Q : Value → Shared → Prop}
/-- an item of a list of ints in the ledger -/
theorem kim_ints (N : News h₀ L s.heap news) (hm : (a, PySem.W.listOf l.toArray n) ∈ news) (hI : IntsAre l ns) (h0 : 0 ≤ k) (h1 : k < ns.length) (hz : ns.length < 2 ^ 40) (h : ∀ t, Q (.int (ns.getD k.toNat 0) t) s)
    (hs : subscripted slice false (.ref a) (.int k u) = operate [.ref a, .int k u] (getItem (.ref a) (.int k u)) := by with_unfolding_all rfl) :
    wpAny (model prog w) A (subscriptTail value slice (.ref a) (.int k u)) Q E s := by
  obtain ⟨t, e⟩ := mem_at hI (i := k.toNat) (by omega)
  exact kba_turn (value' := PySem.Expr.Name (PySem.Str.ofString "_") ⟨0, 0, 0, 0⟩) (fun _ => rfl) (kim_list N hm rfl rfl h0 (by omega) e (h t) hs (fun _ => rfl))
end
end Mine
end
section
open PySem PySem.W PyProof.Rows PySem.Calls
set_option maxRecDepth 100000
namespace Mine
def szsOf (hds : List Int) : List Int := (rangeKs 0 hds.length).map fun k => ([2, 2, 1] : List Int).getD k.toNat 0 + (hds.getD k.toNat 0).fmod 2
def prsOf (hds : List Int) : List Int := hds.map fun x => 1 + ((x.fdiv 2).natAbs : Int)
def wIntsOf (l : List Int) : List Int := (List.range l.length).map fun k => (l.take (k + 1)).foldl (· * ·) 1
theorem szsOf_len (hds : List Int) : (szsOf hds).length = hds.length := by simp [szsOf, rangeKs_length]
theorem szsOf_shape {hds : List Int} (h : 1 ≤ hds.length ∧ hds.length ≤ 3) : szsOf hds ∈ shapes := by
  have f2 : ∀ a : Int, a.fmod 2 = 0 ∨ a.fmod 2 = 1 := fun a => by
    have h1 := Int.fmod_nonneg_of_pos a (show (0 : Int) < 2 by decide)
    have h2 := Int.fmod_lt_of_pos a (show (0 : Int) < 2 by decide)
    omega
  match hds, h with
  | [a], _ =>
    show [(2 : Int) + a.fmod 2] ∈ shapes
    rcases f2 a with e | e <;> rw [e] <;> decide
  | [a, b], _ =>
    show [(2 : Int) + a.fmod 2, 2 + b.fmod 2] ∈ shapes
    rcases f2 a with e | e <;> rcases f2 b with e' | e' <;> rw [e, e'] <;> decide
  | [a, b, c], _ =>
    show [(2 : Int) + a.fmod 2, 2 + b.fmod 2, 1 + c.fmod 2] ∈ shapes
    rcases f2 a with e | e <;> rcases f2 b with e' | e' <;> rcases f2 c with e'' | e'' <;> rw [e, e', e''] <;> decide
theorem shape_item {szs : List Int} (h : szs ∈ shapes) : ∀ z ∈ szs, 1 ≤ z ∧ z ≤ 3 := by
  have : ∀ l ∈ shapes, ∀ z ∈ l, 1 ≤ z ∧ z ≤ 3 := by decide +kernel
  exact this szs h
theorem prod_snoc (l : List Int) (n : Int) : (l ++ [n]).foldl (· * ·) 1 = l.foldl (· * ·) 1 * n := by rw [List.foldl_append]; rfl
theorem wInts_snoc (l : List Int) (n : Int) : wIntsOf (l ++ [n]) = wIntsOf l ++ [(l ++ [n]).foldl (· * ·) 1] := by
  unfold wIntsOf
  rw [List.length_append, List.length_singleton, List.range_succ, List.map_append]
  congr 1
  · refine List.map_congr_left fun k hk => ?_
    rw [List.mem_range] at hk
    rw [List.take_append_of_le_length (by omega)]
  · simp only [List.map_cons, List.map_nil]
    rw [List.take_of_length_le (by simp)]
theorem prod_bound : ∀ {l : List Int}, (∀ z ∈ l, 1 ≤ z ∧ z ≤ 3) → 1 ≤ l.foldl (· * ·) 1 ∧ l.foldl (· * ·) 1 ≤ 3 ^ l.length := by
  intro l
  suffices ∀ a : Int, 1 ≤ a → (∀ z ∈ l, 1 ≤ z ∧ z ≤ 3) → 1 ≤ l.foldl (· * ·) a ∧ l.foldl (· * ·) a ≤ a * 3 ^ l.length from fun h => by
    have := this 1 (by decide) h
    rwa [Int.one_mul] at this
  induction l with
  | nil => intro a ha _; simp; exact ha
  | cons z l ih =>
    intro a ha h
    have hz := h z (.head _)
    have h1 : 1 ≤ a * z := by have := Int.mul_le_mul ha hz.1 (by decide) (by omega); omega
    have := ih (a * z) h1 (fun y hy => h y (.tail _ hy))
    refine ⟨this.1, Int.le_trans this.2 ?_⟩
    rw [List.length_cons, Int.pow_succ, Int.mul_comm ((3 : Int) ^ l.length) 3, ← Int.mul_assoc]
    refine Int.mul_le_mul_of_nonneg_right (Int.mul_le_mul_of_nonneg_left hz.2 (by omega)) ?_
    have : (0 : Int) < 3 ^ l.length := Int.pow_pos (by decide)
    omega
theorem split_news {g h : Heap} {L : Addr} {a : Addr × Obj} {t : List (Addr × Obj)} (N : News g L h (a :: t)) : ∃ tl, t = tl ∧ News g L h (a :: tl) := ⟨t, rfl, N⟩
theorem split_news' {g h : Heap} {L a : Addr} {o : Obj} {t : List (Addr × Obj)} (N : News g L h ((a, o) :: t)) : ∃ a' tl, a' = a ∧ t = tl ∧ News g L h ((a', o) :: tl) := ⟨a, t, rfl, rfl, N⟩
theorem lawA (qual : Str) (scope : Scope) (L f : Addr) (cdv : Value) : callerA.deeper (envOfC qual scope L f cdv) = ktrTop (callerA.depth + 1) (callerA.units + 3) callerA.guards qual scope L f cdv (cellsFrom (L + 1) scope.names []) [] := rfl
theorem with_law {G : Prop} {K : Frag} {f : Addr} {oc : Value} {od : Option Addr} {osl : Array (Option Value)} {name qual : Str} {params : Arguments} {body : List Stmt} {scope : Scope} {dV kV doc pm cdv ct : Value} {an : Option Addr}
    (ho : K.lookup f = some ⟨oc, od, .func (fnOf name qual params body scope dV kV doc pm an cdv ct), osl⟩) (k : K.lookup f = some ⟨oc, od, .func (fnOf name qual params body scope dV kV doc pm an cdv ct), osl⟩ → G) : G := k ho
theorem fr_put {g h : Heap} {L : Addr} {m : Str → Option Value} (x : Str) (v : Value) (F : Fr g L h m) (hx : m x = some v) : Fr g L h (fun y => if y = x then some v else m y) := by
  have e : (fun y => if y = x then some v else m y) = m := by
    funext y
    split
    · rename_i e; rw [e, hx]
    · rfl
  rw [e]; exact F
end Mine
end
section
open PySem PySem.W PyProof.Rows PySem.Calls PySem.SeqAt
set_option maxRecDepth 100000
set_option maxHeartbeats 1000000
namespace Mine
def rowD (r : List Int) : PyData := .list (r.map .int)
theorem lay_ints : ∀ r : List Int, PyData.canLayAll0 (r.map .int) = true
  | [] => rfl
  | x :: r => by show (PyData.canLay0 (.int x) && PyData.canLayAll0 (r.map .int)) = true; rw [lay_ints r]; rfl
theorem lay_rows : ∀ rs : Rows, PyData.canLayAll0 (rs.map rowD) = true
  | [] => rfl
  | r :: rs => by show (PyData.canLay0 (rowD r) && PyData.canLayAll0 (rs.map rowD)) = true; rw [lay_rows rs]; show (PyData.canLayAll0 (r.map .int) && true) = true; rw [lay_ints r]; rfl
theorem eqv_ints : ∀ r q : List Int, PyData.eqvAll (r.map .int) (q.map .int) = decide (r = q)
  | [], [] => rfl
  | [], _ :: _ => rfl
  | _ :: _, [] => rfl
  | x :: r, y :: q => by
    show (PyData.eqv (.int x) (.int y) && PyData.eqvAll (r.map .int) (q.map .int)) = _
    rw [eqv_ints r q]
    show ((x == y) && decide (r = q)) = _
    by_cases h1 : x = y <;> by_cases h2 : r = q <;> simp [h1, h2]
theorem eqv_row (r q : List Int) : PyData.eqv (rowD r) (rowD q) = decide (r = q) := eqv_ints r q
theorem eqv_rows : ∀ rs qs : Rows, PyData.eqvAll (rs.map rowD) (qs.map rowD) = decide (rs = qs)
  | [], [] => rfl
  | [], _ :: _ => rfl
  | _ :: _, [] => rfl
  | r :: rs, q :: qs => by
    show (PyData.eqv (rowD r) (rowD q) && PyData.eqvAll (rs.map rowD) (qs.map rowD)) = _
    rw [eqv_rows rs qs, eqv_row]
    by_cases h1 : r = q <;> by_cases h2 : rs = qs <;> simp [h1, h2]
theorem depth_ints : ∀ r : List Int, PyData.depthAll (r.map .int) ≤ 1
  | [] => by first | decide | (show (0 : Nat) ≤ 1; decide)
  | x :: r => by
    have := depth_ints r
    show max (PyData.depth (.int x)) (PyData.depthAll (r.map .int)) ≤ 1
    have h1 : PyData.depth (.int x) ≤ 1 := by first | decide | (show (0 : Nat) ≤ 1; decide) | (show (1 : Nat) ≤ 1; decide)
    omega
theorem depth_row (r : List Int) : PyData.depth (rowD r) ≤ 2 := by
  have := depth_ints r
  show PyData.depthAll (r.map .int) + 1 ≤ 2
  omega
theorem depth_rows : ∀ rs : Rows, PyData.depthAll (rs.map rowD) ≤ 2
  | [] => by first | decide | (show (0 : Nat) ≤ 2; decide)
  | r :: rs => by
    have := depth_rows rs
    have h1 := depth_row r
    show max (PyData.depth (rowD r)) (PyData.depthAll (rs.map rowD)) ≤ 2
    omega
section
variable {prog : Program} {w : World} {A : Around} {E : Value → Shared → Prop} {s : Shared} {h₀ : Heap} {L : Addr} {m : Str → Option Value} {news fro : List (Addr × Obj)}
theorem row_reads {v : Value} {r : List Int} (N : News h₀ L s.heap news) (hsub : ∀ p ∈ fro, p ∈ news) (R : RowIn fro v r) : ∃ as, Reads s.heap v (rowD r) as := by
  obtain ⟨a, vs, n, rfl, hm, hI⟩ := R
  exact ⟨_, .list (N _ (hsub _ hm)).1 rfl rfl (hI.reads _)⟩
theorem rows_reads (N : News h₀ L s.heap news) (hsub : ∀ p ∈ fro, p ∈ news) {W : Nat} : ∀ {vs : List Value} {rs : Rows}, RowsIn W fro vs rs → ∃ as, ReadsAll s.heap vs (rs.map rowD) as
  | [], [], _ => ⟨_, .nil⟩
  | [], _ :: _, R => by have := R.1; simp at this
  | _ :: _, [], R => by have := R.1; simp at this
  | v :: vs, r :: rs, R => by
    obtain ⟨as, h1⟩ := row_reads N hsub (R.2 0 v r rfl rfl).1
    obtain ⟨bs, h2⟩ := rows_reads N hsub (vs := vs) (rs := rs) (W := W) ⟨by have := R.1; simpa using this, fun i v' r' a b => R.2 (i + 1) v' r' (by simpa using a) (by simpa using b)⟩
    exact ⟨_, .cons h1 h2⟩
theorem ints_same : ∀ {us : List Value} {r t : List Int}, IntsAre us r → IntsAre us t → r = t
  | _, _, _, .nil, .nil => rfl
  | _, _, _, .cons k t h, .cons _ _ h' => by rw [ints_same h h']
/-- a text asked of a list of texts -/
theorem not_in {SA : Addr} {ev : List Value} {ts : Rows} {n W : Nat} {v : Value} {t : List Int} {Q : Value → Shared → Prop} (N : News h₀ L s.heap news) (hS : (SA, listOf ev.toArray n) ∈ news) (hsub : ∀ p ∈ fro, p ∈ news) (R : RowsIn W fro ev ts) (hv : RowIn news v t) (hu : A.in1.units + 4 < cLine)
    (h : Q (.bool (!ts.contains t)) s) : wpAny (model prog w) A (compareOp .NotIn v (.ref SA)) Q E s := by
  classical
  obtain ⟨as, rd⟩ := row_reads N (fun _ h => h) hv
  let P : Value → Prop := fun y => ∃ (a : Addr) (us : List Value) (k : Nat), y = .ref a ∧ s.heap.get? a = some (listOf us.toArray k) ∧ IntsAre us t
  have key : ∀ (i : Nat) (y : Value) (r : List Int), ev[i]? = some y → ts[i]? = some r → (P y ↔ r = t) := by
    intro i y r h1 h2
    obtain ⟨⟨a, us, k, e, hm, hI⟩, _⟩ := R.2 i y r h1 h2
    constructor
    · rintro ⟨a', us', k', e', hg, hI'⟩
      rw [e] at e'
      cases e'
      have := (N _ (hsub _ hm)).1
      rw [hg] at this
      have e3 := Option.some.inj this
      have e4 : us' = us := by
        have e5 := congrArg Obj.data e3
        simpa [PySem.W.listOf] using (Data.seq.inj e5).1
      rw [e4] at hI'
      exact ints_same hI hI'
    · rintro rfl
      exact ⟨a, us, k, e, (N _ (hsub _ hm)).1, hI⟩
  refine notIn_listAt (fun y => decide (P y)) (PySem.IsL.isList (n := n) (N _ hS).1) (fun y hy => ?_) ?_
  · obtain ⟨i, hi, e⟩ := List.mem_iff_getElem.mp (show y ∈ ev by simpa using hy)
    have h1 : ev[i]? = some y := by rw [List.getElem?_eq_getElem hi, e]
    have hi2 : i < ts.length := by rw [← R.1]; exact hi
    have h2 : ts[i]? = some ts[i] := List.getElem?_eq_getElem hi2
    obtain ⟨bs, rd2⟩ := row_reads N hsub (R.2 i y _ h1 h2).1
    have := eqAt_reads (rowD ts[i]) (rowD t) A.in1 s y v bs as rd2 rd (lay_ints _) (lay_ints _) (by have := depth_row ts[i]; omega)
    rw [eqv_row] at this
    have e5 : decide (P y) = decide (ts[i] = t) := decide_eq_decide.mpr (key i y _ h1 h2)
    rw [e5]
    exact this
  · have e6 : (ev.toArray.any fun y => decide (P y)) = ts.contains t := by
      rw [Bool.eq_iff_iff]
      simp only [List.any_toArray, List.any_eq_true, decide_eq_true_eq, List.contains_eq_mem]
      constructor
      · rintro ⟨y, hy, hP⟩
        obtain ⟨i, hi, e⟩ := List.mem_iff_getElem.mp hy
        have hi2 : i < ts.length := by rw [← R.1]; exact hi
        have := (key i y ts[i] (by rw [List.getElem?_eq_getElem hi, e]) (List.getElem?_eq_getElem hi2)).mp hP
        rw [← this]; exact List.getElem_mem hi2
      · intro ht
        obtain ⟨i, hi, e⟩ := List.mem_iff_getElem.mp ht
        have hi2 : i < ev.length := by rw [R.1]; exact hi
        exact ⟨ev[i], List.getElem_mem hi2, (key i _ ts[i] (List.getElem?_eq_getElem hi2) (List.getElem?_eq_getElem hi)).mpr e⟩
    rw [e6]; exact h
theorem eq_rows {TA DA : Addr} {tv dv : List Value} {told due : Rows} {n k W : Nat} {Q : Value → Shared → Prop} (N : News h₀ L s.heap news) (hT : (TA, listOf tv.toArray n) ∈ news) (hD : (DA, listOf dv.toArray k) ∈ news) (hsub : ∀ p ∈ fro, p ∈ news)
    (R1 : RowsIn W fro tv told) (R2 : RowsIn W fro dv due) (hu : A.units + 4 < cLine) (h : Q (.bool (decide (told = due))) s) : wpAny (model prog w) A (compareOp .Eq (.ref TA) (.ref DA)) Q E s := by
  obtain ⟨as, h1⟩ := rows_reads N hsub R1
  obtain ⟨bs, h2⟩ := rows_reads N hsub R2
  refine compareEq_reads (da := .list (told.map rowD)) (db := .list (due.map rowD)) (.list (N _ hT).1 rfl rfl h1) (.list (N _ hD).1 rfl rfl h2) (lay_rows told) (lay_rows due) ?_ ?_
  · have := depth_rows told
    have e : PyData.depth (.list (told.map rowD)) = PyData.depthAll (told.map rowD) + 1 := rfl
    omega
  · rw [show PyData.eqv (.list (told.map rowD)) (.list (due.map rowD)) = decide (told = due) from eqv_rows told due]
    exact h
/-- row[1:] -/
theorem slice1 {value slice : PySem.Expr} {a : Addr} {vs : List Value} {r : List Int} {n : Nat} {t : Tok} {Q : Value → Shared → Prop} (F : Fr h₀ L s.heap m) (N : News h₀ L s.heap news) (hm : (a, listOf vs.toArray n) ∈ news) (hI : IntsAre vs r) (hz : r.length ≤ 2 ^ 20)
    (h : ∀ D ws h', Fr h₀ L h' m → News h₀ L h' ((D, listOf (List.toArray ws) 0) :: news) → (∀ p ∈ news, p.1 < D) → IntsAre ws (r.drop 1) → Q (.ref D) { s with heap := h' })
    (hs : subscripted slice false (.ref a) (.ref s.heap.objs.size) = operate [.ref s.heap.objs.size, .ref a] (getItem (.ref a) (.ref s.heap.objs.size)) := by with_unfolding_all rfl) (ht : ∀ r, letTemporaryGo value (.ref a) r = pure () := by intro _; with_unfolding_all rfl) :
    wpAny (model prog w) A (subscriptTail value slice (.ref a) (.ref s.heap.objs.size)) Q E { s with heap := s.heap.push { cls := .type "slice", data := .fields #[.int 1 t, .none, .none] } } :=
  kmk_slice_ints (lo := some 1) (hi := none) F N (PySem.IsL.isList (n := n) (N _ hm).1) (by constructor) (by constructor) hI (kmk_from hI (by decide)) rfl (fun D ws h' F' N' l1 hI' _ _ => h D ws h' F' N' l1 hI') hs ht (by rw [List.size_toArray, hI.length, sizeLine_eq]; omega)
end
theorem fr_std {g h : Heap} {L : Addr} {m : Str → Option Value} {TA SA HA TX WA SZ : Addr} (F : Fr g L h m) (h1 : m (Str.ofString "told") = some (.ref TA)) (h2 : m (Str.ofString "seen") = some (.ref SA)) (h3 : m (Str.ofString "heap") = some (.ref HA))
    (h4 : m (Str.ofString "text") = some (.ref TX)) (h5 : m (Str.ofString "widths") = some (.ref WA)) (h6 : m (Str.ofString "sizes") = some (.ref SZ)) :
    Fr g L h (fun y => if y = Str.ofString "told" then some (.ref TA) else if y = Str.ofString "seen" then some (.ref SA) else if y = Str.ofString "heap" then some (.ref HA) else if y = Str.ofString "text" then some (.ref TX) else
      if y = Str.ofString "widths" then some (.ref WA) else if y = Str.ofString "sizes" then some (.ref SZ) else m y) := by
  have e : (fun y => if y = Str.ofString "told" then some (.ref TA) else if y = Str.ofString "seen" then some (.ref SA) else if y = Str.ofString "heap" then some (.ref HA) else if y = Str.ofString "text" then some (.ref TX) else
      if y = Str.ofString "widths" then some (.ref WA) else if y = Str.ofString "sizes" then some (.ref SZ) else m y) = m := by
    funext y
    repeat' split
    all_goals (first | rfl | (subst_vars; simp only [h1, h2, h3, h4, h5, h6]))
  rw [e]; exact F
end Mine
end
section
open PySem PySem.W PyProof.Rows PySem.Calls
set_option maxRecDepth 100000
set_option maxHeartbeats 1000000
namespace Mine
section
variable {prog : Program} {w : World} {A : Around} {s : Shared} {h₀ : Heap}
/-- a for over range(n), in the clean logic, with a growing ledger -/
theorem forC {cn : Str} {cs : Scope} {L a : Addr} {ccd : Value} {cl : List (Str × Addr)} {x : Str} {px : Pos} {body : List Stmt} {Q : Flow → Shared → Prop} {r : Addr} {n : Nat} {t₀ u₀ v₀ : Tok} {m₀ : Str → Option Value} {news₀ : List (Addr × Obj)}
    (J : Nat → (Str → Option Value) → List (Addr × Obj) → Prop) (hh : A.handled = none) (hr : IsRange s.heap r 0 (n : Int) 1 t₀ u₀ v₀) (hn : n < 2 ^ 60) (F : Fr h₀ L s.heap m₀) (N : News h₀ L s.heap news₀) (hj : J 0 m₀ news₀)
    (turn : ∀ i t m news h tk I oI, i < n → J i m news → (∀ p ∈ news, p.1 ≠ I) → Fr h₀ L h (fun y => if y = x then some (.int (i : Nat) t) else m y) → News h₀ L h ((I, oI) :: news) →
      wpC (model prog w) A (execs body (envX cn cs L a ccd cl)) (fun f s' => f = .next ∧ ∃ m' news' h' tk', s' = { s with heap := h', toks := tk' } ∧ Fr h₀ L h' m' ∧ News h₀ L h' ((I, oI) :: news') ∧ (∀ p ∈ news', p.1 ≠ I) ∧ J (i + 1) m' news') { s with heap := h, toks := tk })
    (done : ∀ m news h tk, J n m news → Fr h₀ L h m → News h₀ L h news → Q .next { s with heap := h, toks := tk })
    (hk : cs.kind = .function := by rfl) (hx : (envX cn cs L a ccd cl).kindOf x = some .local := by rfl) :
    wpAny (model prog w) A (pyIter (.ref r)) (fun it s₂ => codeC (model prog w) A (.forLoop (.Name x px) it body [] (envX cn cs L a ccd cl)) Q s₂) (fun _ _ => False) s := by
  refine wpAny_pyIter_range hr (sm_up hn) ?_
  obtain ⟨I, eI⟩ : ∃ I, I = s.heap.objs.size := ⟨_, rfl⟩
  rw [← eI, rs_up]
  have hIL : I ≠ L := by rw [eI]; exact Nat.ne_of_gt F.ns.lt
  have hI0 : h₀.get? I = none := by
    cases hq : h₀.get? I with
    | none => rfl
    | some o => rw [eI] at hq; exact absurd (Heap.lt_size (F.keep _ _ hq)) (Nat.lt_irrefl _)
  refine codeC_forLoop (fun k s' => ∃ (i : Nat) (m : Str → Option Value) (news : List (Addr × Obj)) (h : Heap) (tk : Nat), k + i = n ∧ s' = { s with heap := h, toks := tk } ∧ Fr h₀ L h m ∧ News h₀ L h news ∧ (∀ p ∈ news, p.1 ≠ I) ∧ IsRangeIter h I (i : Int) ((n : Int) - (i : Int)) 1 ∧ J i m news) ?_ n ?_
  · rintro k s' ⟨i, m, news, h, tk, hki, rfl, F1, N1, hoff, hit, hJ⟩
    rcases Nat.eq_zero_or_pos k with hk0 | hk0
    · have hin : i = n := by omega
      subst hin
      refine wpAny_pyNext_range_end hh hit (by omega) (fun h' he => ?_)
      obtain ⟨oL, a1, a2, hLg, a3⟩ := F1.ns
      exact done m news h' tk hJ ⟨⟨oL, a1, a2, he _ _ (Ne.symm hIL) hLg, a3⟩, fun b o e => he b o (fun q => by rw [q, hI0] at e; cases e) (F1.keep b o e), F1.above⟩
        (fun p hp => ⟨he _ _ (hoff p hp) (N1 p hp).1, (N1 p hp).2⟩)
    · refine wpAny_pyNext_range_item hit (by omega) (fun h' hit' hs' => ?_)
      refine wpAny_assign_Name (storeX_L (h₀ := h₀) (news := (I, { cls := .type "range_iterator", data := .fields #[rawInt ((i : Int) + 1), rawInt ((n : Int) - (i : Int) - 1), rawInt 1] }) :: news) (F1.change hs' hIL hI0) (fun p hp => ?_) (fun h2 F2 N2 => ?_) hk hx)
      · rcases List.mem_cons.mp hp with rfl | hp
        · exact ⟨hit', hIL, hI0⟩
        · exact ⟨hs'.extBut _ _ (hoff p hp) (N1 p hp).1, (N1 p hp).2⟩
      · refine wpC_mono (turn i _ m news h2 _ I _ (by omega) hJ hoff F2 N2) (fun f s3 hf => ?_)
        obtain ⟨rfl, m', news', h3, tk3, rfl, F3, N3, hoff3, hJ3⟩ := hf
        refine ⟨k - 1, by omega, i + 1, m', news', h3, tk3, by omega, rfl, F3, fun p hp => N3 p (List.Mem.tail _ hp), hoff3, ?_, hJ3⟩
        have := (N3 _ (List.Mem.head _)).1
        show IsRangeIter _ _ _ _ _
        have e1 : (((i + 1 : Nat) : Int)) = (i : Int) + 1 := by push_cast; rfl
        have e2 : (n : Int) - ((i + 1 : Nat) : Int) = (n : Int) - (i : Int) - 1 := by push_cast; omega
        rw [e1, show (n : Int) - ((i : Int) + 1) = (n : Int) - (i : Int) - 1 by omega]
        exact this
  · refine ⟨0, m₀, news₀, _, _, by omega, rfl, F.push _, fun p hp => ⟨Heap.get?_push_of_some _ (N p hp).1, (N p hp).2⟩, fun p hp => ?_, ?_, hj⟩
    · rw [eI]; exact Nat.ne_of_lt (Heap.lt_size (N p hp).1)
    · have := Heap.get?_push_size s.heap (o := { cls := .type "range_iterator", data := .fields #[rawInt 0, rawInt (n : Int), rawInt 1] }) rfl
      rw [← eI] at this
      simpa [IsRangeIter] using this
end
theorem rowIn_sub {fro fro' : List (Addr × Obj)} {v : Value} {r : List Int} (R : RowIn fro v r) (h : ∀ p ∈ fro, p ∈ fro') : RowIn fro' v r := by
  obtain ⟨a, us, k, e, hm, hI⟩ := R
  exact ⟨a, us, k, e, h _ hm, hI⟩
theorem rowsIn_sub {W : Nat} {fro fro' : List (Addr × Obj)} {vs : List Value} {rs : Rows} (R : RowsIn W fro vs rs) (h : ∀ p ∈ fro, p ∈ fro') : RowsIn W fro' vs rs :=
  ⟨R.1, fun i v r h1 h2 => ⟨rowIn_sub (R.2 i v r h1 h2).1 h, (R.2 i v r h1 h2).2⟩⟩
end Mine
end
section
open PySem PySem.W PyProof.Rows PySem.Calls
set_option maxRecDepth 100000
set_option maxHeartbeats 1000000
namespace Mine
theorem turned_range {text szs c : List Int} (h : ∀ x ∈ text, 0 ≤ x ∧ x < 4) : ∀ x ∈ turned text szs c, 0 ≤ x ∧ x < 4 := by
  intro x hx
  obtain ⟨p, _, rfl⟩ := List.mem_map.mp hx
  rw [List.getD_eq_getElem?_getD]
  cases e : text[(thereOf szs c (p : Nat)).toNat]? with
  | none => exact ⟨by decide, by decide⟩
  | some y => exact h y (List.mem_of_getElem? e)
theorem width_facts {szs : List Int} (hs : szs ∈ shapes) {k : Nat} (hk : k < szs.length) :
    0 < (widthsOf szs).getD k 0 ∧ lenOf szs = lenOf szs / (widthsOf szs).getD k 0 * (widthsOf szs).getD k 0 ∧ (wIntsOf szs).getD k 0 = (((widthsOf szs).getD k 0 : Nat) : Int) := by
  have : ∀ z ∈ shapes, ∀ k ∈ List.range z.length, 0 < (widthsOf z).getD k 0 ∧ lenOf z = lenOf z / (widthsOf z).getD k 0 * (widthsOf z).getD k 0 ∧ (wIntsOf z).getD k 0 = (((widthsOf z).getD k 0 : Nat) : Int) := by decide +kernel
  exact this szs hs k (List.mem_range.mpr hk)
theorem len_facts {szs : List Int} (hs : szs ∈ shapes) : 0 < lenOf szs ∧ lenOf szs ≤ 27 := by
  have : ∀ z ∈ shapes, 0 < lenOf z ∧ lenOf z ≤ 27 := by decide +kernel
  exact this szs hs
theorem byte_back {x : Int} (h : 0 ≤ x ∧ x < 256) : ((x.toNat.toUInt8).toNat : Int) = x := by
  have : x.toNat < 256 := by omega
  rw [Nat.toUInt8, UInt8.toNat_ofNat']
  rw [Nat.mod_eq_of_lt (by simpa using this)]
  omega
theorem swap_ints {t : List Int} {wd : Nat} (h : ∀ x ∈ t, 0 ≤ x ∧ x < 256) : KBw.bInts (swapB (byteArr t) wd) = swapL t wd := by
  unfold KBw.bInts swapB swapL
  rw [byteArr_size]
  simp only [List.map_map]
  refine List.map_congr_left fun p _ => ?_
  show (((byteArr t).getD (p / wd * wd + (wd - 1 - p % wd)) 0).toNat : Int) = t.getD (p / wd * wd + (wd - 1 - p % wd)) 0
  generalize p / wd * wd + (wd - 1 - p % wd) = q
  rw [Array.getD_eq_getD_getElem?, List.getD_eq_getElem?_getD]
  unfold byteArr
  rw [List.getElem?_toArray, List.getElem?_map]
  cases e : t[q]? with
  | none => rfl
  | some y => exact byte_back (h y (List.mem_of_getElem? e))
end Mine
end
section
open PySem PySem.W PyProof.Rows PySem.Calls
set_option maxRecDepth 100000
set_option maxHeartbeats 1000000
namespace Mine
section
variable {prog : Program} {w : World} {A : Around} {E : Value → Shared → Prop} {s : Shared} {h₀ : Heap} {L : Addr} {m : Str → Option Value} {news fro : List (Addr × Obj)}
theorem getD_some {α : Type} {l : List α} {i : Nat} {d x : α} (h : l[i]? = some x) : l.getD i d = x := by rw [List.getD_eq_getElem?_getD, h]; rfl
theorem map_getD_range {α : Type} (l : List α) (d : α) : (List.range l.length).map (fun i => l.getD i d) = l := by
  apply List.ext_getElem
  · simp
  · intro i h1 h2
    simp [List.getD_eq_getElem?_getD, List.getElem?_eq_getElem h2]
/-- sorted(rows) -/
theorem sorted_rows {l : Addr} {vs : List Value} {rows : Rows} {n W : Nat} {Q : Value → Shared → Prop} (F : Fr h₀ L s.heap m) (N : News h₀ L s.heap news) (hm : (l, listOf vs.toArray n) ∈ news) (hsub : ∀ p ∈ fro, p ∈ news)
    (R : RowsIn W fro vs rows) (h2 : 2 ≤ rows.length) (h64 : rows.length < 64) (hu : A.in1.in1.units < cLine)
    (h : ∀ D c h' (out : List Value) (ors : Rows), Fr h₀ L h' m → News h₀ L h' ((D, listOf out.toArray c) :: news) → (∀ q ∈ news, q.1 < D) → RowsIn W fro out ors → ors.Perm rows → ors.Pairwise lle → Q (.ref D) { s with heap := h' }) :
    wpAny (model prog w) A (call (.builtin "sorted") [.ref l]) Q E s := by
  have hlen := R.1
  refine kas_sorted (T := .type "list") F N (PySem.IsL.isList (n := n) (N _ hm).1) (by omega) (by omega) (fun h F' N' v hv => ?_) rfl (fun D e1 h' F' N' l1 => ?_)
  · obtain ⟨i, hi, e⟩ := List.mem_iff_getElem.mp hv
    have h1 : vs[i]? = some v := by rw [List.getElem?_eq_getElem hi, e]
    have hi2 : i < rows.length := by omega
    obtain ⟨⟨a, us, k, rfl, hma, hI⟩, _⟩ := R.2 i v rows[i] h1 (List.getElem?_eq_getElem hi2)
    exact (Looks.ld (N' _ (hsub _ hma)).1).andThen .now
  · refine hT_wp (lt := fun i j => llt (rows.getD i []) (rows.getD j [])) (n := vs.length) (fun i j C hi hj hC => ?_) _ (sort_ok (key := fun i => rows.getD i []) (by omega) (fun _ _ => rfl) (fun p hp hs => ?_))
    · unfold kas_ask
      obtain ⟨a, us, k, hg, hma, hI, hW⟩ := rowsIn_get R (show i < rows.length by omega)
      obtain ⟨b, ws, k2, hg2, hmb, hI2, hW2⟩ := rowsIn_get R (show j < rows.length by omega)
      rw [getD_some hg, getD_some hg2]
      exact keyLt_lists (PySem.IsL.isList (n := k) (N' _ (.tail _ (hsub _ hma))).1) (PySem.IsL.isList (n := k2) (N' _ (.tail _ (hsub _ hmb))).1) hI hI2 (hW.trans hW2.symm) hu hC
    · have hpl : p.toList.length = rows.length := by rw [Array.length_toList, hp.size, hlen]
      refine KasFin.intro F' N' (UpdF.head fun q hq => Nat.ne_of_lt (l1 q hq)) (fun h'' c F'' N'' => h D c h'' _ (p.toList.map fun i => rows.getD i []) F'' N'' l1 ?_ ?_ ?_)
      · refine ⟨by simp, fun i v r e1 e2 => ?_⟩
        rw [List.getElem?_map] at e1 e2
        cases hq : p.toList[i]? with
        | none => rw [hq] at e1; cases e1
        | some j =>
          rw [hq] at e1 e2
          have hj : j < vs.length := by
            have hmem : j ∈ p.toList := List.mem_of_getElem? hq
            have := (Array.perm_iff_toList_perm.mp hp).mem_iff.mp hmem
            simpa using this
          obtain ⟨a, us, k, hg, hma, hI, hW⟩ := rowsIn_get R (show j < rows.length by omega)
          have e1' : vs.getD j Value.none = v := by simpa using e1
          have e2' : rows.getD j [] = r := by simpa using e2
          rw [getD_some hg] at e1'
          rw [← e2', ← e1']
          exact ⟨⟨a, us, k, rfl, hma, hI⟩, hW⟩
      · have := (Array.perm_iff_toList_perm.mp hp).map (fun i => rows.getD i [])
        refine this.trans ?_
        show List.Perm (List.map (fun i => rows.getD i []) (List.range vs.length)) rows
        rw [hlen, map_getD_range]
      · rw [List.pairwise_iff_getElem]
        intro i j hi hj hij
        rw [List.length_map] at hi hj
        have := hs i j (by omega) (by omega)
        simp only [List.getElem_map, Array.getElem_toList]
        unfold KP at this
        have gi : p.getD i 0 = p[i]'(by simpa using hi) := by simp [Array.getD_eq_getD_getElem?, Array.getElem?_eq_getElem (show i < p.size by simpa using hi)]
        have gj : p.getD j 0 = p[j]'(by simpa using hj) := by simp [Array.getD_eq_getD_getElem?, Array.getElem?_eq_getElem (show j < p.size by simpa using hj)]
        rw [gi, gj] at this
        exact this
end
theorem nodup_le {α : Type} [BEq α] [LawfulBEq α] : ∀ {l m : List α}, l.Nodup → (∀ x ∈ l, x ∈ m) → l.length ≤ m.length
  | [], _, _, _ => Nat.zero_le _
  | a :: l, m, hn, hs => by
    have ha : a ∈ m := hs a (.head _)
    have hi := nodup_le (l := l) (m := m.erase a) (List.nodup_cons.mp hn).2 (fun x hx => (List.mem_erase_of_ne (show x ≠ a from fun e => (List.nodup_cons.mp hn).1 (e ▸ hx))).mpr (hs x (.tail _ hx)))
    rw [List.length_erase_of_mem ha] at hi
    have hp := List.length_pos_of_mem ha
    rw [List.length_cons]; omega
theorem Sys.Inv.told_le {S : Sys} {H told : Rows} (I : S.Inv H told) : told.length ≤ S.N := by
  have hn : (texts told).Nodup := by
    unfold texts List.Nodup
    rw [List.pairwise_map]
    exact I.nd
  have := nodup_le (m := (List.range S.N).map S.T) hn (fun t ht => by
    obtain ⟨r, hr, rfl⟩ := mem_texts.mp ht
    obtain ⟨n, q, hn, rfl, _⟩ := I.snd r (.inr hr)
    exact List.mem_map.mpr ⟨n, List.mem_range.mpr hn, rfl⟩)
  simpa [texts] using this
theorem hpop_len {rows : Rows} (h : 0 < rows.length) : (hpop rows).length + 1 = rows.length := by
  have := (hpop_perm h).length_eq
  simpa using this.symm
theorem getD_headD (l : List Int) : l.getD 0 0 = l.headD 0 := by cases l <;> rfl
theorem two_pow_le {szs : List Int} (hs : szs ∈ shapes) : 2 ≤ 2 ^ szs.length ∧ 2 ^ szs.length ≤ 8 := by
  rcases shape_len hs with h | h | h <;> rw [h] <;> decide
theorem rowsIn_filter {W : Nat} {fro : List (Addr × Obj)} {vs : List Value} {rs : Rows} {g h : Heap} {L a b : Addr} {oa ob : Obj} {va vb : Option Value} (N : News g L h fro) (ha : (a, oa) ∈ fro) (hb : (b, ob) ∈ fro) (da : oa.data = .cell va) (db : ob.data = .cell vb)
    (R : RowsIn W fro vs rs) : RowsIn W (fro.filter fun p => p.1 != a && p.1 != b) vs rs := by
  refine ⟨R.1, fun i v r h1 h2 => ?_⟩
  obtain ⟨⟨c, us, k, e, hm, hI⟩, hl⟩ := R.2 i v r h1 h2
  refine ⟨⟨c, us, k, e, List.mem_filter.mpr ⟨hm, ?_⟩, hI⟩, hl⟩
  have key : ∀ {x : Addr} {ox : Obj} {vx : Option Value}, (x, ox) ∈ fro → ox.data = .cell vx → c ≠ x := by
    rintro x ox vx hx dx rfl
    have e1 := (N _ hm).1
    have e2 := (N _ hx).1
    simp only at e1 e2
    rw [e1] at e2
    have e3 := Option.some.inj e2
    rw [← e3] at dx
    cases dx
  simp only [Bool.and_eq_true, bne_iff_ne, ne_eq]
  exact ⟨key ha da, key hb db⟩
end Mine
end
section
open PySem PySem.W PyProof.Rows PySem.Calls
set_option maxRecDepth 100000
set_option maxHeartbeats 1000000
namespace Mine
section
variable {prog : Program} {w : World} {A : Around} {s : Shared} {h₀ : Heap}
theorem news_off {g h h' : Heap} {L I : Addr} {news : List (Addr × Obj)} (N : News g L h news) (he : ∀ b o, b ≠ I → h.get? b = some o → h'.get? b = some o) (hoff : ∀ p ∈ news, p.1 ≠ I) : News g L h' news :=
  fun p hp => ⟨he _ _ (hoff p hp) (N p hp).1, (N p hp).2⟩
/-- a for over range(n) whose name is a cell, in the clean logic, with a growing ledger -/
theorem forCC {cn : Str} {cs : Scope} {L a c : Addr} {ccd : Value} {cl : List (Str × Addr)} {x : Str} {px : Pos} {body : List Stmt} {Q : Flow → Shared → Prop} {r : Addr} {n : Nat} {t₀ u₀ v₀ : Tok} {m₀ : Str → Option Value} {news₀ : List (Addr × Obj)} {oc₀ : Obj} {vc₀ : Option Value}
    (J : Nat → (Str → Option Value) → List (Addr × Obj) → Prop) (hh : A.handled = none) (hr : IsRange s.heap r 0 (n : Int) 1 t₀ u₀ v₀) (hn : n < 2 ^ 60) (F : Fr h₀ L s.heap m₀) (N : News h₀ L s.heap ((c, oc₀) :: news₀)) (hoc : oc₀.data = .cell vc₀) (hoc0 : ∀ p ∈ news₀, p.1 ≠ c) (hj : J 0 m₀ news₀)
    (hcl : cl.lookup x = some c)
    (turn : ∀ i t m news h tk I oI oc, i < n → J i m news → (∀ p ∈ news, p.1 ≠ I ∧ p.1 ≠ c) → I ≠ c → oc.data = .cell (some (.int (i : Nat) t)) → Fr h₀ L h m → News h₀ L h ((I, oI) :: (c, oc) :: news) →
      wpC (model prog w) A (execs body (envX cn cs L a ccd cl)) (fun f s' => f = .next ∧ ∃ m' news' h' tk', s' = { s with heap := h', toks := tk' } ∧ Fr h₀ L h' m' ∧ News h₀ L h' ((I, oI) :: (c, oc) :: news') ∧ (∀ p ∈ news', p.1 ≠ I ∧ p.1 ≠ c) ∧ J (i + 1) m' news') { s with heap := h, toks := tk })
    (done : ∀ m news h tk, J n m news → Fr h₀ L h m → News h₀ L h news → Q .next { s with heap := h, toks := tk })
    (hk : cs.kind = .function := by rfl) (hx : (envX cn cs L a ccd cl).kindOf x = some .cell := by rfl) :
    wpAny (model prog w) A (pyIter (.ref r)) (fun it s₂ => codeC (model prog w) A (.forLoop (.Name x px) it body [] (envX cn cs L a ccd cl)) Q s₂) (fun _ _ => False) s := by
  refine wpAny_pyIter_range hr (sm_up hn) ?_
  obtain ⟨I, eI⟩ : ∃ I, I = s.heap.objs.size := ⟨_, rfl⟩
  rw [← eI, rs_up]
  have hIL : I ≠ L := by rw [eI]; exact Nat.ne_of_gt F.ns.lt
  have hIc : I ≠ c := by rw [eI]; exact Nat.ne_of_gt (Heap.lt_size (N _ (.head _)).1)
  have hI0 : h₀.get? I = none := by
    cases hq : h₀.get? I with
    | none => rfl
    | some o => rw [eI] at hq; exact absurd (Heap.lt_size (F.keep _ _ hq)) (Nat.lt_irrefl _)
  refine codeC_forLoop (fun k s' => ∃ (i : Nat) (m : Str → Option Value) (news : List (Addr × Obj)) (h : Heap) (tk : Nat) (oc : Obj) (vc : Option Value), k + i = n ∧ s' = { s with heap := h, toks := tk } ∧ oc.data = .cell vc ∧ Fr h₀ L h m ∧ News h₀ L h ((c, oc) :: news) ∧ (∀ p ∈ news, p.1 ≠ I ∧ p.1 ≠ c) ∧ IsRangeIter h I (i : Int) ((n : Int) - (i : Int)) 1 ∧ J i m news) ?_ n ?_
  · rintro k s' ⟨i, m, news, h, tk, oc, vc, hki, rfl, hdc, F1, N1, hoff, hit, hJ⟩
    rcases Nat.eq_zero_or_pos k with hk0 | hk0
    · have hin : i = n := by omega
      subst hin
      refine wpAny_pyNext_range_end hh hit (by omega) (fun h' he => ?_)
      obtain ⟨oL, a1, a2, hLg, a3⟩ := F1.ns
      exact done m news h' tk hJ ⟨⟨oL, a1, a2, he _ _ (Ne.symm hIL) hLg, a3⟩, fun b o e => he b o (fun q => by rw [q, hI0] at e; cases e) (F1.keep b o e), F1.above⟩
        (fun p hp => ⟨he _ _ (hoff p hp).1 (N1 p (.tail _ hp)).1, (N1 p (.tail _ hp)).2⟩)
    · refine wpAny_pyNext_range_item hit (by omega) (fun h' hit' hs' => ?_)
      have N2 : News h₀ L h' ((I, { cls := .type "range_iterator", data := .fields #[rawInt ((i : Int) + 1), rawInt ((n : Int) - (i : Int) - 1), rawInt 1] }) :: (c, oc) :: news) := by
        intro p hp
        rcases List.mem_cons.mp hp with rfl | hp
        · exact ⟨hit', hIL, hI0⟩
        · have hpI : p.1 ≠ I := by
            rcases List.mem_cons.mp hp with rfl | hp
            · exact Ne.symm hIc
            · exact (hoff p hp).1
          exact ⟨hs'.extBut _ _ hpI (N1 p hp).1, (N1 p hp).2⟩
      refine wpAny_assign_Name (storeX_C (F1.change hs' hIL hI0) N2 hcl (.tail hIc (.head fun p hp => (hoff p hp).2)) hdc (fun h2 oc' F2 N2' hd' => ?_) hk hx)
      refine wpC_mono (turn i _ m news h2 _ I _ oc' (by omega) hJ hoff hIc hd' F2 N2') (fun f s3 hf => ?_)
      obtain ⟨rfl, m', news', h3, tk3, rfl, F3, N3, hoff3, hJ3⟩ := hf
      refine ⟨k - 1, by omega, i + 1, m', news', h3, tk3, oc', _, by omega, rfl, hd', F3, fun p hp => N3 p (List.Mem.tail _ hp), hoff3, ?_, hJ3⟩
      have := (N3 _ (List.Mem.head _)).1
      show IsRangeIter _ _ _ _ _
      have e1 : (((i + 1 : Nat) : Int)) = (i : Int) + 1 := by push_cast; rfl
      rw [e1, show (n : Int) - ((i : Int) + 1) = (n : Int) - (i : Int) - 1 by omega]
      exact this
  · refine ⟨0, m₀, news₀, _, _, oc₀, vc₀, by omega, rfl, hoc, F.push _, fun p hp => ⟨Heap.get?_push_of_some _ (N p hp).1, (N p hp).2⟩, fun p hp => ⟨?_, hoc0 p hp⟩, ?_, hj⟩
    · rw [eI]; exact Nat.ne_of_lt (Heap.lt_size (N p (.tail _ hp)).1)
    · have := Heap.get?_push_size s.heap (o := { cls := .type "range_iterator", data := .fields #[rawInt 0, rawInt (n : Int), rawInt 1] }) rfl
      rw [← eI] at this
      simpa [IsRangeIter] using this
/-- a for over a list of the ledger that no turn changes -/
theorem forLst {cn : Str} {cs : Scope} {L a l : Addr} {ccd : Value} {cl : List (Str × Addr)} {x : Str} {px : Pos} {body : List Stmt} {Q : Flow → Shared → Prop} {vs : List Value} {nl : Nat} {m₀ : Str → Option Value} {news₀ : List (Addr × Obj)}
    (J : Nat → (Str → Option Value) → List (Addr × Obj) → Prop) (hh : A.handled = none) (F : Fr h₀ L s.heap m₀) (N : News h₀ L s.heap news₀) (hl : (l, listOf vs.toArray nl) ∈ news₀) (hj : J 0 m₀ news₀)
    (hJl : ∀ i m news, J i m news → (l, listOf vs.toArray nl) ∈ news)
    (turn : ∀ i v m news h tk I oI, vs[i]? = some v → J i m news → (∀ p ∈ news, p.1 ≠ I) → Fr h₀ L h (fun y => if y = x then some v else m y) → News h₀ L h ((I, oI) :: news) →
      wpC (model prog w) A (execs body (envX cn cs L a ccd cl)) (fun f s' => f = .next ∧ ∃ m' news' h' tk', s' = { s with heap := h', toks := tk' } ∧ Fr h₀ L h' m' ∧ News h₀ L h' ((I, oI) :: news') ∧ (∀ p ∈ news', p.1 ≠ I) ∧ J (i + 1) m' news') { s with heap := h, toks := tk })
    (done : ∀ m news h tk, J vs.length m news → Fr h₀ L h m → News h₀ L h news → Q .next { s with heap := h, toks := tk })
    (hk : cs.kind = .function := by rfl) (hx : (envX cn cs L a ccd cl).kindOf x = some .local := by rfl) :
    wpAny (model prog w) A (pyIter (.ref l)) (fun it s₂ => codeC (model prog w) A (.forLoop (.Name x px) it body [] (envX cn cs L a ccd cl)) Q s₂) (fun _ _ => False) s := by
  refine wpAny_pyIter_list (PySem.IsL.isList (n := nl) (N _ hl).1) ?_
  obtain ⟨I, eI⟩ : ∃ I, I = s.heap.objs.size := ⟨_, rfl⟩
  rw [← eI]
  have hIL : I ≠ L := by rw [eI]; exact Nat.ne_of_gt F.ns.lt
  have hI0 : h₀.get? I = none := by
    cases hq : h₀.get? I with
    | none => rfl
    | some o => rw [eI] at hq; exact absurd (Heap.lt_size (F.keep _ _ hq)) (Nat.lt_irrefl _)
  refine codeC_forLoop (fun k s' => ∃ (i : Nat) (m : Str → Option Value) (news : List (Addr × Obj)) (h : Heap) (tk : Nat), k + i = vs.length ∧ s' = { s with heap := h, toks := tk } ∧ Fr h₀ L h m ∧ News h₀ L h news ∧ (∀ p ∈ news, p.1 ≠ I) ∧ h.IsListIter I l i ∧ J i m news) ?_ vs.length ?_
  · rintro k s' ⟨i, m, news, h, tk, hki, rfl, F1, N1, hoff, hit, hJ⟩
    have hL1 := PySem.IsL.isList (n := nl) (N1 _ (hJl _ _ _ hJ)).1
    rcases Nat.eq_zero_or_pos k with hk0 | hk0
    · have hin : i = vs.length := by omega
      subst hin
      refine wpAny_pyNext_list_end hh hit hL1 (by simp) (fun h' he => ?_)
      obtain ⟨oL, a1, a2, hLg, a3⟩ := F1.ns
      exact done m news h' tk hJ ⟨⟨oL, a1, a2, he _ _ (Ne.symm hIL) hLg, a3⟩, fun b o e => he b o (fun q => by rw [q, hI0] at e; cases e) (F1.keep b o e), F1.above⟩
        (fun p hp => ⟨he _ _ (hoff p hp) (N1 p hp).1, (N1 p hp).2⟩)
    · have hi : i < vs.length := by omega
      have hv : vs[i]? = some vs[i] := List.getElem?_eq_getElem hi
      refine wpAny_pyNext_list_item (x := vs[i]) hit hL1 (by rw [List.getElem?_toArray]; exact hv) (fun h' hit' hs' => ?_)
      obtain ⟨oI, hoI, hcI, hdI⟩ := hit'
      refine wpAny_assign_Name (storeX_L (h₀ := h₀) (news := (I, oI) :: news) (F1.change hs' hIL hI0) (fun p hp => ?_) (fun h2 F2 N2 => ?_) hk hx)
      · rcases List.mem_cons.mp hp with rfl | hp
        · exact ⟨hoI, hIL, hI0⟩
        · exact ⟨hs'.extBut _ _ (hoff p hp) (N1 p hp).1, (N1 p hp).2⟩
      · refine wpC_mono (turn i _ m news h2 _ I _ hv hJ hoff F2 N2) (fun f s3 hf => ?_)
        obtain ⟨rfl, m', news', h3, tk3, rfl, F3, N3, hoff3, hJ3⟩ := hf
        exact ⟨k - 1, by omega, i + 1, m', news', h3, tk3, by omega, rfl, F3, fun p hp => N3 p (List.Mem.tail _ hp), hoff3, ⟨oI, (N3 _ (List.Mem.head _)).1, hcI, hdI⟩, hJ3⟩
  · refine ⟨0, m₀, news₀, _, _, by omega, rfl, F.push _, fun p hp => ⟨Heap.get?_push_of_some _ (N p hp).1, (N p hp).2⟩, fun p hp => ?_, ?_, hj⟩
    · rw [eI]; exact Nat.ne_of_lt (Heap.lt_size (N p hp).1)
    · have := Heap.get?_push_size s.heap (o := { cls := .type "list_iterator", data := .fields #[.ref l, .int 0 0] }) rfl
      rw [← eI] at this
      exact ⟨_, this, rfl, rfl⟩
end
end Mine
end
section
open PySem PySem.W PyProof.Rows PySem.Calls
set_option maxRecDepth 100000
set_option maxHeartbeats 4000000
namespace Mine
local macro_rules | `(tactic| walk_at "go1") => `(tactic| (first | (k_unfold; (try dsimp only)) | walk1 | (dsimp only; walk1)))
theorem keepAll_take {l : Rows} {i : Nat} {r : List Int} (h : l[i]? = some r) : keepAll (l.take (i + 1)) = keep1 (keepAll (l.take i)) r := by
  unfold keepAll
  rw [List.take_add_one, h, List.foldl_append]
  rfl
theorem keepAll_len : ∀ (l : Rows) (d : Rows), (l.foldl keep1 d).length ≤ d.length + l.length
  | [], d => by simp
  | r :: l, d => by
    have h1 := keepAll_len l (keep1 d r)
    have h2 : (keep1 d r).length ≤ d.length + 1 := by unfold keep1; split <;> simp
    rw [List.foldl_cons, List.length_cons]; omega
theorem keepAll_take_len {l : Rows} {i n : Nat} (h : l.length ≤ n) : (keepAll (l.take i)).length ≤ n := by
  have h1 := keepAll_len (l.take i) []
  have h2 : (l.take i).length ≤ l.length := by rw [List.length_take]; omega
  unfold keepAll
  simp only [List.length_nil] at h1
  omega
section
variable {prog : Program} {w : World} {A : Around} {h₀ : Heap} {L : Addr} {m : Str → Option Value} {env : Env} {elt : PySem.Expr} {x : Str} {scope : Scope} {cl : List (Str × Addr)} {s : Shared} {S : List (Addr × Obj) → Prop} {Fin : List Value → List (Addr × Obj) → Prop} {fro news₀ : List (Addr × Obj)}
/-- a comprehension over a list of rows that makes one row of each -/
theorem comp_rows {its : List Value} {rs : Rows} {W W' : Nat} (g : List Int → List Int) (hg : ∀ r, r.length = W → (g r).length = W') (R : RowsIn W fro its rs)
    (turn : ∀ a us k r I oI C oC D m₂ ys sl h tk (E' : Value → Shared → Prop), (a, listOf (List.toArray us) k) ∈ fro → IntsAre us r → r.length = W → LCg.NsObj oC m₂ → m₂ x = some (.ref a) → Fr h₀ L h m → News h₀ L h ((I, oI) :: (C, oC) :: (D, LCg.lst ys) :: (sl ++ news₀)) → LCg.Off3 I C D (sl ++ news₀) → ((@Ne Nat I C) ∧ (@Ne Nat I D) ∧ (@Ne Nat C D)) →
      wpAny (model prog w) A (eval elt (compEnvC scope cl C env)) (LCg.CompEnd h₀ L m { s with heap := h, toks := tk } I oI C oC D (LCg.lst ys) S (fun y news' => ∃ (E : Addr) (ws : List Value), y = .ref E ∧ news' = (E, listOf ws.toArray 0) :: (sl ++ news₀) ∧ IntsAre ws (g r))) E' { s with heap := h, toks := tk })
    (fin : ∀ ys sl, RowsIn W' sl ys (rs.map g) → Fin ys (sl ++ news₀)) : LCg.CompRest prog w A h₀ L m env elt x scope cl s S (fun i v => its.toArray[i]? = some v) Fin its.toArray.size 0 [] news₀ := by
  have key : ∀ (j i : Nat) (ys : List Value) (sl : List (Addr × Obj)), i + j = its.length → RowsIn W' sl ys ((rs.take i).map g) → LCg.CompRest prog w A h₀ L m env elt x scope cl s S (fun i v => its.toArray[i]? = some v) Fin j i ys (sl ++ news₀) := by
    intro j
    induction j with
    | zero =>
      intro i ys sl hi hy
      have e : i = rs.length := by have := R.1; omega
      subst e
      rw [List.take_length] at hy
      exact LCg.CompRest.zero (fin ys sl hy)
    | succ j ih =>
      intro i ys sl hi hy
      refine LCg.CompRest.succ ?_
      intro v I oI C oC D m₂ h tk E' hv hC hx F N off ne
      have hv' : its[i]? = some v := by simpa using hv
      have hir : i < rs.length := by have := R.1; omega
      have hr : rs[i]? = some rs[i] := List.getElem?_eq_getElem hir
      obtain ⟨⟨a, us, k, rfl, hm, hI⟩, hl⟩ := R.2 i v rs[i] hv' hr
      refine wpAny_mono (turn a us k rs[i] I oI C oC D m₂ ys sl h tk E' hm hI hl hC hx F N off ne) (fun y s₂ hq => ?_) fun _ _ e => e
      obtain ⟨h', tk', nw, e, F', N', off', hS, E, ws, hy', hn, hI'⟩ := hq
      subst hy' hn
      refine ⟨h', tk', _, e, F', N', off', hS, ?_⟩
      refine ih (i + 1) _ ((E, listOf ws.toArray 0) :: sl) (by omega) ?_
      rw [List.take_add_one, hr, List.map_append]
      exact rowsIn_push (rowsIn_sub hy fun p hp => .tail _ hp) ⟨E, ws, 0, rfl, .head _, hI'⟩ (hg _ hl)
  have := key its.length 0 [] [] (by omega) ⟨rfl, fun i v r h1 h2 => by simp at h1⟩
  rw [List.size_toArray]
  exact this
end
theorem wfix {W : Nat} (h : W ≤ 27) : W + 1 ≤ 2 ^ 20 := by omega
theorem partD : ∀ {w : World} {mean : ExcName → Option Value} {mg mb : Str → Option Value} {s : Shared} {oc : Value} {od : Option Addr} {osl : Array (Option Value)} {name qual : Str} {params : Arguments} {body : List Stmt} {scope : Scope} {dV kV doc pm cdv ct : Value} {an : Option Addr}
    {L : Addr} {h : Heap} {tk : Nat} {m₀ : Str → Option Value} {Q : Flow → Shared → Prop} {TA EA : Addr} {tv yv : List Value} {nT nE W : Nat} {told rows : Rows} {fro : List (Addr × Obj)},
    (hd.heap_39 w.params).lookup 61 = some ⟨oc, od, .func (fnOf name qual params body scope dV kV doc pm an cdv ct), osl⟩ →
    (hd.heap_39 w.params).In s.heap → Top hd.view_39 (looseW hd.view_39 []) mean mg mb s.heap →
    Fr s.heap L h (fun y => if y = Str.ofString "told" then some (.ref TA) else if y = Str.ofString "every" then some (.ref EA) else m₀ y) →
    News s.heap L h ((TA, listOf tv.toArray nT) :: (EA, listOf yv.toArray nE) :: fro) →
    RowsIn (W + 1) fro tv told → RowsIn (W + 1) fro yv rows → told.length ≤ 8 → 2 ≤ rows.length → rows.length ≤ 8 → W ≤ 27 →
    (∀ l : Rows, l.Perm rows → l.Pairwise lle → told = keepAll l) →
    (∀ s', (∀ b o, s.heap.get? b = some o → s'.heap.get? b = some o) → s'.os = s.os → s'.gens = s.gens → Q (.ret (.bool true)) s') →
    wpC (model PySem.Challenge.rw_oc0017_01.row.prog w) (callerA.deeper (envOfC qual scope L 61 cdv)) (execs (body.drop 14) (envOfC qual scope L 61 cdv)) Q { s with heap := h, toks := tk } := by
  w_top off
  k_fill
  intro w mean mg mb s oc od osl name qual params body scope dV kV doc pm cdv ct an L h tk m₀ Q TA EA tv yv nT nE W told rows fro ho X T F N RT RY htold hr2 hr8 hW hkeep hQ
  k_dflt (refine' with_law (K := hd.heap_39 w.params) (f := 61) ?ho ?_; (case ho => k_is))
  intro ho'
  have e := ho.symm.trans ho'
  clear ho'
  cases e
  have B := below_caller s.heap
  refine wpC_execs_cons (wpC_of ?_)
  iterate 4 walk_at "go1"
  rename_i DA hD1 FD1 ND1 lD
  iterate 1 walk_at "go1"
  (rename Fr _ _ _ _ => FD2)
  (rename News _ _ _ _ => ND2)
  dsimp only
  refine wpC_execs_cons (wpC_For ?_)
  iterate 6 walk_at "go1"
  refine sorted_rows (fro := fro) FD2 ND2 (.tail _ (.tail _ (.head _))) (fun p hp => List.mem_append_right [_, _, _] hp) RY hr2 (by omega) (of_decide_eq_true (by with_unfolding_all rfl)) (fun SD c h3 out ors F3 N3 l3 RO hperm hsort => ?_)
  have hors : ors.length ≤ 8 := by rw [hperm.length_eq]; exact hr8
  have hDf : ∀ p ∈ fro, p.1 < DA := fun p hp => ktn_ltOf lD.2.2 p hp
  have lDS : DA < SD := l3 (DA, _) (.head _)
  (try clear FD2); (try clear ND2)
  dsimp only
  refine forLst (l := SD) (vs := out) (nl := c) (fun i m news => ∃ (dv : List Value) (nD : Nat), news = (DA, listOf dv.toArray nD) :: (SD, listOf out.toArray c) :: (TA, listOf tv.toArray nT) :: fro ∧
      RowsIn (W + 1) fro dv (keepAll (ors.take i)) ∧ m (Str.ofString "told") = some (.ref TA) ∧ m (Str.ofString "due") = some (.ref DA))
    rfl F3 (kst_newsOf (l' := (DA, listOf (List.toArray []) 0) :: (SD, listOf out.toArray c) :: (TA, listOf tv.toArray nT) :: fro) N3 ?iN) (.tail _ (.head _)) ⟨[], 0, rfl, ⟨rfl, fun i v r h1 h2 => by simp at h1⟩, rfl, rfl⟩ ?iM ?_ ?_
  case iN =>
    intro p hp
    simp only [List.mem_cons] at hp
    rcases hp with rfl | rfl | rfl | hp
    · exact .tail _ (.head _)
    · exact .head _
    · exact .tail _ (.tail _ (.head _))
    · exact List.mem_append_right [_, _, _, _] hp
  case iM =>
    rintro i m news ⟨dv, nD, rfl, _⟩
    exact .tail _ (.head _)
  · rintro i v m3 _ h4 tk4 I9 oI9 hv ⟨dv, nD, rfl, RD, m1, m2⟩ hI9 F4 N4
    have hi : i < out.length := by
      rcases Nat.lt_or_ge i out.length with h | h
      · exact h
      · rw [List.getElem?_eq_none h] at hv; cases hv
    have hio : i < ors.length := by rw [← RO.1]; exact hi
    have hor : ors[i]? = some ors[i] := List.getElem?_eq_getElem hio
    obtain ⟨⟨ra, rvs, rn, rfl, hrm, hrI⟩, hrl⟩ := RO.2 i v ors[i] hv hor
    generalize ors[i] = row at hor hrI hrl
    have F5 := fr_put (Str.ofString "entry") (.ref ra) (fr_put (Str.ofString "told") (.ref TA) (fr_put (Str.ofString "due") (.ref DA) F4 (by rw [if_neg (by decide)]; exact m2)) (by (repeat rw [if_neg (by decide)]); exact m1)) (by (repeat rw [if_neg (by decide)]); rw [if_pos rfl])
    clear F4
    refine wpC_execs_cons (wpC_If ?_)
    iterate 8 walk_at "go1"
    (rename Fr _ _ _ _ => F6)
    (rename News _ _ _ _ => N6)
    with_unfolding_all refine slice1 (s := ⟨_, _, _, _, _⟩) F6 N6 (List.mem_append_right [_, _, _, _] hrm) hrI (by rw [hrl]; omega) (fun D2 ws2 h7 F7 N7 l7 I7 => ?_)
    rw [List.drop_one] at I7
    refine LCg.ListComp_U (F₀ := F7) (by with_unfolding_all rfl) (by decide) (by rfl) (by decide) (by rfl) ?_
    iterate 1 walk_at "go1"
    have hdl : dv.length ≤ 8 := by rw [RD.1]; exact keepAll_take_len hors
    refine LCg.CompSrc.ledger rfl F7 N7 (k := nD) (its := dv.toArray) (.tail _ (.tail _ (.head _))) (by rw [List.size_toArray, sizeLine_eq]; omega) ?_
    intro g8
    refine comp_rows (W' := W) List.tail (fun r hr => by rw [List.length_tail, hr]; omega) RD ?_ ?_
    · intro a us k r I oI C oC D m₂ ys sl h tk E' hm hI hl hC hx F8 N8 off ne
      iterate 7 walk_at "go1"
      with_unfolding_all refine slice1 (s := ⟨_, _, _, _, _⟩) F8 N8 (List.mem_append_right [_, _, _] (List.mem_append_right sl (List.mem_append_right [_, _, _, _, _] hm))) hI (by rw [hl]; exact wfix hW) (fun E ws h9 F9 N9 l9 I10 => ?_)
      rw [List.drop_one] at I10
      refine LCg.CompEnd.intro F9 N9 ((E, listOf ws.toArray 0) :: (sl ++ _)) ?xS ⟨⟨Nat.ne_of_gt (l9 (I, oI) (.head _)), Nat.ne_of_gt (l9 (C, oC) (.tail _ (.head _))), Nat.ne_of_gt (l9 (D, LCg.lst ys) (.tail _ (.tail _ (.head _))))⟩, off⟩ (.inr ⟨listOf dv.toArray nD, .tail _ (List.mem_append_right sl (.tail _ (.tail _ (.head _)))), rfl, nD, rfl⟩) ⟨E, ws, rfl, rfl, I10⟩
      case xS =>
        intro p hp
        simp only [List.mem_cons] at hp ⊢
        rcases hp with rfl | rfl | rfl | rfl | hp <;> simp only [true_or, or_true, *]
    · intro ys sl RL
      intro LA h9 tk9 F9 N9 off9
      dsimp only
      refine not_in (fro := sl) (ev := ys) (n := ys.length) (ts := texts (keepAll (ors.take i))) (t := row.tail) N9 (.head _) (fun p hp => .tail _ (List.mem_append_left _ hp)) RL ⟨D2, ws2, 0, rfl, .tail _ (List.mem_append_right sl (.head _)), I7⟩ (of_decide_eq_true (by with_unfolding_all rfl)) ?_
      have N10 := kst_newsOf (l' := (DA, listOf dv.toArray nD) :: (I9, oI9) :: (SD, listOf out.toArray c) :: (TA, listOf tv.toArray nT) :: fro) N9 (by
        intro p hp
        refine .tail _ (List.mem_append_right sl ?_)
        simp only [List.mem_cons] at hp ⊢
        rcases hp with rfl | rfl | rfl | rfl | hp <;> simp only [true_or, or_true, *])
      clear N9
      have ek : keepAll (ors.take (i + 1)) = keep1 (keepAll (ors.take i)) row := keepAll_take hor
      cases hin : (texts (keepAll (ors.take i))).contains row.tail with
      | true =>
        have ek2 : keepAll (ors.take (i + 1)) = keepAll (ors.take i) := by rw [ek]; unfold keep1; rw [hin, if_pos rfl]
        iterate 1 walk_at "go1"
        rw [if_neg (by decide)]
        refine wpC_of (wpAny_execs_nil (wpC_of (wpAny_execs_nil ?_)))
        refine ⟨rfl, _, (DA, listOf dv.toArray nD) :: (SD, listOf out.toArray c) :: (TA, listOf tv.toArray nT) :: fro, h9, _, rfl, F9, kst_newsOf N10 ?uN, hI9, dv, nD, rfl, ek2 ▸ RD, rfl, rfl⟩
        case uN =>
          intro p hp
          simp only [List.mem_cons] at hp ⊢
          rcases hp with rfl | rfl | rfl | rfl | hp <;> simp only [true_or, or_true, *]
      | false =>
        have ek2 : keepAll (ors.take (i + 1)) = keepAll (ors.take i) ++ [row] := by rw [ek]; unfold keep1; rw [hin, if_neg (by decide)]
        iterate 1 walk_at "go1"
        rw [if_pos (by rfl)]
        refine wpC_execs_cons (wpC_of ?_)
        iterate 8 walk_at "go1"
        refine append_K F9 N10 (Upd.head ?vO) (fun h11 F11 N11 => ?_) (by rw [List.size_toArray, sizeLine_eq]; omega)
        case vO =>
          intro p hp
          simp only [List.mem_cons] at hp
          rcases hp with rfl | rfl | rfl | hp
          · exact Ne.symm (hI9 (DA, listOf dv.toArray nD) (.head _))
          · exact Nat.ne_of_gt lDS
          · exact Nat.ne_of_lt lD.1
          · exact Nat.ne_of_lt (hDf p hp)
        rw [List.push_toArray] at N11
        dsimp only
        refine wpC_of (wpAny_execs_nil (wpC_of (wpAny_execs_nil ?_)))
        refine ⟨rfl, _, (DA, listOf (dv ++ [Value.ref ra]).toArray (nD + 1)) :: (SD, listOf out.toArray c) :: (TA, listOf tv.toArray nT) :: fro, h11, _, rfl, F11, kst_newsOf N11 ?wN, ?wO, dv ++ [Value.ref ra], nD + 1, rfl, ?wR, rfl, rfl⟩
        case wN =>
          intro p hp
          simp only [List.mem_cons] at hp ⊢
          rcases hp with rfl | rfl | rfl | rfl | hp <;> simp only [true_or, or_true, *]
        case wO =>
          intro p hp
          rcases List.mem_cons.mp hp with rfl | hp
          · exact hI9 (DA, listOf dv.toArray nD) (.head _)
          · exact hI9 p (.tail _ hp)
        case wR =>
          rw [ek2]
          exact rowsIn_push RD ⟨ra, rvs, rn, rfl, hrm, hrI⟩ hrl
  · rintro m3 _ h4 tk4 ⟨dv, nD, rfl, RD, m1, m2⟩ F4 N4
    have F5 := fr_put (Str.ofString "told") (.ref TA) (fr_put (Str.ofString "due") (.ref DA) F4 m2) (by rw [if_neg (by decide)]; exact m1)
    dsimp only
    have eall : ors.take out.length = ors := by rw [RO.1, List.take_length]
    rw [eall] at RD
    have htd := hkeep ors hperm hsort
    refine wpC_execs_cons (wpC_of ?_)
    iterate 4 walk_at "go1"
    refine eq_rows N4 (.tail _ (.tail _ (.head _))) (.head _) (fun p hp => List.mem_append_right [_, _, _] hp) RT RD (of_decide_eq_true (by with_unfolding_all rfl)) ?_
    rw [decide_eq_true htd]
    exact hQ _ F5.keep rfl rfl
end Mine
end
section
open PySem PySem.W PyProof.Rows PySem.Calls
set_option maxRecDepth 100000
set_option maxHeartbeats 4000000
namespace Mine
local macro_rules | `(tactic| walk_at "go1") => `(tactic| (first | (k_unfold; (try dsimp only)) | walk1 | (dsimp only; walk1)))
theorem pow_small {k : Nat} (h : k ≤ 3) : ((2 : Int) ^ k).natAbs < 1073741824 := by
  have h4 : k = 0 ∨ k = 1 ∨ k = 2 ∨ k = 3 := by omega
  rcases h4 with rfl | rfl | rfl | rfl <;> decide
theorem kle {k : Int} {n : Nat} (h : k < 0 + (n : Int)) (hn : n ≤ 3) : k ≤ 1000000 ∧ k.toNat ≤ 3 := by omega
theorem shape_len3 {szs : List Int} (hs : szs ∈ shapes) : szs.length ≤ 3 := by have := shape_len hs; omega
theorem add_small {n : Nat} (h : n ≤ 3) : n + 1 ≤ 2 ^ 24 := by omega
theorem klt {k : Int} {n m : Nat} (h : k < 0 + (n : Int)) (hm : m = n + 1) (hn : n ≤ 3) : k < (m : Int) ∧ k + 1 < (m : Int) ∧ m < 2 ^ 40 := by omega
theorem kplus {k : Int} (h : 0 ≤ k) : 0 ≤ k + 1 := by omega
theorem kpr {k : Int} {n m : Nat} (h : k < 0 + (n : Int)) (hm : m = n) : k < (m : Int) := by omega
theorem kpr2 {n m : Nat} (hm : m = n) (hn : n ≤ 3) : m < 2 ^ 40 := by omega
theorem foldl_filter {α : Type} (p : α → Bool) (f : α → Int) : ∀ (ks : List α) (acc : List Int), ks.foldl (fun l k => if p k = true then l ++ [f k] else l) acc = acc ++ (ks.filter p).map f
  | [], acc => by simp
  | k :: ks, acc => by
    rw [List.foldl_cons, foldl_filter p f ks]
    cases hp : p k with
    | true => rw [if_pos rfl, List.filter_cons_of_pos hp]; simp
    | false => rw [if_neg (by decide), List.filter_cons_of_neg (by simp [hp])]
theorem price_fold (tn prs : List Int) (n : Nat) (h : prs.length = n) : ((rangeKs 0 n).foldl (fun l k => if (tn.getD k.toNat 0 != tn.getD (k + 1).toNat 0) = true then l ++ [prs.getD k.toNat 0] else l) []).sum = priceOf prs tn := by
  unfold rangeKs priceOf
  rw [List.foldl_map, h]
  have e : (fun (l : List Int) (k : Nat) => if (tn.getD ((0 : Int) + (k : Int)).toNat 0 != tn.getD ((0 : Int) + (k : Int) + 1).toNat 0) = true then l ++ [prs.getD ((0 : Int) + (k : Int)).toNat 0] else l)
      = fun l k => if (tn.getD k 0 != tn.getD (k + 1) 0) = true then l ++ [prs.getD k 0] else l := by
    funext l k
    rw [show ((0 : Int) + (k : Int)).toNat = k by omega, show ((0 : Int) + (k : Int) + 1).toNat = k + 1 by omega]
  rw [e, foldl_filter (fun k => tn.getD k 0 != tn.getD (k + 1) 0) (fun k => prs.getD k 0)]
  rfl
theorem lenfix {text szs : List Int} (hs : szs ∈ shapes) (hl : text.length = lenOf szs) : 1 + text.length ≤ 2 ^ 24 ∧ text.length < 2 ^ 20 := by have := len_facts hs; omega
theorem lt_fix {i n : Nat} (h : i < n) (hn : n ≤ 8) : i ≤ 16777216 := by omega
theorem partC : ∀ {w : World} {mean : ExcName → Option Value} {mg mb : Str → Option Value} {s : Shared} {oc : Value} {od : Option Addr} {osl : Array (Option Value)} {name qual : Str} {params : Arguments} {body : List Stmt} {scope : Scope} {dV kV doc pm cdv ct : Value} {an : Option Addr}
    {L : Addr} {h : Heap} {tk : Nat} {m₀ : Str → Option Value} {Q : Flow → Shared → Prop} {TA TX SZ PR : Addr} {tv txv pv sv : List Value} {nT nX nP nZ : Nat} {o3 o4 o5 : Obj} {v4 v5 : Option Value} {text szs prs : List Int} {told : Rows} {fro : List (Addr × Obj)}
    (hs : szs ∈ shapes) (hl : text.length = lenOf szs) (hp : prs.length = szs.length) (hpr : ∀ x ∈ prs, 1 ≤ x),
    (hd.heap_39 w.params).lookup 61 = some ⟨oc, od, .func (fnOf name qual params body scope dV kV doc pm an cdv ct), osl⟩ →
    (hd.heap_39 w.params).In s.heap → Top hd.view_39 (looseW hd.view_39 []) mean mg mb s.heap →
    Fr s.heap L h (fun y => if y = Str.ofString "told" then some (.ref TA) else if y = Str.ofString "text" then some (.ref TX) else if y = Str.ofString "sizes" then some (.ref SZ) else m₀ y) →
    News s.heap L h ((L + 1 + 1 + 1 + 1 + 1, o5) :: (L + 1 + 1 + 1 + 1, o4) :: (L + 1 + 1 + 1, o3) :: (TA, listOf tv.toArray nT) :: (TX, listOf txv.toArray nX) :: (PR, listOf pv.toArray nP) :: (SZ, listOf sv.toArray nZ) :: fro) →
    (∀ p ∈ fro, p.1 ≠ L + 1 + 1 + 1 + 1 + 1 ∧ p.1 ≠ L + 1 + 1 + 1 + 1) →
    [TA, TX, PR, SZ, L + 1 + 1 + 1 + 1 + 1, L + 1 + 1 + 1 + 1, L + 1 + 1 + 1].Nodup →
    o3.data = .cell (some (.ref PR)) → o4.data = .cell v4 → o5.data = .cell v5 →
    IntsAre txv text → IntsAre pv prs → IntsAre sv szs →
    RowsIn (text.length + 1) fro tv told → told.length ≤ 8 → (sysOf szs text prs hs hl hp hpr).Inv [] told →
    (∀ s', (∀ b o, s.heap.get? b = some o → s'.heap.get? b = some o) → s'.os = s.os → s'.gens = s.gens → Q (.ret (.bool true)) s') →
    wpC (model PySem.Challenge.rw_oc0017_01.row.prog w) (callerA.deeper (envOfC qual scope L 61 cdv)) (execs (body.drop 12) (envOfC qual scope L 61 cdv)) Q { s with heap := h, toks := tk } := by
  w_top off
  k_fill
  intro w mean mg mb s oc od osl name qual params body scope dV kV doc pm cdv ct an L h tk m₀ Q TA TX SZ PR tv txv pv sv nT nX nP nZ o3 o4 o5 v4 v5 text szs prs told fro hs hl hp hpr ho X T F N hfro nd d3 d4 d5 IX IP IZ RT htold I hQ
  k_dflt (refine' with_law (K := hd.heap_39 w.params) (f := 61) ?ho ?_; (case ho => k_is))
  intro ho'
  have e := ho.symm.trans ho'
  clear ho'
  cases e
  have B := below_caller s.heap
  obtain ⟨S, eS⟩ : ∃ S, S = sysOf szs text prs hs hl hp hpr := ⟨_, rfl⟩
  rw [← eS] at I
  refine wpC_execs_cons (wpC_of ?_)
  iterate 3 walk_at "go1"
  iterate 1 walk_at "go1"
  rename_i EA hE1 FE1 NE1 lE
  iterate 1 walk_at "go1"
  (rename Fr _ _ _ _ => FE2)
  (rename News _ _ _ _ => NE2)
  dsimp only
  refine wpC_execs_cons (wpC_For ?_)
  iterate 12 walk_at "go1"
  have hK := shape_len hs
  have hsl : sv.length = szs.length := IZ.length
  refine len_row NE2 (.tail _ (.tail _ (.tail _ (.tail _ (.tail _ (.tail _ (.tail _ (.head _)))))))) (by omega) (fun t1 tk1 => ?_)
  rw [hsl]
  iterate 1 walk_at "go1"
  iterate 2 walk_at "go1"
  (rename IsRange _ _ _ _ _ _ _ _ => hR1)
  (rename Fr _ _ _ _ => FE3)
  (rename News _ _ _ _ => NE3)
  have e2 : ((2 : Int) ^ (szs.length : Int).toNat) = ((2 ^ szs.length : Nat) : Int) := by rw [Int.toNat_natCast]; push_cast; rfl
  rw [e2] at hR1
  have h28 := two_pow_le hs
  have ne := fun (i j : Nat) (hi : i < 7) (hj : j < 7) (hij : i < j) => List.pairwise_iff_getElem.mp nd i j hi hj hij
  have hfE : ∀ p ∈ fro, p.1 < EA := fun p hp => ktn_ltOf lE.2.2.2.2.2.2.2 p hp
  have N4 := kst_newsOf (l' := (L + 1 + 1 + 1 + 1, o4) :: (EA, listOf (List.toArray []) 0) :: (L + 1 + 1 + 1 + 1 + 1, o5) :: (L + 1 + 1 + 1, o3) :: (TX, listOf txv.toArray nX) :: (PR, listOf pv.toArray nP) :: (SZ, listOf sv.toArray nZ) :: (TA, listOf tv.toArray nT) :: fro) NE3 (by
    intro p hp
    simp only [List.mem_cons] at hp
    rcases hp with rfl | rfl | rfl | rfl | rfl | rfl | rfl | rfl | hp
    · exact (.tail _ (.tail _ (.head _)))
    · exact (.head _)
    · exact (.tail _ (.head _))
    · exact (.tail _ (.tail _ (.tail _ (.head _))))
    · exact (.tail _ (.tail _ (.tail _ (.tail _ (.tail _ (.head _))))))
    · exact (.tail _ (.tail _ (.tail _ (.tail _ (.tail _ (.tail _ (.head _)))))))
    · exact (.tail _ (.tail _ (.tail _ (.tail _ (.tail _ (.tail _ (.tail _ (.head _))))))))
    · exact (.tail _ (.tail _ (.tail _ (.tail _ (.head _)))))
    · exact (List.mem_append_right [_, _, _, _, _, _, _, _] hp))
  refine forCC (n := 2 ^ szs.length) (c := L + 1 + 1 + 1 + 1) (fun i m news => ∃ (yv : List Value) (nE : Nat) (oT : Obj) (vT : Option Value) (fro2 : List (Addr × Obj)), news = (EA, listOf yv.toArray nE) :: (L + 1 + 1 + 1 + 1 + 1, oT) :: (L + 1 + 1 + 1, o3) :: (TX, listOf txv.toArray nX) :: (PR, listOf pv.toArray nP) :: (SZ, listOf sv.toArray nZ) :: fro2 ∧
      oT.data = .cell vT ∧ (∀ p ∈ (TA, listOf tv.toArray nT) :: fro, p ∈ fro2) ∧ (∀ p ∈ fro2, p.1 ≠ EA ∧ p.1 ≠ L + 1 + 1 + 1 + 1 + 1) ∧ RowsIn (text.length + 1) fro2 yv ((List.range i).map fun n => S.P n :: S.T n) ∧
      m (Str.ofString "told") = some (.ref TA) ∧ m (Str.ofString "every") = some (.ref EA) ∧ m (Str.ofString "text") = some (.ref TX) ∧ m (Str.ofString "sizes") = some (.ref SZ))
    rfl hR1 (by omega) FE3 N4 d4 ?off ⟨[], 0, o5, v5, _, rfl, d5, fun _ h => h, ?off2, ⟨rfl, fun i v r h1 h2 => by simp at h1⟩, rfl, rfl, rfl, rfl⟩ rfl ?_ ?_
  case off =>
    intro p hp
    simp only [List.mem_cons] at hp
    rcases hp with rfl | rfl | rfl | rfl | rfl | rfl | rfl | hp
    · exact Nat.ne_of_gt lE.2.1
    · exact ne 4 5 (by decide) (by decide) (by decide)
    · exact Ne.symm (ne 5 6 (by decide) (by decide) (by decide))
    · exact ne 1 5 (by decide) (by decide) (by decide)
    · exact ne 2 5 (by decide) (by decide) (by decide)
    · exact ne 3 5 (by decide) (by decide) (by decide)
    · exact ne 0 5 (by decide) (by decide) (by decide)
    · exact (hfro p hp).2
  case off2 =>
    intro p hp
    rcases List.mem_cons.mp hp with rfl | hp
    · exact ⟨Nat.ne_of_lt lE.2.2.2.1, ne 0 4 (by decide) (by decide) (by decide)⟩
    · exact ⟨Nat.ne_of_lt (hfE p hp), (hfro p hp).1⟩
  · rintro i t2 m3 _ h5 tk5 I9 oI9 oc hi ⟨yv, nE, oT, vT, fro2, rfl, dT, hsub2, hoff2, RY, m1, m2, m3', m4⟩ hI9 hIc hdc F5 N5
    have F6 := fr_put (Str.ofString "told") (.ref TA) (fr_put (Str.ofString "every") (.ref EA) (fr_put (Str.ofString "text") (.ref TX) (fr_put (Str.ofString "sizes") (.ref SZ) F5 m4) (by rw [if_neg (by decide)]; exact m3')) (by rw [if_neg (by decide), if_neg (by decide)]; exact m2)) (by rw [if_neg (by decide), if_neg (by decide), if_neg (by decide)]; exact m1)
    clear F5
    refine wpC_execs_cons (wpC_of ?_)
    iterate 2 walk_at "go1"
    refine LCg.ListComp_U (F₀ := F6) (by with_unfolding_all rfl) (by decide) (by rfl) (by decide) (by rfl) ?_
    iterate 10 walk_at "go1"
    refine len_row N5 (.tail _ (.tail _ (.tail _ (.tail _ (.tail _ (.tail _ (.tail _ (.head _)))))))) (by omega) (fun t3 tk3 => ?_)
    rw [hsl]
    iterate 2 walk_at "go1"
    (rename IsRange _ _ _ _ _ _ _ _ => hR2)
    (rename Fr _ _ _ _ => F7)
    (rename News _ _ _ _ => N7)
    refine LCg.CompSrc.range rfl F7 N7 hR2 (sm_up (by omega)) (rs_up _) (by rw [PySem.sizeLine_eq]; omega) ?_
    intro g2
    refine kcf_range (fun k => ((i : Int).fdiv (2 ^ k.toNat)).fmod 2) (fun k t I oI C oC D m' ys h tk E' hlo hhi hC hx F8 N8 off ne' _ => ?_) ?_
    · iterate 4 walk_at "go1"
      iterate 2 walk_at "go1"
      obtain ⟨hk6, hk3⟩ := kle hhi (shape_len3 hs)
      refine pow_int_small hlo hk6 (by decide) ?_
      refine floordiv_int (Int.ne_of_gt (kbt_pos _)) ?_ (Or.inl (PyProof.noPylong_small (pow_small hk3)))
      iterate 1 walk_at "go1"
      refine mod_int' (by decide) ?_
      exact LCg.CompEnd.intro F8 N8 _ (fun p hp => hp) off trivial (kcf_el rfl rfl rfl)
    · intro uv huv
      intro UA h8 tk8 F8 N8 off8
      dsimp only
      iterate 4 walk_at "go1"
      iterate 1 walk_at "go1"
      rename_i ZA h9 F9 N9 l9
      have hZA := (N9 _ (.head _)).1
      have huvl : uv.length = szs.length := by rw [huv.length, List.length_map, rangeKs_length]
      refine kmk_add_ints (vs := uv) (ws := [_]) (ms := [0]) F9 N9 (PySem.IsL.isList (n := uv.length) (N9 (UA, LCg.lst uv) (.tail _ (.head _))).1) (PySem.IsL.isList (n := 0) hZA) huv (.cons _ _ .nil) (fun VA uv2 h10 F10 N10 l10 I10 => ?_) ?z1
      case z1 => rw [List.length_map, rangeKs_length, sizeLine_eq]; simp only [List.length_singleton]; exact add_small (shape_len3 hs)
      have lVA : ∀ p ∈ (I9, oI9) :: (L + 1 + 1 + 1 + 1, oc) :: (EA, listOf yv.toArray nE) :: (L + 1 + 1 + 1 + 1 + 1, oT) :: (L + 1 + 1 + 1, o3) :: (TX, listOf txv.toArray nX) :: (PR, listOf pv.toArray nP) :: (SZ, listOf sv.toArray nZ) :: fro2, p.1 < VA := fun p hp => l10 p (.tail _ (.tail _ hp))
      have N11 := kst_newsOf (l' := (L + 1 + 1 + 1 + 1 + 1, oT) :: (VA, listOf uv2.toArray 0) :: (I9, oI9) :: (L + 1 + 1 + 1 + 1, oc) :: (EA, listOf yv.toArray nE) :: (L + 1 + 1 + 1, o3) :: (TX, listOf txv.toArray nX) :: (PR, listOf pv.toArray nP) :: (SZ, listOf sv.toArray nZ) :: fro2) N10 (by
        intro p hp
        simp only [List.mem_cons] at hp ⊢
        rcases hp with rfl | rfl | rfl | rfl | rfl | rfl | rfl | rfl | rfl | hp <;> simp only [true_or, or_true, *])
      refine storeX_C (c := L + 1 + 1 + 1 + 1 + 1) F10 N11 rfl (.head ?offT) dT (fun h12 oT2 F12 N12 dT2 => ?_) rfl rfl
      case offT =>
        intro p hp
        simp only [List.mem_cons] at hp
        rcases hp with rfl | rfl | rfl | rfl | rfl | rfl | rfl | rfl | hp
        · exact Nat.ne_of_gt (lVA (L + 1 + 1 + 1 + 1 + 1, oT) (.tail _ (.tail _ (.tail _ (.head _)))))
        · exact Ne.symm (hI9 (L + 1 + 1 + 1 + 1 + 1, oT) (.tail _ (.head _))).1
        · exact Ne.symm (ne 4 5 (by decide) (by decide) (by decide))
        · exact Nat.ne_of_gt lE.1
        · exact Ne.symm (ne 4 6 (by decide) (by decide) (by decide))
        · exact ne 1 4 (by decide) (by decide) (by decide)
        · exact ne 2 4 (by decide) (by decide) (by decide)
        · exact ne 3 4 (by decide) (by decide) (by decide)
        · exact (hoff2 p hp).2
      have etn : (rangeKs 0 szs.length).map (fun k => ((i : Int).fdiv (2 ^ k.toNat)).fmod 2) ++ [0] = turnsOf szs.length i := by
        unfold turnsOf rangeKs
        rw [List.map_map]
        congr 1
        refine List.map_congr_left fun k _ => ?_
        show ((i : Int).fdiv (2 ^ (0 + (k : Int)).toNat)).fmod 2 = _
        rw [Int.zero_add, Int.toNat_natCast]
      rw [etn] at I10
      (try clear N11); (try clear N10); (try clear F10); (try clear hZA); (try clear N9); (try clear F9); (try clear N8); (try clear F8)
      dsimp only
      refine wpC_execs_cons (wpC_of ?_)
      iterate 5 walk_at "go1"
      refine LCt.ListComp_T (F₀ := F12) (by with_unfolding_all rfl) (by decide) (by rfl) (by decide) (by rfl) ?_
      iterate 10 walk_at "go1"
      refine len_row N12 (.tail _ (.tail _ (.tail _ (.tail _ (.tail _ (.tail _ (.tail _ (.tail _ (.head _))))))))) (by omega) (fun t4 tk4 => ?_)
      rw [hsl]
      iterate 2 walk_at "go1"
      (rename IsRange _ _ _ _ _ _ _ _ => hR3)
      (rename Fr _ _ _ _ => F13)
      (rename News _ _ _ _ => N13)
      refine LCt.CompSrcT.range rfl F13 N13 hR3 (sm_up (by omega)) (rs_up _) (by rw [PySem.sizeLine_eq]; omega) ?_
      intro g3
      refine kci_range (fun l k => if ((turnsOf szs.length i).getD k.toNat 0 != (turnsOf szs.length i).getD (k + 1).toNat 0) = true then l ++ [prs.getD k.toNat 0] else l) (fun k t I oI C oC D m' ys l h tk E' hlo hhi hIl hC hx F14 N14 off ne' _ => ?_) ?_ ?_
      · obtain ⟨hk6, hk3⟩ := kle hhi (shape_len3 hs)
        have htl : (turnsOf szs.length i).length = szs.length + 1 := by unfold turnsOf; rw [List.length_append, List.length_map, List.length_range]; rfl
        have hk7 := klt hhi htl (shape_len3 hs)
        iterate 4 walk_at "go1"
        with_unfolding_all refine kim_ints (ns := turnsOf szs.length i) N14 (.tail _ (.tail _ (.tail _ (.tail _ (.head _))))) I10 hlo hk7.1 hk7.2.2 (fun t5 => ?_)
        iterate 4 walk_at "go1"
        iterate 1 walk_at "go1"
        refine add_int ?_
        with_unfolding_all refine kim_ints (ns := turnsOf szs.length i) N14 (.tail _ (.tail _ (.tail _ (.tail _ (.head _))))) I10 (kplus hlo) hk7.2.1 hk7.2.2 (fun t6 => ?_)
        refine ne_int (wpAny_truthy_bool ?_)
        dsimp only
        cases hb : ((turnsOf szs.length i).getD k.toNat 0 != (turnsOf szs.length i).getD (k + 1).toNat 0) with
        | true =>
          rw [if_pos rfl]
          iterate 3 walk_at "go1"
          with_unfolding_all refine kim_ints (ns := prs) N14 (by k_mem) IP hlo (kpr hhi hp) (kpr2 hp (shape_len3 hs)) (fun t7 => ?_)
          exact LCg.CompEnd.intro F14 N14 _ (fun p hp => hp) off trivial (kci_el rfl rfl rfl)
        | false =>
          rw [if_neg (by decide)]
          exact LCg.CompEnd.intro F14 N14 _ (fun p hp => hp) off trivial (kci_no rfl rfl)
      · intro wv hwv hwl
        intro WA h15 tk15 F15 N15 off15
        dsimp only
        iterate 1 walk_at "go1"
        refine sumK rfl F15 N15 (PySem.IsL.isList (n := wv.length) (N15 (WA, LCg.lst wv) (.head _)).1) hwv (fun h16 tk16 t16 F16 N16 => ?_)
        rw [price_fold _ _ _ hp]
        (try clear F15); (try clear N15)
        iterate 1 walk_at "go1"
        dsimp only
        refine wpC_execs_cons (wpC_of ?_)
        iterate 9 walk_at "go1"
        iterate 3 walk_at "go1"
        rename_i XA h17 F17 N17 l17
        iterate 10 walk_at "go1"
        have hfix := lenfix (text := text) hs hl
        refine ⟨X.keeps F17.keep, turned_spec (tA := TX) (sA := SZ) (uA := VA) B F17 X N17 T rfl (by k_mem) (by k_mem) (by k_mem) IX IZ I10 ?s1 (shape_len3 hs) hfix.2 (shape_item hs) ?s2 (by decide +kernel) (by decide +kernel) (fun OA ov nO h18 tk18 F18 N18 l18 I18 => ?_)⟩
        case s1 => unfold turnsOf; rw [List.length_append, List.length_map, List.length_range]; exact Nat.le_succ _
        case s2 =>
          intro p hp'
          rw [hl] at hp' ⊢
          exact there_in hs hi hp'
        have hXA := (N18 _ (.tail _ (.head _))).1
        refine kmk_add_ints (vs := [_]) (ns := [priceOf prs (turnsOf szs.length i)]) F18 N18 (PySem.IsL.isList (n := 0) hXA) (PySem.IsL.isList (n := nO) (N18 (OA, _) (.head _)).1) (.cons _ _ .nil) I18 (fun RA rv h19 F19 N19 l19 I19 => ?_) ?z2
        case z2 =>
          have e1 : (turned text szs (turnsOf szs.length i)).length = text.length := by unfold turned; rw [List.length_map, List.length_range]
          rw [e1, sizeLine_eq, List.length_singleton]
          exact hfix.1
        iterate 1 walk_at "go1"
        have lRA : ∀ p ∈ (L + 1 + 1 + 1 + 1 + 1, oT2) :: (VA, listOf uv2.toArray 0) :: (I9, oI9) :: (L + 1 + 1 + 1 + 1, oc) :: (EA, listOf yv.toArray nE) :: (L + 1 + 1 + 1, o3) :: (TX, listOf txv.toArray nX) :: (PR, listOf pv.toArray nP) :: (SZ, listOf sv.toArray nZ) :: fro2, p.1 < RA := fun p hp => l19 p (.tail _ (.tail _ (.tail _ hp)))
        have N20 := kst_newsOf (l' := (EA, listOf yv.toArray nE) :: (I9, oI9) :: (L + 1 + 1 + 1 + 1, oc) :: (L + 1 + 1 + 1 + 1 + 1, oT2) :: (L + 1 + 1 + 1, o3) :: (TX, listOf txv.toArray nX) :: (PR, listOf pv.toArray nP) :: (SZ, listOf sv.toArray nZ) :: (RA, listOf rv.toArray 0) :: fro2) N19 (by
          intro p hp
          simp only [List.mem_cons] at hp ⊢
          rcases hp with rfl | rfl | rfl | rfl | rfl | rfl | rfl | rfl | rfl | hp <;> simp only [true_or, or_true, *])
        have hyl : yv.length = i := by rw [RY.1, List.length_map, List.length_range]
        have lE4 := lRA (L + 1 + 1 + 1 + 1, oc) (.tail _ (.tail _ (.tail _ (.head _))))
        have lE5 := lRA (L + 1 + 1 + 1 + 1 + 1, oT2) (.head _)
        have lEE := lRA (EA, listOf yv.toArray nE) (.tail _ (.tail _ (.tail _ (.tail _ (.head _)))))
        have lEI := lRA (I9, oI9) (.tail _ (.tail _ (.head _)))
        refine append_K F19 N20 (Upd.head ?offE) (fun h21 F21 N21 => ?_) ?z3
        case z3 => rw [List.size_toArray, sizeLine_eq, hyl]; exact lt_fix hi h28.2
        case offE =>
          intro p hp
          simp only [List.mem_cons] at hp
          rcases hp with rfl | rfl | rfl | rfl | rfl | rfl | rfl | rfl | hp
          · exact Ne.symm (hI9 (EA, listOf yv.toArray nE) (.head _)).1
          · exact Ne.symm (hI9 (EA, listOf yv.toArray nE) (.head _)).2
          · exact Nat.ne_of_lt lE.1
          · exact Nat.ne_of_lt lE.2.2.1
          · exact Nat.ne_of_lt lE.2.2.2.2.1
          · exact Nat.ne_of_lt lE.2.2.2.2.2.1
          · exact Nat.ne_of_lt lE.2.2.2.2.2.2.1
          · exact Nat.ne_of_gt lEE
          · exact (hoff2 p hp).1
        rw [List.push_toArray] at N21
        dsimp only
        refine wpC_of (wpAny_execs_nil ⟨rfl, _, (EA, listOf (yv ++ [Value.ref RA]).toArray (nE + 1)) :: (L + 1 + 1 + 1 + 1 + 1, oT2) :: (L + 1 + 1 + 1, o3) :: (TX, listOf txv.toArray nX) :: (PR, listOf pv.toArray nP) :: (SZ, listOf sv.toArray nZ) :: (RA, listOf rv.toArray 0) :: fro2, h21, _, rfl, F21, ?tN, ?tO, yv ++ [Value.ref RA], nE + 1, oT2, _, (RA, listOf rv.toArray 0) :: fro2, rfl, dT2, fun p hp => .tail _ (hsub2 p hp), ?tO2, ?tR, rfl, rfl, rfl, rfl⟩)
        case tN =>
          refine kst_newsOf N21 ?_
          intro p hp
          simp only [List.mem_cons] at hp ⊢
          rcases hp with rfl | rfl | rfl | rfl | rfl | rfl | rfl | rfl | rfl | hp <;> simp only [true_or, or_true, *]
        case tO =>
          intro p hp
          simp only [List.mem_cons] at hp
          rcases hp with rfl | rfl | rfl | rfl | rfl | rfl | rfl | hp
          · exact hI9 (EA, listOf yv.toArray nE) (.head _)
          · exact hI9 (L + 1 + 1 + 1 + 1 + 1, oT) (.tail _ (.head _))
          · exact hI9 (L + 1 + 1 + 1, o3) (.tail _ (.tail _ (.head _)))
          · exact hI9 (TX, listOf txv.toArray nX) (.tail _ (.tail _ (.tail _ (.head _))))
          · exact hI9 (PR, listOf pv.toArray nP) (.tail _ (.tail _ (.tail _ (.tail _ (.head _)))))
          · exact hI9 (SZ, listOf sv.toArray nZ) (.tail _ (.tail _ (.tail _ (.tail _ (.tail _ (.head _))))))
          · exact ⟨Nat.ne_of_gt lEI, Nat.ne_of_gt lE4⟩
          · exact hI9 p (List.mem_append_right [_, _, _, _, _, _] hp)
        case tO2 =>
          intro p hp
          rcases List.mem_cons.mp hp with rfl | hp
          · exact ⟨Nat.ne_of_gt lEE, Nat.ne_of_gt lE5⟩
          · exact hoff2 p hp
        case tR =>
          have eP : priceOf prs (turnsOf szs.length i) = S.P i := by rw [eS]; rfl
          have eT : turned text szs (turnsOf szs.length i) = S.T i := by rw [eS]; rfl
          rw [List.range_succ, List.map_append]
          refine rowsIn_push (rowsIn_sub RY fun p hp => .tail _ hp) ⟨RA, rv, 0, rfl, .head _, ?_⟩ ?_
          · show IntsAre rv (S.P i :: S.T i)
            rw [← eP, ← eT]; exact I19
          · show (S.P i :: S.T i).length = text.length + 1
            rw [← eT, List.length_cons]; unfold turned; rw [List.length_map, List.length_range]
      · intro l k
        dsimp only
        split
        · rw [List.length_append]; exact Nat.le_refl _
        · exact Nat.le_succ _
  · rintro m3 _ h5 tk5 ⟨yv, nE, oT, vT, fro2, rfl, dT, hsub2, hoff2, RY, m1, m2, m3', m4⟩ F5 N5
    have F6 := fr_put (Str.ofString "told") (.ref TA) (fr_put (Str.ofString "every") (.ref EA) F5 m2) (by rw [if_neg (by decide)]; exact m1)
    have hNS : S.N = 2 ^ szs.length := by rw [eS]; rfl
    have htl := len_facts hs
    refine partD (s := s) (W := text.length) (fro := fro2) (nT := nT) (nE := nE) (rows := (List.range (2 ^ szs.length)).map fun n => S.P n :: S.T n) ho X T F6 ?dN (rowsIn_sub RT fun p hp => hsub2 p (.tail _ hp)) RY htold ?d2 ?d8 (by rw [hl]; exact htl.2) ?dk hQ
    case dN =>
      intro p hp
      rcases List.mem_cons.mp hp with rfl | hp
      · exact N5 _ (List.mem_append_right [_, _, _, _, _, _] (hsub2 _ (.head _)))
      rcases List.mem_cons.mp hp with rfl | hp
      · exact N5 _ (.head _)
      · exact N5 _ (List.mem_append_right [_, _, _, _, _, _] hp)
    case d2 => rw [List.length_map, List.length_range]; exact h28.1
    case d8 => rw [List.length_map, List.length_range]; exact h28.2
    case dk =>
      intro l hperm hsort
      refine told_due I hsort fun r => ?_
      rw [hperm.mem_iff, List.mem_map, hNS]
      constructor
      · rintro ⟨n, hn, rfl⟩; exact ⟨n, List.mem_range.mp hn, rfl⟩
      · rintro ⟨n, hn, rfl⟩; exact ⟨n, List.mem_range.mpr hn, rfl⟩
end Mine
end
section
open PySem PySem.W PyProof.Rows PySem.Calls
set_option maxRecDepth 100000
set_option maxHeartbeats 4000000
namespace Mine
local macro_rules | `(tactic| walk_at "go1") => `(tactic| (first | (k_unfold; (try dsimp only)) | walk1 | (dsimp only; walk1)))
theorem partB : ∀ {w : World} {mean : ExcName → Option Value} {mg mb : Str → Option Value} {s : Shared} {oc : Value} {od : Option Addr} {osl : Array (Option Value)} {name qual : Str} {params : Arguments} {body : List Stmt} {scope : Scope} {dV kV doc pm cdv ct : Value} {an : Option Addr}
    {L : Addr} {h : Heap} {tk : Nat} {m₀ : Str → Option Value} {Q : Flow → Shared → Prop} {HA SA TA TX WA SZ PR R0 : Addr} {r0 txv wv pv sv : List Value} {nW nT nX nP nZ : Nat} {o3 o4 o5 : Obj} {v4 v5 : Option Value} {text szs prs : List Int},
    (hd.heap_39 w.params).lookup 61 = some ⟨oc, od, .func (fnOf name qual params body scope dV kV doc pm an cdv ct), osl⟩ →
    (hd.heap_39 w.params).In s.heap → Top hd.view_39 (looseW hd.view_39 []) mean mg mb s.heap →
    Fr s.heap L h (fun y => if y = Str.ofString "told" then some (.ref TA) else if y = Str.ofString "seen" then some (.ref SA) else if y = Str.ofString "heap" then some (.ref HA) else if y = Str.ofString "text" then some (.ref TX) else
      if y = Str.ofString "widths" then some (.ref WA) else if y = Str.ofString "sizes" then some (.ref SZ) else m₀ y) →
    News s.heap L h [(HA, listOf #[.ref R0] 0), (SA, listOf #[] 0), (TA, listOf #[] 0), (R0, listOf r0.toArray nT), (TX, listOf txv.toArray nX), (WA, listOf wv.toArray nW), (PR, listOf pv.toArray nP), (SZ, listOf sv.toArray nZ), (L + 1 + 1 + 1 + 1 + 1, o5), (L + 1 + 1 + 1 + 1, o4), (L + 1 + 1 + 1, o3)] →
    [HA, SA, TA, R0, TX, WA, PR, SZ, L + 1 + 1 + 1 + 1 + 1, L + 1 + 1 + 1 + 1, L + 1 + 1 + 1].Nodup →
    o3.data = .cell (some (.ref PR)) → o4.data = .cell v4 → o5.data = .cell v5 →
    IntsAre r0 (0 :: text) → IntsAre txv text → IntsAre wv (wIntsOf szs) → IntsAre pv prs → IntsAre sv szs →
    szs ∈ shapes → text.length = lenOf szs → (∀ x ∈ text, 0 ≤ x ∧ x < 4) → prs.length = szs.length → (∀ x ∈ prs, 1 ≤ x) →
    (∀ s', (∀ b o, s.heap.get? b = some o → s'.heap.get? b = some o) → s'.os = s.os → s'.gens = s.gens → Q (.ret (.bool true)) s') →
    wpC (model PySem.Challenge.rw_oc0017_01.row.prog w) (callerA.deeper (envOfC qual scope L 61 cdv)) (execs (body.drop 11) (envOfC qual scope L 61 cdv)) Q { s with heap := h, toks := tk } := by
  w_top off
  k_fill
  intro w mean mg mb s oc od osl name qual params body scope dV kV doc pm cdv ct an L h tk m₀ Q HA SA TA TX WA SZ PR R0 r0 txv wv pv sv nW nT nX nP nZ o3 o4 o5 v4 v5 text szs prs ho X T F N nd d3 d4 d5 I0 IX IW IP IZ hs hl ht4 hp hpr hQ
  k_dflt (refine' with_law (K := hd.heap_39 w.params) (f := 61) ?ho ?_; (case ho => k_is))
  intro ho'
  have e := ho.symm.trans ho'
  clear ho'
  cases e
  have B := below_caller s.heap
  have ne := fun (i j : Nat) (hi : i < 11) (hj : j < 11) (hij : i < j) => List.pairwise_iff_getElem.mp nd i j hi hj hij
  have nHS : HA ≠ SA := ne 0 1 (by decide) (by decide) (by decide)
  have nHT : HA ≠ TA := ne 0 2 (by decide) (by decide) (by decide)
  have nHW : HA ≠ WA := ne 0 5 (by decide) (by decide) (by decide)
  have nHP : HA ≠ PR := ne 0 6 (by decide) (by decide) (by decide)
  have nHL3 : HA ≠ L + 1 + 1 + 1 := ne 0 10 (by decide) (by decide) (by decide)
  have nST : SA ≠ TA := ne 1 2 (by decide) (by decide) (by decide)
  have nSW : SA ≠ WA := ne 1 5 (by decide) (by decide) (by decide)
  have nSP : SA ≠ PR := ne 1 6 (by decide) (by decide) (by decide)
  have nS3 : SA ≠ L + 1 + 1 + 1 := ne 1 10 (by decide) (by decide) (by decide)
  have nTW : TA ≠ WA := ne 2 5 (by decide) (by decide) (by decide)
  have nTP : TA ≠ PR := ne 2 6 (by decide) (by decide) (by decide)
  have nT3 : TA ≠ L + 1 + 1 + 1 := ne 2 10 (by decide) (by decide) (by decide)
  obtain ⟨S, eS⟩ : ∃ S, S = sysOf szs text prs hs hl hp hpr := ⟨_, rfl⟩
  refine wpC_execs_cons (wpC_While ?_)
  refine codeC_whileLoop (fun n s' => ∃ (H told : Rows) (hv ev tv : List Value) (nH nS nT : Nat) (fro : List (Addr × Obj)) (m₁ : Str → Option Value) (h : Heap) (tk : Nat),
    s' = { s with heap := h, toks := tk } ∧
    Fr s.heap L h (fun y => if y = Str.ofString "told" then some (.ref TA) else if y = Str.ofString "seen" then some (.ref SA) else if y = Str.ofString "heap" then some (.ref HA) else if y = Str.ofString "text" then some (.ref TX) else
      if y = Str.ofString "widths" then some (.ref WA) else if y = Str.ofString "sizes" then some (.ref SZ) else m₁ y) ∧
    News s.heap L h ((HA, listOf hv.toArray nH) :: (SA, listOf ev.toArray nS) :: (TA, listOf tv.toArray nT) :: (WA, listOf wv.toArray nW) :: (L + 1 + 1 + 1, o3) :: (PR, listOf pv.toArray nP) :: fro) ∧
    (∀ p ∈ fro, p.1 ≠ HA ∧ p.1 ≠ SA ∧ p.1 ≠ TA) ∧ (TX, listOf txv.toArray nX) ∈ fro ∧ (SZ, listOf sv.toArray nZ) ∈ fro ∧ (L + 1 + 1 + 1 + 1 + 1, o5) ∈ fro ∧ (L + 1 + 1 + 1 + 1, o4) ∈ fro ∧
    RowsIn (text.length + 1) fro hv H ∧ RowsIn (text.length + 1) fro tv told ∧ RowsIn text.length fro ev (texts told) ∧ S.Inv H told ∧ S.mes H told = n ∧ n ≤ 33) ?turn (S.mes [0 :: text] []) ?init
  case init =>
    have et0 : S.T 0 = text := by rw [eS]; exact turned_zero hs hl
    have I1 : S.Inv [0 :: text] [] := by have := S.init; rwa [et0] at this
    have hm1 : S.mes [0 :: text] [] ≤ 4 * S.N + 1 := by have := S.mes_init; rwa [et0] at this
    have hN8 : S.N ≤ 8 := by rw [eS]; exact (two_pow_le hs).2
    refine ⟨[0 :: text], [], [.ref R0], [], [], 0, 0, 0, [(R0, listOf r0.toArray nT), (TX, listOf txv.toArray nX), (SZ, listOf sv.toArray nZ), (L + 1 + 1 + 1 + 1 + 1, o5), (L + 1 + 1 + 1 + 1, o4)], _, h, tk, rfl, F, kst_newsOf N ?iN, ?ioff, ?im1, ?im2, ?im3, ?im4, ?iRH, ?iRT, ?iRS, I1, rfl, by omega⟩
    case iN =>
      repeat' (first | exact List.forall_mem_nil _ | (refine List.forall_mem_cons.mpr ⟨?_, ?_⟩))
      all_goals (repeat (first | exact List.Mem.head _ | refine List.Mem.tail _ ?_))
    case ioff =>
      intro p hp
      simp only [List.mem_cons, List.not_mem_nil, or_false] at hp
      rcases hp with rfl | rfl | rfl | rfl | rfl
      · exact ⟨Ne.symm (ne 0 3 (by decide) (by decide) (by decide)), Ne.symm (ne 1 3 (by decide) (by decide) (by decide)), Ne.symm (ne 2 3 (by decide) (by decide) (by decide))⟩
      · exact ⟨Ne.symm (ne 0 4 (by decide) (by decide) (by decide)), Ne.symm (ne 1 4 (by decide) (by decide) (by decide)), Ne.symm (ne 2 4 (by decide) (by decide) (by decide))⟩
      · exact ⟨Ne.symm (ne 0 7 (by decide) (by decide) (by decide)), Ne.symm (ne 1 7 (by decide) (by decide) (by decide)), Ne.symm (ne 2 7 (by decide) (by decide) (by decide))⟩
      · exact ⟨Ne.symm (ne 0 8 (by decide) (by decide) (by decide)), Ne.symm (ne 1 8 (by decide) (by decide) (by decide)), Ne.symm (ne 2 8 (by decide) (by decide) (by decide))⟩
      · exact ⟨Ne.symm (ne 0 9 (by decide) (by decide) (by decide)), Ne.symm (ne 1 9 (by decide) (by decide) (by decide)), Ne.symm (ne 2 9 (by decide) (by decide) (by decide))⟩
    case im1 => exact .tail _ (.head _)
    case im2 => exact .tail _ (.tail _ (.head _))
    case im3 => exact .tail _ (.tail _ (.tail _ (.head _)))
    case im4 => exact .tail _ (.tail _ (.tail _ (.tail _ (.head _))))
    case iRH =>
      refine ⟨rfl, fun i v r h1 h2 => ?_⟩
      rcases Nat.eq_zero_or_pos i with rfl | hi
      · cases h1
        cases h2
        exact ⟨⟨R0, r0, nT, rfl, .head _, I0⟩, rfl⟩
      · rw [List.getElem?_eq_none (by simp only [List.length_singleton]; omega)] at h1
        cases h1
    case iRT => exact ⟨rfl, fun i v r h1 h2 => by simp at h1⟩
    case iRS => exact ⟨rfl, fun i v r h1 h2 => by simp at h1⟩
  case turn =>
    rintro n s' ⟨H, told, hv, ev, tv, nH, nS, nT', fro, m₁, h', tk', rfl, F1, N1, hoff, hTX, hSZ, h5, h4m, RH, RT, RS, I, hmes, hn⟩
    have hHl : hv.length = H.length := RH.1
    have hHb : H.length ≤ 33 := by unfold Sys.mes at hmes; omega
    iterate 2 walk_at "go1"
    refine kgr_truthy N1 (List.Mem.head _) rfl rfl (by omega) ?_
    rcases Nat.eq_zero_or_pos H.length with hH0 | hH0
    · have e0 : H = [] := List.length_eq_zero_iff.mp hH0
      subst e0
      rw [hH0] at hHl
      have ev0 : hv = [] := List.length_eq_zero_iff.mp hHl
      subst ev0
      rw [if_neg (by decide)]
      refine wpC_of (wpAny_execs_nil ?_)
      have Nf : News s.heap L h' fro := fun p hp => N1 p (List.mem_append_right [_, _, _, _, _, _] hp)
      have htold8 : told.length ≤ 8 := by
        have h1 := I.told_le
        have h2 := two_pow_le hs
        rw [eS] at h1
        have h3 : told.length ≤ 2 ^ szs.length := h1
        omega
      subst eS
      have F2 := fr_put (Str.ofString "told") (.ref TA) (fr_put (Str.ofString "text") (.ref TX) (fr_put (Str.ofString "sizes") (.ref SZ) F1 (by rfl)) (by rfl)) (by rfl)
      refine partC (s := s) (fro := fro.filter fun p => p.1 != L + 1 + 1 + 1 + 1 + 1 && p.1 != L + 1 + 1 + 1 + 1) (nT := nT') (nX := nX) (nP := nP) (nZ := nZ) hs hl hp hpr ho X T F2 ?cN ?coff ?cnd d3 d4 d5 IX IP IZ (rowsIn_filter Nf h5 h4m d5 d4 RT) htold8 I hQ
      case cN =>
        intro p hp
        simp only [List.mem_cons] at hp
        rcases hp with rfl | rfl | rfl | rfl | rfl | rfl | rfl | hp
        · exact Nf _ h5
        · exact Nf _ h4m
        · exact N1 _ (.tail _ (.tail _ (.tail _ (.tail _ (.head _)))))
        · exact N1 _ (.tail _ (.tail _ (.head _)))
        · exact Nf _ hTX
        · exact N1 _ (.tail _ (.tail _ (.tail _ (.tail _ (.tail _ (.head _))))))
        · exact Nf _ hSZ
        · exact Nf _ (List.mem_filter.mp hp).1
      case coff =>
        intro p hp
        have := (List.mem_filter.mp hp).2
        simpa only [Bool.and_eq_true, bne_iff_ne, ne_eq] using this
      case cnd =>
        exact List.Pairwise.sublist (.cons _ (.cons _ (.cons_cons _ (.cons _ (.cons_cons _ (.cons _ (.cons_cons _ (.cons_cons _ (.cons_cons _ (.cons_cons _ (.cons_cons _ .slnil))))))))))) nd
    · have hve : hv.isEmpty = false := by
        cases hv with
        | nil => simp at hHl; omega
        | cons a l => rfl
      rw [hve]
      rw [if_pos (by rfl)]
      dsimp only
      refine wpC_execs_cons (wpC_of ?_)
      iterate 7 walk_at "go1"
      refine ⟨X.keeps F1.keep, ?_⟩
      refine heappop_spec (fr2 := fro) B F1 X N1 T rfl ?_ (fun p hp => List.mem_append_right [_, _, _, _, _] hp) RH hH0 (by omega) (by decide +kernel) (by decide +kernel) (fun r hv2 nH2 h2 tk2 F2 N2 RH2 Rr => ?_)
      · intro p hp
        simp only [List.mem_cons] at hp
        rcases hp with rfl | rfl | rfl | rfl | rfl | hp
        · exact Ne.symm nHS
        · exact Ne.symm nHT
        · exact Ne.symm nHW
        · exact Ne.symm nHL3
        · exact Ne.symm nHP
        · exact (hoff p hp).1
      dsimp only
      iterate 1 walk_at "go1"
      obtain ⟨ra, rvs, rn, er, hrm, hrI⟩ := Rr
      cases er
      refine wpC_execs_cons (wpC_If ?_)
      iterate 8 walk_at "go1"
      have hrl : (H.getD 0 []).length = text.length + 1 := by
        obtain ⟨_, _, _, _, _, _, hq⟩ := rowsIn_get RH hH0
        exact hq
      have htl : text.length ≤ 27 := by
        rw [hl]
        have : ∀ z ∈ shapes, lenOf z ≤ 27 := by decide +kernel
        exact this szs hs
      (rename Fr _ _ _ _ => F3)
      (rename News _ _ _ _ => N3)
      with_unfolding_all refine slice1 (s := ⟨_, _, _, _, _⟩) F3 N3 (List.mem_append_right [_, _, _, _, _, _] hrm) hrI (by rw [hrl]; omega) (fun D ws h4 F4 N4 l4 I4 => ?_)
      iterate 1 walk_at "go1"
      rw [List.drop_one] at I4
      refine not_in N4 (List.Mem.tail _ (List.Mem.tail _ (List.Mem.head _))) (fun p hp => List.mem_append_right [_, _, _, _, _, _, _] hp) RS ⟨D, ws, 0, rfl, List.Mem.head _, I4⟩ (of_decide_eq_true (by with_unfolding_all rfl)) ?_
      have eat : at' H 0 = H.getD 0 [] := rfl
      by_cases hin : (H.getD 0 []).tail ∈ texts told
      · have ec : (!(texts told).contains (H.getD 0 []).tail) = false := by rw [List.contains_eq_mem, decide_eq_true hin]; rfl
        rw [ec]
        iterate 1 walk_at "go1"
        rw [if_neg (by decide)]
        obtain ⟨I', hm'⟩ := I.skip hH0 hin
        refine wpC_of (wpAny_execs_nil (wpC_of (wpAny_execs_nil ?_)))
        exact ⟨S.mes (hpop H) told, by omega, hpop H, told, hv2, ev, tv, nH2, nS, nT', fro, _, h4, _, rfl, fr_std F4 (by rfl) (by rfl) (by rfl) (by rfl) (by rfl) (by rfl), (fun p hp => N4 p (List.Mem.tail _ hp)), hoff, hTX, hSZ, h5, h4m, RH2, RT, RS, I', rfl, by omega⟩
      · have ec : (!(texts told).contains (H.getD 0 []).tail) = true := by rw [List.contains_eq_mem, decide_eq_false hin]; rfl
        rw [ec]
        iterate 1 walk_at "go1"
        rw [if_pos (by rfl)]
        refine wpC_execs_cons (wpC_of ?_)
        iterate 13 walk_at "go1"
        (rename Fr _ _ _ _ => F5)
        (rename News _ _ _ _ => N5)
        with_unfolding_all refine slice1 (s := ⟨_, _, _, _, _⟩) F5 N5 (List.mem_append_right [_, _, _, _, _, _, _] hrm) hrI (by rw [hrl]; omega) (fun D2 ws2 h6 F6 N6 l6 I6 => ?_)
        iterate 1 walk_at "go1"
        rw [List.drop_one] at I6
        have lH : HA < D2 := l6 (HA, _) (.tail _ (.head _))
        have lS : SA < D2 := l6 (SA, _) (.tail _ (.tail _ (.head _)))
        have lT : TA < D2 := l6 (TA, _) (.tail _ (.tail _ (.tail _ (.head _))))
        have N7 : News s.heap L h6 ((SA, listOf ev.toArray nS) :: (TA, listOf tv.toArray nT') :: (HA, listOf hv2.toArray nH2) :: (WA, listOf wv.toArray nW) :: (L + 1 + 1 + 1, o3) :: (PR, listOf pv.toArray nP) :: (D2, listOf ws2.toArray 0) :: fro) := by
          intro p hp
          refine N6 p ?_
          rcases List.mem_cons.mp hp with rfl | hp
          · exact .tail _ (.tail _ (.tail _ (.head _)))
          rcases List.mem_cons.mp hp with rfl | hp
          · exact .tail _ (.tail _ (.tail _ (.tail _ (.head _))))
          rcases List.mem_cons.mp hp with rfl | hp
          · exact .tail _ (.tail _ (.head _))
          rcases List.mem_cons.mp hp with rfl | hp
          · exact .tail _ (.tail _ (.tail _ (.tail _ (.tail _ (.head _)))))
          rcases List.mem_cons.mp hp with rfl | hp
          · exact .tail _ (.tail _ (.tail _ (.tail _ (.tail _ (.tail _ (.head _))))))
          rcases List.mem_cons.mp hp with rfl | hp
          · exact .tail _ (.tail _ (.tail _ (.tail _ (.tail _ (.tail _ (.tail _ (.head _)))))))
          rcases List.mem_cons.mp hp with rfl | hp
          · exact .head _
          exact List.mem_append_right [_, _, _, _, _, _, _, _] hp
        have hoff2 : ∀ p ∈ (D2, listOf ws2.toArray 0) :: fro, p.1 ≠ HA ∧ p.1 ≠ SA ∧ p.1 ≠ TA := by
          intro p hp
          rcases List.mem_cons.mp hp with rfl | hp
          · exact ⟨Nat.ne_of_gt lH, Nat.ne_of_gt lS, Nat.ne_of_gt lT⟩
          · exact hoff p hp
        have htold8 : told.length ≤ 33 := by
          have h1 := I.told_le
          have h2 := two_pow_le hs
          rw [eS] at h1
          have h3 : told.length ≤ 2 ^ szs.length := h1
          omega
        have hevl : ev.length = told.length := by rw [RS.1]; simp [texts]
        have htvl : tv.length = told.length := RT.1
        refine append_K F6 N7 (Upd.head ?_) (fun h8 F8 N8 => ?_) (by rw [List.size_toArray, sizeLine_eq]; omega)
        · intro p hp
          simp only [List.mem_cons] at hp
          rcases hp with rfl | rfl | rfl | rfl | rfl | rfl | hp
          · exact Ne.symm nST
          · exact nHS
          · exact Ne.symm nSW
          · exact Ne.symm nS3
          · exact Ne.symm nSP
          · exact Nat.ne_of_gt lS
          · exact (hoff p hp).2.1
        rw [List.push_toArray] at N8
        have N8' : News s.heap L h8 ((TA, listOf tv.toArray nT') :: (SA, listOf (ev ++ [Value.ref D2]).toArray (nS + 1)) :: (HA, listOf hv2.toArray nH2) :: (WA, listOf wv.toArray nW) :: (L + 1 + 1 + 1, o3) :: (PR, listOf pv.toArray nP) :: (D2, listOf ws2.toArray 0) :: fro) := by
          intro p hp
          refine N8 p ?_
          rcases List.mem_cons.mp hp with rfl | hp
          · exact .tail _ (.head _)
          rcases List.mem_cons.mp hp with rfl | hp
          · exact .head _
          · exact .tail _ (.tail _ hp)
        clear N8
        dsimp only
        refine wpC_execs_cons (wpC_of ?_)
        iterate 8 walk_at "go1"
        refine append_K F8 N8' (Upd.head ?_) (fun h9 F9 N9 => ?_) (by rw [List.size_toArray, sizeLine_eq]; omega)
        · intro p hp
          simp only [List.mem_cons] at hp
          rcases hp with rfl | rfl | rfl | rfl | rfl | rfl | hp
          · exact nST
          · exact nHT
          · exact Ne.symm nTW
          · exact Ne.symm nT3
          · exact Ne.symm nTP
          · exact Nat.ne_of_gt lT
          · exact (hoff p hp).2.2
        rw [List.push_toArray] at N9
        have N9' : News s.heap L h9 ((HA, listOf hv2.toArray nH2) :: (SA, listOf (ev ++ [Value.ref D2]).toArray (nS + 1)) :: (TA, listOf (tv ++ [Value.ref r]).toArray (nT' + 1)) :: (WA, listOf wv.toArray nW) :: (L + 1 + 1 + 1, o3) :: (PR, listOf pv.toArray nP) :: (D2, listOf ws2.toArray 0) :: fro) := by
          intro p hp
          refine N9 p ?_
          rcases List.mem_cons.mp hp with rfl | hp
          · exact .tail _ (.tail _ (.head _))
          rcases List.mem_cons.mp hp with rfl | hp
          · exact .tail _ (.head _)
          rcases List.mem_cons.mp hp with rfl | hp
          · exact .head _
          · exact .tail _ (.tail _ (.tail _ hp))
        clear N9
        dsimp only
        refine wpC_execs_cons (wpC_For ?_)
        iterate 10 walk_at "go1"
        have hwl : wv.length = szs.length := by rw [IW.length]; simp [wIntsOf]
        have hK := shape_len hs
        refine len_row N9' (.tail _ (.tail _ (.tail _ (.head _)))) (by omega) (fun t1 tk1 => ?_)
        iterate 2 walk_at "go1"
        (rename IsRange _ _ _ _ _ _ _ _ => hR7)
        (rename Fr _ _ _ _ => F10)
        (rename News _ _ _ _ => N10)
        refine forC (n := wv.length) (fun i m news => ∃ (hv3 : List Value) (nH3 : Nat) (fro3 : List (Addr × Obj)), news = (HA, listOf hv3.toArray nH3) :: (SA, listOf (ev ++ [Value.ref D2]).toArray (nS + 1)) :: (TA, listOf (tv ++ [Value.ref r]).toArray (nT' + 1)) :: (WA, listOf wv.toArray nW) :: (L + 1 + 1 + 1, o3) :: (PR, listOf pv.toArray nP) :: fro3 ∧
          (∀ p ∈ (D2, listOf ws2.toArray 0) :: fro, p ∈ fro3) ∧ (∀ p ∈ fro3, p.1 ≠ HA ∧ p.1 ≠ SA ∧ p.1 ≠ TA) ∧ RowsIn (text.length + 1) fro3 hv3 (S.pushAll (at' H 0) i (hpop H)) ∧
          m (Str.ofString "told") = some (.ref TA) ∧ m (Str.ofString "seen") = some (.ref SA) ∧ m (Str.ofString "heap") = some (.ref HA) ∧ m (Str.ofString "text") = some (.ref TX) ∧ m (Str.ofString "widths") = some (.ref WA) ∧ m (Str.ofString "sizes") = some (.ref SZ) ∧ m (Str.ofString "row") = some (.ref r))
          rfl hR7 (by omega) F10 N10 ⟨hv2, nH2, _, rfl, fun _ h => h, hoff2, rowsIn_sub RH2 (fun p hp => .tail _ hp), rfl, rfl, rfl, rfl, rfl, rfl, rfl⟩ ?_ ?_
        · rintro i t2 m3 _ h11 tk11 I9 oI9 hi ⟨hv3, nH3, fro3, rfl, hsub3, hoff3, RH3, m1, m2, m3', m4, m5, m6, m7⟩ hI9 F11 N11
          have F12 := fr_put (Str.ofString "k") (.int (i : Nat) t2) (fr_put (Str.ofString "row") (.ref r) (fr_std F11 (by rw [if_neg (by decide)]; exact m1) (by rw [if_neg (by decide)]; exact m2) (by rw [if_neg (by decide)]; exact m3') (by rw [if_neg (by decide)]; exact m4) (by rw [if_neg (by decide)]; exact m5) (by rw [if_neg (by decide)]; exact m6))
            (by (repeat rw [if_neg (by decide)]); exact m7)) (by (repeat rw [if_neg (by decide)]); rw [if_pos rfl])
          clear F11
          refine wpC_execs_cons (wpC_Expr (wpC_Call ?_))
          iterate 1 walk_at "go1"
          refine wpC_args_cons (wpC_of ?_)
          iterate 1 walk_at "go1"
          refine wpC_args_cons (wpC_BinOp (wpC_of ?_))
          iterate 6 walk_at "go1"
          have hsubN : ∀ p ∈ fro3, p ∈ (I9, oI9) :: (HA, listOf hv3.toArray nH3) :: (SA, listOf (ev ++ [Value.ref D2]).toArray (nS + 1)) :: (TA, listOf (tv ++ [Value.ref r]).toArray (nT' + 1)) :: (WA, listOf wv.toArray nW) :: (L + 1 + 1 + 1, o3) :: (PR, listOf pv.toArray nP) :: fro3 := fun p hp => List.mem_append_right [_, _, _, _, _, _, _] hp
          with_unfolding_all refine kim_ints (ns := H.getD 0 []) N11 (hsubN _ (hsub3 _ (.tail _ hrm))) hrI (by decide) (by rw [hrl]; omega) (by rw [hrl]; omega) (fun t3 => ?_)
          iterate 3 walk_at "go1"
          with_unfolding_all refine kim_ints (ns := prs) N11 (by k_mem) IP (Int.natCast_nonneg _) (by omega) (by omega) (fun t4 => ?_)
          iterate 3 walk_at "go1"
          rename_i D3 h12 F13 N13 l13
          obtain ⟨nn, qq, hnn, erow, hqq⟩ := I.snd _ (.inl (at_mem hH0))
          have etail : (H.getD 0 []).tail = turned text szs (turnsOf szs.length nn) := by
            rw [← eat, erow, eS]; rfl
          have hrange : ∀ x ∈ (H.getD 0 []).tail, 0 ≤ x ∧ x < 256 := by
            intro x hx
            rw [etail] at hx
            have := turned_range ht4 x hx
            omega
          have htlen : (H.getD 0 []).tail.length = text.length := by rw [List.length_tail, hrl]; omega
          have hiK : i < szs.length := by omega
          obtain ⟨wf1, wf2, wf3⟩ := width_facts hs hiK
          have lf := len_facts hs
          have hsz : (swapB (byteArr (H.getD 0 []).tail) ((widthsOf szs).getD i 0)).size = text.length := by
            unfold swapB; rw [List.size_toArray, List.length_map, List.length_range, byteArr_size, htlen]
          have hswl : (swapL (H.getD 0 []).tail ((widthsOf szs).getD i 0)).length = text.length := by
            unfold swapL; rw [List.length_map, List.length_range, htlen]
          refine wpC_Call ?_
          iterate 1 walk_at "go1"
          refine wpC_args_cons (wpC_Call ?_)
          iterate 1 walk_at "go1"
          refine wpC_args_cons (wpC_of ?_)
          iterate 11 walk_at "go1"
          with_unfolding_all refine slice1 (s := ⟨_, _, _, _, _⟩) F13 N13 (.tail _ (hsubN _ (hsub3 _ (.tail _ hrm)))) hrI (by rw [hrl]; omega) (fun D4 ws4 h14 F14 N14 l14 I14 => ?_)
          iterate 1 walk_at "go1"
          rw [List.drop_one] at I14
          refine call_bytes_ints (PySem.IsL.isList (n := 0) (N14 _ (.head _)).1) I14 hrange (by rw [I14.length, sizeLine_eq]; omega) rfl (fun h15 tb tk15 hk15 => ?_)
          have F15 := F14.kept hk15
          have N15 := N14.grown hk15
          clear F13 N13 F14 N14 hk15
          dsimp only
          refine wpC_args_cons (wpC_of ?_)
          iterate 3 walk_at "go1"
          with_unfolding_all refine kim_ints (ns := wIntsOf szs) N15 (by k_mem) IW (Int.natCast_nonneg _) (by rw [← IW.length]; omega) (by rw [← IW.length]; omega) (fun t5 => ?_)
          rw [Int.toNat_natCast, wf3]
          refine wpC_args_nil ⟨looks_keep (K := hd.heap_39 w.params) (by k_is) (X.keeps F15.keep), ?_⟩
          refine byteswap_spec (n := lenOf szs / (widthsOf szs).getD i 0) B F15 X N15 T rfl wf1 (by rw [byteArr_size, htlen, hl]; exact wf2) (by rw [byteArr_size, htlen, hl]; exact lf.1) (by rw [byteArr_size, htlen, hl]; omega) (by decide +kernel) (by decide +kernel) (fun t6 h16 tk16 F16 N16 => ?_)
          refine wpC_args_nil ⟨⟨_, .inr rfl, Looks.of_pure rfl⟩, wpC_of ?_⟩
          refine call_list_bytes rfl _ _ (by rw [sizeLine_eq, hsz]; omega) (fun h17 tk17 ws17 c17 hk17 hg17 I17 => ?_)
          obtain ⟨F17, N17, hlt17⟩ := news_new F16 N16 hk17 hg17
          rw [swap_ints hrange] at I17
          clear F15 N15 F16 N16 hk17 hg17
          obtain ⟨D5, eD5⟩ : ∃ D5, D5 = Array.size h16.objs := ⟨_, rfl⟩
          rw [← eD5] at N17 hlt17 ⊢
          dsimp only
          have hD3 := (N17 _ (.tail _ (.tail _ (.head _)))).1
          refine kmk_add_ints (vs := [_]) (ns := [(H.getD 0 []).getD 0 0 + prs.getD i 0]) F17 N17 (PySem.IsL.isList (n := 0) hD3) (PySem.IsL.isList (n := c17) (N17 (D5, _) (.head _)).1) (.cons _ _ .nil) I17 (fun D6 ws18 h18 F18 N18 l18 I18 => ?_) ?z
          case z => rw [hswl, sizeLine_eq]; simp; omega
          refine wpC_args_nil ⟨looks_keep (K := hd.heap_39 w.params) (by k_is) (X.keeps F18.keep), wpC_of ?_⟩
          have lH6 : HA < D6 := l18 (HA, _) (.tail _ (.tail _ (.tail _ (.tail _ (.head _)))))
          have lS6 : SA < D6 := l18 (SA, _) (.tail _ (.tail _ (.tail _ (.tail _ (.tail _ (.head _))))))
          have lT6 : TA < D6 := l18 (TA, _) (.tail _ (.tail _ (.tail _ (.tail _ (.tail _ (.tail _ (.head _)))))))
          have lI6 : I9 < D6 := l18 (I9, _) (.tail _ (.tail _ (.tail _ (.head _))))
          have N19 : News s.heap L h18 ((HA, listOf hv3.toArray nH3) :: (I9, oI9) :: (SA, listOf (ev ++ [Value.ref D2]).toArray (nS + 1)) :: (TA, listOf (tv ++ [Value.ref r]).toArray (nT' + 1)) :: (WA, listOf wv.toArray nW) :: (L + 1 + 1 + 1, o3) :: (PR, listOf pv.toArray nP) :: (D6, listOf ws18.toArray 0) :: fro3) := by
            intro p hp
            refine N18 p ?_
            rcases List.mem_cons.mp hp with rfl | hp
            · exact .tail _ (.tail _ (.tail _ (.tail _ (.tail _ (.head _)))))
            rcases List.mem_cons.mp hp with rfl | hp
            · exact .tail _ (.tail _ (.tail _ (.tail _ (.head _))))
            rcases List.mem_cons.mp hp with rfl | hp
            · exact .tail _ (.tail _ (.tail _ (.tail _ (.tail _ (.tail _ (.head _))))))
            rcases List.mem_cons.mp hp with rfl | hp
            · exact .tail _ (.tail _ (.tail _ (.tail _ (.tail _ (.tail _ (.tail _ (.head _)))))))
            rcases List.mem_cons.mp hp with rfl | hp
            · exact .tail _ (.tail _ (.tail _ (.tail _ (.tail _ (.tail _ (.tail _ (.tail _ (.head _))))))))
            rcases List.mem_cons.mp hp with rfl | hp
            · exact .tail _ (.tail _ (.tail _ (.tail _ (.tail _ (.tail _ (.tail _ (.tail _ (.tail _ (.head _)))))))))
            rcases List.mem_cons.mp hp with rfl | hp
            · exact .tail _ (.tail _ (.tail _ (.tail _ (.tail _ (.tail _ (.tail _ (.tail _ (.tail _ (.tail _ (.head _))))))))))
            rcases List.mem_cons.mp hp with rfl | hp
            · exact .head _
            exact List.mem_append_right [_, _, _, _, _, _, _, _, _, _, _] hp
          have hsw : swapL (H.getD 0 []).tail ((widthsOf szs).getD i 0) = S.sw i (at' H 0).tail := by rw [eS]; rfl
          have hpi : prs.getD i 0 = S.pr i := by rw [eS]; rfl
          have hplen : (S.pushAll (at' H 0) i (hpop H)).length < 2 ^ 10 := by
            rw [S.pushAll_len]
            have := hpop_len hH0
            omega
          rw [getD_headD, hpi, hsw] at I18
          have hrow6 : (([(at' H 0).headD 0 + S.pr i] ++ S.sw i (at' H 0).tail).length) = text.length + 1 := by
            rw [← hsw, List.length_append, hswl]; simp; omega
          refine heappush_spec (fr2 := (D6, listOf ws18.toArray 0) :: fro3) (row := ((at' H 0).headD 0 + S.pr i) :: S.sw i (at' H 0).tail) B F18 X N19 T rfl ?off (fun p hp => List.mem_append_right [_, _, _, _, _, _] hp) (rowsIn_sub RH3 fun p hp => .tail _ hp) ⟨D6, ws18, 0, rfl, .head _, I18⟩ hrow6 (by omega) (by decide +kernel) (by decide +kernel) (fun hv4 nH4 h20 tk20 F20 N20 RH4 => ?_)
          case off =>
            intro p hp
            simp only [List.mem_cons] at hp
            rcases hp with rfl | rfl | rfl | rfl | rfl | rfl | rfl | hp
            · exact Ne.symm (hI9 _ (.head _))
            · exact Ne.symm nHS
            · exact Ne.symm nHT
            · exact Ne.symm nHW
            · exact Ne.symm nHL3
            · exact Ne.symm nHP
            · exact Nat.ne_of_gt lH6
            · exact (hoff3 p hp).1
          refine ⟨rfl, wpC_of (wpAny_execs_nil ⟨rfl, _, (HA, listOf hv4.toArray nH4) :: (SA, listOf (ev ++ [Value.ref D2]).toArray (nS + 1)) :: (TA, listOf (tv ++ [Value.ref r]).toArray (nT' + 1)) :: (WA, listOf wv.toArray nW) :: (L + 1 + 1 + 1, o3) :: (PR, listOf pv.toArray nP) :: (D6, listOf ws18.toArray 0) :: fro3, h20, tk20, rfl, F20, ?N, ?offI, hv4, nH4, (D6, listOf ws18.toArray 0) :: fro3, rfl, ?sub, ?off3, ?RH, rfl, rfl, rfl, rfl, rfl, rfl, rfl⟩)⟩
          case N =>
            intro p hp
            refine N20 p ?_
            rcases List.mem_cons.mp hp with rfl | hp
            · exact .tail _ (.head _)
            rcases List.mem_cons.mp hp with rfl | hp
            · exact .head _
            · exact .tail _ (.tail _ hp)
          case offI =>
            intro p hp
            simp only [List.mem_cons] at hp
            rcases hp with rfl | rfl | rfl | rfl | rfl | rfl | rfl | hp
            · exact hI9 (HA, listOf hv3.toArray nH3) (.head _)
            · exact hI9 (SA, _) (.tail _ (.head _))
            · exact hI9 (TA, _) (.tail _ (.tail _ (.head _)))
            · exact hI9 (WA, _) (.tail _ (.tail _ (.tail _ (.head _))))
            · exact hI9 (L + 1 + 1 + 1, _) (.tail _ (.tail _ (.tail _ (.tail _ (.head _)))))
            · exact hI9 (PR, _) (.tail _ (.tail _ (.tail _ (.tail _ (.tail _ (.head _))))))
            · exact Nat.ne_of_gt lI6
            · exact hI9 p (List.mem_append_right [_, _, _, _, _, _] hp)
          case sub => exact fun p hp => .tail _ (hsub3 p hp)
          case off3 =>
            intro p hp
            rcases List.mem_cons.mp hp with rfl | hp
            · exact ⟨Nat.ne_of_gt lH6, Nat.ne_of_gt lS6, Nat.ne_of_gt lT6⟩
            · exact hoff3 p hp
          case RH =>
            rw [S.pushAll_succ]
            exact RH4
        · rintro m3 _ h11 tk11 ⟨hv3, nH3, fro3, rfl, hsub3, hoff3, RH3, m1, m2, m3', m4, m5, m6, m7⟩ F11 N11
          obtain ⟨I', hm'⟩ := I.tell hH0 hin
          have hSK : S.K = szs.length := by rw [eS]; rfl
          rw [hwl, ← hSK] at RH3
          refine wpC_of (wpAny_execs_nil (wpC_of (wpAny_execs_nil ?_)))
          refine ⟨_, ?_, _, told ++ [at' H 0], hv3, ev ++ [Value.ref D2], tv ++ [Value.ref r], nH3, nS + 1, nT' + 1, fro3, _, h11, _, rfl, fr_std F11 m1 m2 m3' m4 m5 m6, N11, hoff3, hsub3 _ (.tail _ hTX), hsub3 _ (.tail _ hSZ), hsub3 _ (.tail _ h5), hsub3 _ (.tail _ h4m), RH3, ?_, ?_, I', rfl, ?_⟩
          · omega
          · exact rowsIn_push (rowsIn_sub RT (fun p hp => hsub3 _ (.tail _ hp))) ⟨r, rvs, rn, rfl, hsub3 _ (.tail _ hrm), hrI⟩ hrl
          · rw [show texts (told ++ [at' H 0]) = texts told ++ [(at' H 0).tail] by simp [texts]]
            exact rowsIn_push (rowsIn_sub RS (fun p hp => hsub3 _ (.tail _ hp))) ⟨D2, ws2, 0, rfl, hsub3 _ (.head _), I6⟩ (by rw [List.length_tail, eat, hrl]; omega)
          · omega
end Mine
end
section
open PySem PySem.W PyProof.Rows PySem.Calls
set_option maxRecDepth 100000
set_option maxHeartbeats 4000000
namespace Mine
local macro_rules | `(tactic| walk_at "same2") => `(tactic| (intro z h1 h2 h3
                                                             (simp only [List.forall_mem_cons, List.not_mem_nil, false_implies, implies_true, and_true, ne_eq] at h2)
                                                             (have h3' := h3)
                                                             (simp only [List.contains_cons, List.contains_nil, Bool.or_false, Bool.or_eq_false_iff, beq_eq_false_iff_ne, ne_eq] at h3')
                                                             (first | (simp only [kstB, h1, h2, h3', h3, if_false, Bool.false_eq_true]; done) | (simp [kstB, h1, h2, h3', h3]; done))))
local macro_rules | `(tactic| walk_at "go1") => `(tactic| (first | (k_unfold; (try dsimp only)) | walk1 | (dsimp only; walk1)))
theorem law_runs : ∀ {w : World} {mean : ExcName → Option Value} {mg mb : Str → Option Value} {s : Shared} {l : Addr} {vs : List Value} {ns : List Int},
    (hd.heap_39 w.params).In s.heap → Top hd.view_39 (looseW hd.view_39 []) mean mg mb s.heap → s.heap.IsList l vs.toArray → IntsAre vs ns → ¬ (63 : Int) < (ns.length : Int) →
    wpC (model PySem.Challenge.rw_oc0017_01.row.prog w) callerA (call (.ref 61) [.ref l]) (fun v s' => v = .bool true ∧ (∀ b o, s.heap.get? b = some o → s'.heap.get? b = some o) ∧ s'.os = s.os ∧ s'.gens = s.gens) s := by
  w_top off
  k_fill
  intro w mean mg mb s l vs ns X T hL hI hn
  have B := below_caller s.heap
  refine wpC_call ?_
  k_dflt (refine' codeC_defC (binds := [(Str.ofString "script", .ref l)]) ?k1 ?k2 ?k8 ?k6 ?k7 ?k9 ?kB ?kD ?_ ?c2 ?c3 ?c4; (case k1 => k_asm); (case k2 => k_asm); (case k6 => k_is); (case k7 => k_is); (case k8 => decide +kernel); (case k9 => exact BindsTo.of_eq rfl); (case kB => exact rfl); (case kD => decide +kernel); (case c2 => exact rfl); (case c3 => exact rfl); (case c4 => exact rfl))
  intro L h₁ tk cells F N Y
  k_cells Y
  rename_i oc5 oc4 oc3 oc2 oc1 dc5 dc4 dc3 dc2 dc1
  refine wpC_execs_cons (wpC_of ?_)
  iterate 17 walk_at "go1"
  dsimp only
  refine wpC_execs_cons (wpC_of ?_)
  iterate 10 walk_at "go1"
  dsimp only
  refine wpC_execs_cons (wpC_of ?_)
  iterate 14 walk_at "go1"
  (rename IsRange _ _ _ _ _ _ _ _ => hR)
  (rename Fr _ _ _ _ => F1)
  (rename News _ _ _ _ => N1)
  (rename IntsAre _ (List.take 3 _) => IH)
  generalize ehd : List.take 3 (List.take 24 ns ++ [0]) = hds at *
  have hdl : 1 ≤ hds.length ∧ hds.length ≤ 3 := by rw [← ehd]; simp; omega
  refine LCg.CompSrc.range rfl F1 N1 hR (sm_up (by omega)) (rs_up _) (by rw [PySem.sizeLine_eq]; omega) ?_
  intro g1
  refine kcf_range (fun k => ([2, 2, 1] : List Int).getD k.toNat 0 + (hds.getD k.toNat 0).fmod 2) (fun k t I oI C oC D m' ys h tk E' hlo hhi hC hx F2 N2 off ne _ => ?_) ?_
  · iterate 12 walk_at "go1"
    (rename News _ _ _ _ => N3)
    with_unfolding_all refine kim_ints (ns := [2, 2, 1]) N3 (List.Mem.head _) (.cons _ _ (.cons _ _ (.cons _ _ .nil))) hlo (by simp; omega) (by decide) (fun t1 => ?_)
    iterate 4 walk_at "go1"
    (rename News _ _ _ _ => N4)
    with_unfolding_all refine kim_ints (ns := hds) N4 (by k_mem) IH hlo (by omega) (by omega) (fun t2 => ?_)
    iterate 3 walk_at "go1"
    iterate 2 walk_at "go1"
  · intro ys hys
    intro D1 h1 tk1 F1 N1 off1
    simp only [LCg.Off1, and_true] at off1
    dsimp only
    refine wpC_execs_cons (wpC_of ?_)
    iterate 1 walk_at "go1"
    refine LCg.ListComp_U (F₀ := F1) (by with_unfolding_all rfl) (by decide) (by rfl) (by decide) (by rfl) ?_
    iterate 1 walk_at "go1"
    (rename Fr _ _ _ _ => F2)
    (rename News _ _ _ _ => N2)
    refine LCg.CompSrc.ledger rfl F2 N2 (by k_mem) (by rw [PySem.sizeLine_eq, List.size_toArray, IH.length]; omega) ?_
    intro g2
    refine kcf_list (fun x => 1 + ((x.fdiv 2).natAbs : Int)) IH (fun k t I oI C oC D m' ys h tk E' hk hC hx F3 N3 off ne _ => ?_) ?_
    · iterate 13 walk_at "go1"
      simp only [LCg.Off3, and_true] at off
      iterate 1 walk_at "go1"
      refine kcf_el ?_ (by with_unfolding_all rfl) (by with_unfolding_all rfl)
      (first | rfl | (split <;> omega))
    · intro pv hpv
      intro P h3 tk3 F3 N3 off3
      dsimp only
      simp only [LCg.Off1, and_true] at off3
      iterate 1 walk_at "go1"
      rename_i hPp oP FP NP dP
      refine wpC_execs_cons (wpC_of ?_)
      iterate 5 walk_at "go1"
      dsimp only
      refine wpC_execs_cons (wpC_of ?_)
      iterate 3 walk_at "go1"
      dsimp only
      refine wpC_execs_cons (wpC_of ?_)
      (rename Fr _ _ _ _ => F4)
      refine For_invVF F4 rfl rfl ?_
      iterate 1 walk_at "go1"
      (rename News _ _ _ _ => N5)
      (rename Fr _ _ _ _ => F5)
      obtain ⟨WA, tl, eWA, etl, N6⟩ := split_news' N5
      clear N5
      subst eWA
      have hsh := szsOf_shape hdl
      have hit := shape_item hsh
      have hmD : (D1, LCg.lst ys) ∈ tl := by rw [← etl]; k_mem
      have hoff : ∀ p ∈ tl, p.1 ≠ WA := by rw [← etl]; k_all
      refine kst_listL (σ := List Value × Nat × Int × Tok) (ns := szsOf hds) (fun c => (WA, listOf c.1.toArray c.2.1) :: tl) (fun c => [(Str.ofString "length", .int c.2.2.1 c.2.2.2)]) (fun _ => True) []
        (fun pre c => c.2.2.1 = pre.foldl (· * ·) 1 ∧ IntsAre c.1 (wIntsOf pre)) ([], 0, 1, _) rfl (fun c => List.Mem.tail _ hmD) hys F5 N6 trivial (List.forall_mem_cons.mpr ⟨rfl, fun _ h => nomatch h⟩) ⟨rfl, .nil⟩ ?_ ?_
      · rintro ⟨wv, en, len, tln⟩ pre post z t3 u3 h4 tk4 own hsp hz hown - ⟨hlen, hw⟩ F6 N7
        dsimp only at hlen hw F6 N7 ⊢
        rw [List.cons_append] at N7
        have hzb := hit z hz
        have hpre : ∀ y ∈ pre, 1 ≤ y ∧ y ≤ 3 := fun y hy => hit y (by rw [hsp]; exact List.mem_append_left _ hy)
        have hpl : pre.length < 3 := by have := congrArg List.length hsp; rw [szsOf_len] at this; simp at this; omega
        have hlb := prod_bound hpre
        rw [← hlen] at hlb
        have hl27 : len ≤ 27 := by
          have h9 : pre.length = 0 ∨ pre.length = 1 ∨ pre.length = 2 := by omega
          rcases h9 with h | h | h <;> rw [h] at hlb <;> simp at hlb <;> omega
        iterate 5 walk_at "go1"
        dsimp only
        refine mul_int ?_ (.of_right (intBits_le_64 (by omega) (by omega)))
        iterate 11 walk_at "go1"
        have hoO : ∀ p ∈ tl ++ own, p.1 ≠ WA := by
          intro p hp
          rcases List.mem_append.mp hp with hp | hp
          · exact hoff p hp
          · exact hown p hp WA (List.Mem.head _)
        (rename Fr _ _ _ _ => F8)
        (rename News _ _ _ _ => N8)
        refine append_K F8 N8 (Upd.head hoO) (fun h9 F9 N9 => ?_) (by rw [List.size_toArray, hw.length, sizeLine_eq]; simp [wIntsOf]; omega)
        rw [List.push_toArray] at N9
        iterate 3 walk_at "go1"
        refine kst_end (wv ++ [Value.int (len * z) _], en + 1, len * z, _) F9 N9 (fun p hp => List.mem_append_left _ hp) (fun p hp => List.Mem.tail _ (List.mem_append_right _ hp)) rfl trivial (List.forall_mem_cons.mpr ⟨rfl, fun _ h => nomatch h⟩) (by walk_at "same2") ⟨?_, ?_⟩
        · show len * z = _
          rw [prod_snoc, hlen]
        · show IntsAre _ _
          rw [wInts_snoc, prod_snoc, ← hlen]
          exact hw.append (.cons _ _ .nil)
      · rintro ⟨wv, en, len, tln⟩ u3 h4 tk4 - ⟨hlen, hw⟩ F6 N7
        dsimp only at hlen hw F6 N7 ⊢
        rw [← etl] at N7
        refine wpC_execs_cons (wpC_of ?_)
        have hpb := prod_bound hit
        rw [← hlen, szsOf_len] at hpb
        have hl27 : len ≤ 27 := by
          have h9 : hds.length = 1 ∨ hds.length = 2 ∨ hds.length = 3 := by omega
          rcases h9 with h | h | h <;> rw [h] at hpb <;> simp at hpb <;> omega
        obtain ⟨ln, eln⟩ : ∃ n : Nat, n = lenOf (szsOf hds) := ⟨_, rfl⟩
        have el : len = (ln : Int) := by rw [eln]; unfold lenOf; rw [← hlen]; omega
        subst el
        refine LCg.Assign_ListComp_U (F₀ := by k_asm) (by rfl) (by with_unfolding_all rfl) (by with_unfolding_all rfl) (by decide) (by rfl) (by decide) (by rfl) (by rfl) (by rfl) ?_
        iterate 7 walk_at "go1"
        (rename IsRange _ _ _ _ _ _ _ _ => hR5)
        (rename Fr _ _ _ _ => F10)
        (rename News _ _ _ _ => N10)
        (rename IntsAre _ (List.take 24 ns ++ [0]) => IN)
        generalize enum : List.take 24 ns ++ [0] = nums at *
        have hnl : 1 ≤ nums.length ∧ nums.length ≤ 25 := by rw [← enum]; simp; omega
        refine LCg.CompSrc.range rfl F10 N10 hR5 (sm_up (by omega)) (rs_up _) (by rw [PySem.sizeLine_eq]; omega) ?_
        intro g5
        refine kcf_range (fun p => ((nums.getD (p.fmod (nums.length : Int)).toNat 0) + p).fmod 4) (fun k t I oI C oC D m' ys h tk E' hlo hhi hC hx F11 N11 off ne _ => ?_) ?_
        · simp only [LCg.Off3, and_true] at off
          iterate 13 walk_at "go1"
          refine mod_int' (by omega) ?_
          have hm0 : 0 ≤ k.fmod (nums.length : Int) := Int.fmod_nonneg_of_pos _ (by omega)
          have hm1 : k.fmod (nums.length : Int) < (nums.length : Int) := Int.fmod_lt_of_pos _ (by omega)
          (rename News _ _ _ _ => N13)
          with_unfolding_all refine kim_ints (ns := nums) N13 (by k_mem) IN hm0 hm1 (by omega) (fun t2 => ?_)
          iterate 5 walk_at "go1"
          refine kcf_el ?_ (by with_unfolding_all rfl) (by with_unfolding_all rfl)
          rfl
        · intro txv htx
          intro TX h6 tk6 F12 N12 off6
          simp only [LCg.Off1, and_true] at off6
          dsimp only
          refine wpC_execs_cons (wpC_of ?_)
          iterate 11 walk_at "go1"
          rename_i R0 r0v hR0 FR0 NR0 IR lR
          iterate 3 walk_at "go1"
          dsimp only
          refine wpC_execs_cons (wpC_of ?_)
          iterate 5 walk_at "go1"
          dsimp only
          refine wpC_execs_cons (wpC_of ?_)
          iterate 5 walk_at "go1"
          dsimp only
          (rename Fr _ _ _ _ => F20)
          (rename News _ _ _ _ => N20)
          k_dflt (refine' with_law (K := hd.heap_39 w.params) (f := 61) ?ho ?_; (case ho => k_is))
          intro ho
          have F21 := fr_put (Str.ofString "told") _ (fr_put (Str.ofString "seen") _ (fr_put (Str.ofString "heap") _ (fr_put (Str.ofString "text") (.ref TX) (fr_put (Str.ofString "widths") (.ref WA) (fr_put (Str.ofString "sizes") (.ref D1) F20 (by rfl)) (by rfl)) (by rfl)) (by rfl)) (by rfl)) (by rfl)
          obtain ⟨text, etx⟩ : ∃ t, t = (rangeKs 0 ln).map fun p => ((nums.getD (p.fmod (nums.length : Int)).toNat 0) + p).fmod 4 := ⟨_, rfl⟩
          rw [← etx] at htx
          have IR' : IntsAre r0v (0 :: text) := by rw [etx]; exact IR
          refine partB (R0 := R0) (r0 := r0v) (txv := txv) (wv := wv) (nW := en) (nT := 0) (nX := txv.length) (nP := pv.length) (nZ := ys.length) (o3 := oP) (o4 := oc4) (o5 := oc5) (szs := szsOf hds) (prs := prsOf hds) ho X T F21 (kst_newsOf N20 ?N) ?nd dP dc4 dc5 IR' htx hw hpv hys hsh ?_ ?_ ?_ ?_ ?_
          case N =>
            repeat' (first | exact List.forall_mem_nil _ | (refine List.forall_mem_cons.mpr ⟨?_, ?_⟩))
            all_goals (repeat (first | exact List.Mem.head _ | refine List.Mem.tail _ ?_))
          case nd =>
            clear IR IR' htx hw hpv hys hsh F20 F21 N20 ho
            simp only [List.nodup_cons, List.mem_cons, List.not_mem_nil, or_false, not_or, not_false_eq_true, List.nodup_nil, and_true]
            repeat' apply And.intro
            all_goals (first | omega | (intro hh; replace hh : @Eq Nat _ _ := hh; omega) | exact Nat.succ_ne_self _ | exact fun hh => absurd hh (Nat.ne_of_gt (Nat.lt_of_lt_of_le (Nat.lt_succ_self _) (Nat.le_succ _))))
          · rw [etx, List.length_map, rangeKs_length, eln]
          · intro x hx
            rw [etx] at hx
            obtain ⟨p, _, rfl⟩ := List.mem_map.mp hx
            exact ⟨Int.fmod_nonneg_of_pos _ (by decide), Int.fmod_lt_of_pos _ (by decide)⟩
          · rw [szsOf_len]; simp [prsOf]
          · intro x hx
            obtain ⟨p, _, rfl⟩ := List.mem_map.mp hx
            omega
          · intro s' h1 h2 h3
            exact ⟨_, rfl, rfl, h1, h2, h3⟩
end Mine
end
section
open PySem PySem.W PyProof.Rows
set_option maxRecDepth 100000
set_option maxHeartbeats 8000000
namespace Mine
theorem top : PySem.Challenge.rw_oc0017_01.Holds := by
  w_on
  o_law
  refine holds_guarded (r := PySem.Challenge.rw_oc0017_01.row) (q := hd.view_39) (loose := []) (XP := XL hd.view_39 []) (YP := Hook.says theHook) (N := 880) left (Hook.of theHook) (Hook.keeps theHook)
    (fun s e => xl_of s (Bool.and_eq_true_iff.mp e).1) XL.keeps (by rfl) (by rfl) (by rfl) (fun s e => recFacts_of (Bool.and_eq_true_iff.mp e).2) (by rfl) (by assumption) (by decide +kernel) ⟨rfl, rfl, rfl, rfl, rfl, by decide +kernel⟩ ?hw ?hc
  case hw => w_witness2
  case hc =>
    intro w s₀ s₁ mg mb G Y fa o pm cd doc dV kV ho hdt hcd hD hmg hg args vals as hpre hlay hrd hwl hlo
    have KX := kIn_of Y
    have T := G.T
    wrow_args hpre hlay hrd hwl hlo
    have efa : (Value.ref fa) = Value.ref 61 := by
      have e1 : mg (Str.ofString "law") = some (Value.ref fa) := hmg
      have e2 : mg (Str.ofString "law") = some (Value.ref 61) := mg_of KX T.g (by first | rfl | kernel_rfl)
      rw [e1] at e2
      exact Option.some.inj e2
    have good : ∀ s' : Shared, (∀ b o, s₁.heap.get? b = some o → s'.heap.get? b = some o) → s'.os = s₁.os → s'.gens = s₁.gens → ∀ ns : List Int,
        GoodWG PySem.Challenge.rw_oc0017_01.row.claim (classAt s₀.heap) (ExcName.means s₀.heap) [ofPy (PyData.list (List.map PyData.int ns))] s₁ (Except.ok (Flow.ret (Value.bool true))) s' := by
      intro s' h1 h2 h3 ns
      refine ⟨.inl ⟨.bool true, .bool true, [], rfl, fun _ => rfl, .bool true, ?_, fun _ => ⟨.nil, fun _ ha => nomatch ha⟩⟩, .of_keep h1, h2, .of_eq (h3.trans hg)⟩
      wrow_post
    refine run_of_C ?_ (good s₁ (fun _ _ h => h) rfl rfl _)
    rw [efa]
    rename_i hLx _ _ _ hIx _ hc1 hc2
    refine wpC_mono (law_runs KX T hLx hIx hc1) (fun v s' hq => ?_)
    obtain ⟨rfl, h1, h2, h3⟩ := hq
    exact good s' h1 h2 h3 _
end Mine
end
theorem PySem.Challenge.cw_oc0017_01_holds : PySem.Challenge.rw_oc0017_01.Holds :=
  Mine.top
