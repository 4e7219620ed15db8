import PyProof.Rows.All
import Wide.All
import OpenK.AllK
import Wide.FinOn
import PySem.Challenge.RW_fi0019_01
set_option Elab.async false

/-! D0 -/
namespace Mine
open PySem
open Sem (wp)

/-! the logic of clean contexts: no decoder of bytes stands on the stack -/

def isDec : Code → Bool
  | .builtin id _ => Builtin.Bytes.decodersThatHold.contains id
  | _ => false

def ClB (Γ : Ctx) : Prop := ∀ x ∈ Γ.below, isDec x.1 = false
def Cl (Γ : Ctx) : Prop := isDec Γ.code = false ∧ ClB Γ

theorem Cl.enter {Γ : Ctx} (h : Cl Γ) (c : Code) (hd : Option Value) (p : Pos) : ClB (Γ.enter c hd p) := fun x hx => by
  rcases List.mem_cons.mp hx with rfl | hx
  · exact h.1
  · exact h.2 x hx
theorem Cl.wake {Γ : Ctx} (h : Cl Γ) (c : Code) (p : Pos) : ClB (Γ.wake c p) := fun x hx => by
  rcases List.mem_cons.mp hx with rfl | hx
  · exact h.1
  · exact h.2 x hx

def wpD {α : Type} (M : Model) (A : Around) (t : Sem α) (Q : α → Shared → Prop) (s : Shared) : Prop :=
  ∀ Γ p, Γ.In A → Cl Γ → wp M Γ t (fun a _ s' => Q a s') (fun _ _ _ => False) p s

def okR (R : Flow → Shared → Prop) : Result → Shared → Prop
  | .ok f, s => R f s
  | .error _, _ => False

def codeD (M : Model) (A : Around) (c : Code) (R : Flow → Shared → Prop) (s : Shared) : Prop :=
  ∀ Γ p, Γ.code = c → Γ.Below A → ClB Γ → wpCode M Γ (okR R) p s

section
variable {α β : Type} {M : Model} {A : Around} {s : Shared}

theorem wpD_of {t : Sem α} {Q : α → Shared → Prop} (h : wpAny M A t Q (fun _ _ => False) s) : wpD M A t Q s := fun Γ p hΓ _ => h Γ p hΓ
theorem codeD_of {c : Code} {R : Flow → Shared → Prop} (h : codeAny M A c (okR R) s) : codeD M A c R s := fun Γ p hc hΓ _ => h Γ p hc hΓ

theorem wpD_pure {a : α} {Q : α → Shared → Prop} (h : Q a s) : wpD M A (pure a) Q s := fun _ _ _ _ => h

theorem wpD_mono {t : Sem α} {Q Q' : α → Shared → Prop} (h : wpD M A t Q s) (hQ : ∀ a s', Q a s' → Q' a s') : wpD M A t Q' s :=
  fun Γ p hΓ hc => Sem.wp_mono M Γ t (fun a _ s' => hQ a s') (fun _ _ _ x => x) p s (h Γ p hΓ hc)

theorem wpD_bind {m : Sem α} {f : α → Sem β} {Q : β → Shared → Prop} (h : wpD M A m (fun a s' => wpD M A (f a) Q s') s) : wpD M A (m >>= f) Q s := fun Γ p hΓ hc => by
  rw [Sem.wp_bind']
  exact Sem.wp_mono M Γ m (fun a p' s' h' => h' Γ p' hΓ hc) (fun _ _ _ x => x) p s (h Γ p hΓ hc)

theorem wpD_onRaise {m : Sem α} {k : Value → Sem Unit} {Q : α → Shared → Prop} (h : wpD M A m Q s) : wpD M A (m.onRaise k) Q s := fun Γ p hΓ hc => by
  rw [Sem.wp_onRaise]
  exact Sem.wp_mono M Γ m (fun _ _ _ x => x) (fun _ _ _ x => x.elim) p s (h Γ p hΓ hc)
theorem wpD_tryCatch {m : Sem α} {k : Value → Sem α} {Q : α → Shared → Prop} (h : wpD M A m Q s) : wpD M A (tryCatch m k) Q s := fun Γ p hΓ hc => by
  rw [Sem.wp_tryCatch']
  exact Sem.wp_mono M Γ m (fun _ _ _ x => x) (fun _ _ _ x => x.elim) p s (h Γ p hΓ hc)
theorem wpD_attempt {m : Sem α} {Q : Except Value α → Shared → Prop} (h : wpD M A m (fun a s' => Q (.ok a) s') s) : wpD M A m.attempt Q s := fun Γ p hΓ hc => by
  rw [Sem.wp_attempt]
  exact Sem.wp_mono M Γ m (fun _ _ _ x => x) (fun _ _ _ x => x.elim) p s (h Γ p hΓ hc)
theorem wpD_holding {vs : List Value} {m : Sem α} {Q : α → Shared → Prop} (h : wpD M A m Q s) : wpD M A (holding vs m) Q s :=
  fun Γ p hΓ hc => by rw [Sem.wp_holding]; exact h Γ p hΓ hc
theorem wpD_keep {vs : List Value} {m : Sem α} {Q : α → Shared → Prop} (h : wpD M A m Q s) : wpD M A (m.keep vs) Q s :=
  fun Γ p hΓ hc => by rw [Sem.wp_keep]; exact h Γ p hΓ hc
theorem wpD_standAt {pos : Pos} {Q : Unit → Shared → Prop} (h : Q () s) : wpD M A (standAt pos) Q s := fun _ _ _ _ => h
theorem wpD_point {Q : Unit → Shared → Prop} (h : Q () s) : wpD M A point Q s := fun _ _ _ _ => h
theorem wpD_rule {tag : String} {Q : Unit → Shared → Prop} (h : Q () s) : wpD M A (rule tag) Q s := fun _ _ _ _ => h
theorem wpD_load {a : Addr} {o : Obj} {Q : Obj → Shared → Prop} (ho : s.heap.get? a = some o) (h : Q o s) : wpD M A (load a) Q s := wpD_of (wpAny_load ho h)
theorem wpD_of_eq {t : Sem α} {a : α} {Q : α → Shared → Prop} (e : t = pure a) (h : Q a s) : wpD M A t Q s := by subst e; exact wpD_pure h
theorem wpD_if_true {c : Bool} {a b : Sem α} {Q : α → Shared → Prop} (hc : c = true) (h : wpD M A a Q s) : wpD M A (if c = true then a else b) Q s := by subst hc; exact h
theorem wpD_if_false {c : Bool} {a b : Sem α} {Q : α → Shared → Prop} (hc : c = false) (h : wpD M A b Q s) : wpD M A (if c = true then a else b) Q s := by subst hc; exact h
theorem wpAny_if_true {E : Value → Shared → Prop} {c : Bool} {a b : Sem α} {Q : α → Shared → Prop} (hc : c = true) (h : wpAny M A a Q E s) : wpAny M A (if c = true then a else b) Q E s := by subst hc; exact h
theorem wpAny_if_false {E : Value → Shared → Prop} {c : Bool} {a b : Sem α} {Q : α → Shared → Prop} (hc : c = false) (h : wpAny M A b Q E s) : wpAny M A (if c = true then a else b) Q E s := by subst hc; exact h

theorem codeD_mono {c : Code} {R R' : Flow → Shared → Prop} (h : codeD M A c R s) (hR : ∀ f s', R f s' → R' f s') : codeD M A c R' s :=
  fun Γ p hc hΓ hb => wpCode_mono (fun r s' x => by cases r with | ok f => exact hR f s' x | error e => exact x) (h Γ p hc hΓ hb)

theorem codeD_of_in1 {c : Code} {R : Flow → Shared → Prop} (h : codeD M A.in1 c R s) : codeD M A c R s :=
  fun Γ p hc hΓ => h Γ p hc ⟨hΓ.1, hΓ.2.1, hΓ.2.2.1, hΓ.2.2.2.1, Nat.le_succ_of_le hΓ.2.2.2.2⟩

theorem wpD_run {c : Code} {h : Option Value} {Q : Flow → Shared → Prop} (hc : codeD M (A.mark h) c Q s) (hnb : h ≠ some byPass := by intro x; cases x) : wpD M A (run c h) Q s :=
  fun Γ p hΓ hcl => by
    rw [Sem.wp_run]
    exact wpCode_mono (fun r s' x => by cases r with | ok f => exact x | error e => exact x) (hc _ p rfl (hΓ.enter c h p hnb) (hcl.enter c h p))

def retD (Q : Value → Shared → Prop) : Flow → Shared → Prop
  | .ret v, s => Q v s
  | _, _ => False

theorem wpD_runValue {c : Code} {Q : Value → Shared → Prop} (hc : codeD M A c (retD Q) s) : wpD M A (runValue c) Q s :=
  fun Γ p hΓ hcl => by
    rw [Sem.wp_runValue]
    exact wpCode_mono (fun r s' x => by
      cases r with
      | error e => exact x
      | ok f => cases f <;> exact x) (hc _ p rfl (hΓ.enter c none p (by intro x; cases x)) (hcl.enter c none p))
theorem wpD_call {f : Value} {pos : List Value} {kw : List (Str × Value)} {Q : Value → Shared → Prop} (hc : codeD M A (.call f ⟨pos, kw⟩) (retD Q) s) : wpD M A (call f pos kw) Q s :=
  wpD_runValue hc

def finD (M : Model) (A : Around) (R : Flow → Shared → Prop) : Fin → Shared → Prop
  | .done f, s' => R f s'
  | .again c', s' => c'.quiet = true ∧ codeD M A c' R s'

theorem codeD_of_tree {c : Code} {R : Flow → Shared → Prop} (hd : isDec c = false) (h : wpD M (A.under c) (M.den c) (finD M A R) s) : codeD M A c R s := fun Γ p hc hΓ hb => by
  rw [wpCode_iff_wp, hc]
  refine Sem.wp_mono M Γ _ (fun fin p' s' h' => ?_) (fun _ _ _ h' => h'.elim) p s (h Γ p (hc ▸ hΓ.in) ⟨by rw [hc]; exact hd, hb⟩)
  cases fin with
  | done f => exact h'
  | again c' => exact ⟨h'.1, h'.2 (Γ.goto c') p' rfl (hΓ.goto c') hb⟩

theorem codeD_loop {c : Code} {R : Flow → Shared → Prop} (hd : isDec c = false) (hq : c.quiet = true) (I : Nat → Shared → Prop)
    (turn : ∀ n s, I n s → wpD M (A.under c) (M.den c)
      (fun fin s' => match fin with | .done f => R f s' | .again c' => (c' = c ∧ ∃ m, m < n ∧ I m s') ∨ (c'.quiet = true ∧ codeD M A c' R s')) s)
    (n : Nat) (h : I n s) : codeD M A c R s := by
  induction n using Nat.strongRecOn generalizing s with
  | ind n ih =>
    refine codeD_of_tree hd (wpD_mono (turn n s h) (fun fin s' hf => ?_))
    cases fin with
    | done f => exact hf
    | again c' =>
      rcases hf with ⟨rfl, m, hm, hI⟩ | hf
      · exact ⟨hq, ih m hm hI⟩
      · exact hf
end

section
variable {prog : Program} {w : World} {A : Around} {s : Shared}

theorem codeD_builtin {id : String} {args : Args} {b : Builtin} {R : Flow → Shared → Prop} (hd : isDec (.builtin id args) = false) (hb : entryFor table id = some b)
    (h : wpD (model prog w) (A.under (.builtin id args)) (b args) (finD (model prog w) A R) s) : codeD (model prog w) A (.builtin id args) R s := by
  refine codeD_of_tree hd ?_
  show wpD _ _ (match entryFor table id with | some b => b args | none => unsupported ((withoutEnding? id "#data").getD id)) _ s
  rw [hb]; exact h

theorem codeD_call_builtin {id : String} {args : Args} {b : Builtin} {R : Flow → Shared → Prop} (hd : isDec (.builtin id args) = false) (hq : plainId id = true) (hb : entryFor table id = some b)
    (h : wpD (model prog w) A.in1 (checkBuiltinCall id args) (fun _ s₁ => wpD (model prog w) A.in1 (b args) (finD (model prog w) A R) s₁) s) :
    codeD (model prog w) A (.call (.builtin id) args) R s := by
  refine codeD_of_tree rfl ?_
  show wpD _ A.in1 (do checkBuiltinCall id args; again (.builtin id args)) _ s
  refine wpD_bind (wpD_mono h (fun _ s₁ h₁ => wpD_pure (And.intro (plainId_quiet hq args) (codeD_builtin hd hb ?_))))
  rw [Around.under_plainId hq args]; exact h₁

theorem codeD_func {body : List Stmt} {env : Env} {R : Flow → Shared → Prop}
    (h : wpD (model prog w) (A.deeper env) (execs body env) (fun f s' => R (.ret (match f with | .ret v => v | _ => .none)) s') s) :
    codeD (model prog w) A (.func body env) R s := by
  refine codeD_of_tree rfl ?_
  show wpD _ (A.deeper env) (do point; match ← (execs body env).onRaise (leaving env) with | .ret v => ret v | _ => ret .none) _ s
  refine wpD_bind (wpD_point (wpD_bind (wpD_onRaise (wpD_mono h (fun f s' h' => ?_)))))
  cases f <;> exact wpD_pure h'

theorem codeD_block {stmts : List Stmt} {env : Env} {R : Flow → Shared → Prop} (h : wpD (model prog w) A (execs stmts env) R s) : codeD (model prog w) A (.block stmts env) R s := by
  refine codeD_of_tree rfl ?_
  rw [Around.under_of_weight rfl]
  show wpD _ A (do return Fin.done (← (execs stmts env).onRaise _)) _ s
  exact wpD_bind (wpD_onRaise (wpD_mono h fun f s' h' => wpD_pure h'))

theorem codeD_call_function {a : Addr} {args : Args} {o : Obj} {fd : FuncData} {body : List Stmt} {R : Flow → Shared → Prop} (hroom : A.depth < recursionLimit)
    (ho : s.heap.get? a = some o) (hd' : o.data = .func fd) (hco : fd.scope.isCoroutine = false) (hgen : fd.scope.isGenerator = false) (hbody : fd.body = .stmts body) (hcd : s.heap.CodeRec fd.code fd.qualname)
    (h : wpD (model prog w) A.in1 (bindArgs fd args) (fun binds s₁ =>
      wpD (model prog w) A.in1 (newFunctionEnv fd.scope fd.globals fd.closure binds (fd.qualname ++ ".<locals>.") (some a) fd.code none fd.builtins)
        (fun env s₂ => s₂.heap.NoLimit ∧ codeD (model prog w) A (.func body env) R s₂) s₁) s) :
    codeD (model prog w) A (.call (.ref a) args) R s := by
  refine codeD_of_tree rfl ?_
  show wpD _ A.in1 (callAny (.ref a) args) _ s
  simp only [callAny]
  refine wpD_bind (wpD_load ho ?_)
  obtain ⟨c, oc, vs, tq, hc, hoc, hdc, hq⟩ := hcd
  simp only [hd', callFunction, hco, hgen, hbody, hc]
  rw [hc] at h
  refine wpD_bind (m := field (.ref c) 1) (wpD_of (wpAny_field hoc hdc hq ?_))
  refine wpD_bind (wpD_pure ?_)
  refine wpD_bind (wpD_mono h (fun binds s₁ h₁ => wpD_bind (wpD_mono h₁ (fun env s₂ h₂ => wpD_bind (wpD_of (wpAny_enterFrame h₂.1 hroom ?_))))))
  exact wpD_pure (And.intro rfl h₂.2)
end

/-! generators in clean contexts -/

def FsOk (fs : List Frame) : Prop := ∀ f ∈ fs, isDec f.where_.1 = false

def SegD (M : Model) (A : Around) (R : GenEnd) (Y : Protocol) : Nat → Shared → Code → Sem Fin → List Frame → Shared → Prop
  | 0 => fun s₀ c t fs s => ∀ Γ p, Γ.code = c → Γ.Woken A → ClB Γ → ∃ e s', Runs M Γ p t fs s e s' ∧ SegEnd R Y 0 (fun _ _ _ _ => False) s₀ e s'
  | n + 1 => fun s₀ c t fs s => ∀ Γ p, Γ.code = c → Γ.Woken A → ClB Γ → ∃ e s', Runs M Γ p t fs s e s' ∧
      SegEnd R Y (n + 1) (fun c' t' fs' s'' => SegD M A R Y n s'' c' t' fs' s'') s₀ e s'

def SegD.next (M : Model) (A : Around) (R : GenEnd) (Y : Protocol) : Nat → Code → Sem Fin → List Frame → Shared → Prop
  | 0 => fun _ _ _ _ => False
  | n + 1 => fun c t fs s'' => SegD M A R Y n s'' c t fs s''

theorem segD_iff {M : Model} {A : Around} {R : GenEnd} {Y : Protocol} {n : Nat} {s₀ c t fs s} :
    SegD M A R Y n s₀ c t fs s ↔ ∀ Γ p, Γ.code = c → Γ.Woken A → ClB Γ → ∃ e s', Runs M Γ p t fs s e s' ∧ SegEnd R Y n (SegD.next M A R Y n) s₀ e s' := by
  cases n <;> rfl

section
variable {M : Model} {A : Around} {R : GenEnd} {Y : Protocol} {n : Nat} {s₀ : Shared} {c : Code} {fs : List Frame} {s : Shared}

theorem ClB.over {Γ : Ctx} (h : ClB Γ) (hc : isDec Γ.code = false) (hf : FsOk fs) : Cl (Γ.over fs) := ⟨hc, fun x hx => by
  rcases List.mem_append.mp hx with hx | hx
  · obtain ⟨f, hfm, rfl⟩ := List.mem_map.mp hx; exact hf f hfm
  · exact h x hx⟩

theorem segD_wrap {α : Type} {m : Sem α} {K : α → Sem Fin} {H : Value → Sem Fin} {gd lv} (hd : isDec c = false) (hf : FsOk fs)
    (h : wpD M (A.over c fs) m (fun a s' => SegD M A R Y n s₀ c (K a) fs s') s) : SegD M A R Y n s₀ c (m.wrap K H gd lv) fs s := by
  rw [segD_iff]
  rintro Γ p rfl hΓ hb
  exact runs_wrap_of_wp K H gd lv m (h (Γ.over fs) p (hΓ.over fs) (ClB.over hb hd hf)) (fun a p' s' h' => segD_iff.mp h' Γ p' rfl hΓ hb)
    (fun x p' s' h' => h'.elim)

theorem segD_call {c' : Code} {h g l} {k : Result → Sem Fin} (hc : ∀ p, SegD M A R Y n s₀ c' (M.den c') (.ret k h g l c p [] :: fs) s) :
    SegD M A R Y n s₀ c (.call c' h g l k) fs s := by
  rw [segD_iff]
  rintro Γ p rfl hΓ hb
  obtain ⟨e, s', hr, he⟩ := segD_iff.mp (hc p) (Γ.goto c') p rfl (hΓ.goto c') hb
  exact ⟨e, s', runs_call_seg hr, he⟩

theorem segD_leaf {k h g l c₁ p₁ kp} (r : Result) (hk : SegD M A R Y n s₀ c₁ (k r) fs s) : SegD M A R Y n s₀ c (leafOf r) (.ret k h g l c₁ p₁ kp :: fs) s := by
  rw [segD_iff]
  rintro Γ p rfl hΓ hb
  obtain ⟨e, s', hr, he⟩ := segD_iff.mp hk (Γ.goto c₁) p₁ rfl (hΓ.goto c₁) hb
  exact ⟨e, s', Runs.pop r hr, he⟩

theorem segD_again {c' : Code} (hq : c'.quiet = true) (hc : SegD M A R Y n s₀ c' (M.den c') fs s) : SegD M A R Y n s₀ c (.pure (.again c')) fs s := by
  rw [segD_iff]
  rintro Γ p rfl hΓ hb
  obtain ⟨e, s', hr, he⟩ := segD_iff.mp hc (Γ.goto c') p rfl (hΓ.goto c') hb
  exact ⟨e, s', Runs.head (c₁ := c') (fun _ _ x => .again hq x) hr, he⟩

theorem segD_end (r : Result) (h : R n s₀ r s) : SegD M A R Y n s₀ c (leafOf r) [] s := by
  rw [segD_iff]
  rintro Γ p rfl _ _
  exact ⟨.ret r, s, Runs.leaf r, h⟩

theorem segD_yield {v g l} {k : Resume → Sem Fin} (hfs : splitAtGen fs = none) (hg : g = false) (hfg : fs.any Frame.guarded = false)
    (h : Y n s₀ v s fun r s'' => SegD M A R Y n s'' c (k r) fs s'') : SegD M A R Y (n + 1) s₀ c (.yield v g l k) fs s := by
  rintro Γ p rfl _ _
  exact ⟨_, s, Runs.yield' fs hfs, And.intro (by simp [End.quiet, hg, hfg]) h⟩

theorem segD_at {p' : Pos} {k : Unit → Sem Fin} (hd : isDec c = false) (hf : FsOk fs) (h : SegD M A R Y n s₀ c (k ()) fs s) : SegD M A R Y n s₀ c (.at p' k) fs s :=
  segD_wrap (m := standAt p') (K := k) (H := .raise) (gd := id) (lv := id) hd hf (wpD_standAt h)
theorem segD_point {l : List Value} {k : Unit → Sem Fin} (hd : isDec c = false) (hf : FsOk fs) (h : SegD M A R Y n s₀ c (k ()) fs s) : SegD M A R Y n s₀ c (.point l k) fs s :=
  segD_wrap (m := point) (K := k) (H := .raise) (gd := id) (lv := fun _ => l) hd hf (wpD_point h)

theorem segD_bind_wrap {α β : Type} {m : Sem α} {K : α → Sem β} {K' : β → Sem Fin} {H' : Value → Sem Fin} {gd lv} (hd : isDec c = false) (hf : FsOk fs)
    (h : wpD M (A.over c fs) m (fun a s' => SegD M A R Y n s₀ c ((K a).wrap K' H' gd lv) fs s') s) : SegD M A R Y n s₀ c ((m >>= K).wrap K' H' gd lv) fs s := by
  rw [Sem.bind_eq_wrap', Sem.wrap_wrap]; exact segD_wrap hd hf h
end

def GoesD (M : Model) (A : Around) (R : GenEnd) (Y : Protocol) (n : Nat) (gs : GenState) (r : Resume) (s : Shared) : Prop :=
  match gs with
  | .fresh c => r = .send .none ∧ SegD M A R Y n s c (M.den c) [] s
  | .suspended k _ c _ fs _ => SegD M A R Y n s c (k r) fs s
  | _ => False

theorem wpD_resume {M : Model} {A : Around} {R : GenEnd} {Y : Protocol} {n : Nat} {s : Shared} {g : Nat} {gs : GenState}
    {r : Resume} {l : List Value} {α : Type} {k : GenResult → Sem α} {Q : α → Shared → Prop} (hg : s.gens[g]? = some gs)
    (hgo : GoesD M A R Y n gs r (s.setGen g .running))
    (hR : ∀ x s₁, R n (s.setGen g .running) x s₁ → wpD M A (k (End.ret x).result) Q (s₁.setGen g .finished))
    (hY : ∀ v s₁ gs', gs'.bare = true → Y (n - 1) (s.setGen g .running) v s₁ (fun r' s'' => match n with | 0 => False | m + 1 => GoesD M A R Y m gs' r' s'') →
      wpD M A (k (.yielded v)) Q (s₁.setGen g gs')) :
    wpD M A (.resume g r l k) Q s := by
  intro Γ p hΓ hcl
  rw [Sem.wp_resume]
  have hB : ∀ c, (Γ.wake c p).Woken A := fun c => hΓ.wake c p
  have hC : ∀ c, ClB (Γ.wake c p) := fun c => hcl.wake c p
  have fin : ∀ e₁ s₁, SegEnd R Y n (SegD.next M A R Y n) (s.setGen g .running) e₁ s₁ →
      wp M Γ (k e₁.result) (fun a _ s' => Q a s') (fun _ _ _ => False) p (s₁.setGen g e₁.genState) := by
    intro e₁ s₁ he
    cases e₁ with
    | ret x => exact hR x s₁ he Γ p hΓ hcl
    | susp v g₀ l₀ k₀ c₀ p₀ fs₀ =>
      refine hY v s₁ _ (End.bare_of_quiet he.1) ?_ Γ p hΓ hcl
      cases n with
      | zero => exact he.2
      | succ m => exact he.2
  have hqt : ∀ e₁ s₁, SegEnd R Y n (SegD.next M A R Y n) (s.setGen g .running) e₁ s₁ → e₁.quiet = true := by
    intro e₁ s₁ he
    cases e₁ with
    | ret x => rfl
    | susp v g₀ l₀ k₀ c₀ p₀ fs₀ => exact he.1
  cases gs with
  | fresh c =>
    obtain ⟨rfl, hs⟩ := hgo
    obtain ⟨e₁, s₁, hr, he⟩ := segD_iff.mp hs (Γ.wake c p) p rfl (hB c) (hC c)
    exact ⟨_, _, by unfold Wakes; rw [hg]; exact ⟨e₁, s₁, hr, hqt e₁ s₁ he, rfl, rfl⟩, fin e₁ s₁ he⟩
  | suspended k₀ l₀ c₀ p₀ fs₀ cl =>
    obtain ⟨e₁, s₁, hr, he⟩ := segD_iff.mp hgo (Γ.wake c₀ p) p₀ rfl (hB c₀) (hC c₀)
    exact ⟨_, _, by unfold Wakes; rw [hg]; exact ⟨e₁, s₁, hr, hqt e₁ s₁ he, rfl, rfl⟩, fin e₁ s₁ he⟩
  | running => exact hgo.elim
  | finished => exact hgo.elim

end Mine

/-! B1 -/
set_option maxRecDepth 100000
namespace Mine
open PySem PySem.W PyProof.Rows
open Sem (wp)

/-! sizes only grow -/
def Mono (s s' : Shared) : Prop := s.heap.objs.size ≤ s'.heap.objs.size ∧ s.gens.size ≤ s'.gens.size
theorem Mono.refl (s : Shared) : Mono s s := ⟨Nat.le_refl _, Nat.le_refl _⟩
theorem Mono.trans {a b c : Shared} (x : Mono a b) (y : Mono b c) : Mono a c := ⟨Nat.le_trans x.1 y.1, Nat.le_trans x.2 y.2⟩

theorem size_update (h : Heap) (a : Addr) (f : Obj → Obj) : (h.update a f).objs.size = h.objs.size := by
  obtain ⟨objs, l⟩ := h
  simp [Heap.update]

theorem runs_mono {M : Model} {Γ : Ctx} {p : Pos} {t : Sem Fin} {fs : List Frame} {s s' : Shared} {e : End} (h : Runs M Γ p t fs s e s') : Mono s s' := by
  unfold Mono
  induction h <;> (try simp only [Shared.setGen, size_update, Heap.size_push, Array.size_push, Array.size_setIfInBounds] at *) <;> omega

theorem returns_mono {M : Model} {Γ : Ctx} {p : Pos} {s s' : Shared} {r : Result} (h : Returns M Γ p s r s') : Mono s s' := runs_mono h

theorem setGen_mono (s : Shared) (g : Nat) (x : GenState) : Mono s (s.setGen g x) ∧ Mono (s.setGen g x) s := by
  unfold Mono
  simp [Shared.setGen]

theorem wakes_mono {M : Model} {Γ : Ctx} {p : Pos} {g : Nat} {r : Resume} {s s' : Shared} {res : GenResult} (h : Wakes M Γ p g r s res s') : Mono s s' := by
  unfold Wakes at h
  split at h
  · exact h.elim
  · split at h
    · obtain ⟨e₁, s₁, hr, _, _, rfl⟩ := h; exact (setGen_mono s g .running).1.trans ((runs_mono hr).trans (setGen_mono _ _ _).1)
    · rw [h.2]; exact Mono.refl _
    · rw [h.2]; exact (setGen_mono _ _ _).1
  · obtain ⟨e₁, s₁, hr, _, _, rfl⟩ := h; exact (setGen_mono s g .running).1.trans ((runs_mono hr).trans (setGen_mono _ _ _).1)
  · rw [h.2]; exact Mono.refl _
  · rw [h.2]; exact Mono.refl _

theorem wp_mono2 {α : Type} (M : Model) (Γ : Ctx) (s₀ : Shared) (t : Sem α) : ∀ (Q : α → Pos → Shared → Prop) (E : Value → Pos → Shared → Prop) (p : Pos) (s : Shared), Mono s₀ s → wp M Γ t Q E p s →
    wp M Γ t (fun a p' s' => Mono s₀ s' ∧ Q a p' s') (fun e p' s' => Mono s₀ s' ∧ E e p' s') p s := by
  induction t with
  | pure a => intro Q E p s hn h; exact ⟨hn, h⟩
  | raise e => intro Q E p s hn h; exact ⟨hn, h⟩
  | unsupported _ => intro Q E p s _ h; exact h
  | finish _ => intro Q E p s _ h; exact h
  | rule _ k ih => intro Q E p s hn h; exact ih () Q E p s hn h
  | «at» p' k ih => intro Q E p s hn h; exact ih () Q E p' s hn h
  | load a _ k ih => intro Q E p s hn h; obtain ⟨o, ho, h⟩ := h; exact ⟨o, ho, ih o Q E p s hn h⟩
  | update a _ f k ih => intro Q E p s hn h; exact ⟨h.1, ih () Q E p _ (hn.trans ⟨by rw [size_update]; exact Nat.le_refl _, Nat.le_refl _⟩) h.2⟩
  | loadIfAlive a k ih => intro Q E p s hn h; exact ih _ Q E p s hn h
  | point _ k ih => intro Q E p s hn h; exact ih () Q E p s hn h
  | register _ _ => intro Q E p s _ h; exact h
  | alloc o k ih => intro Q E p s hn h; exact ih _ Q E p _ (hn.trans ⟨by rw [Heap.size_push]; exact Nat.le_succ _, Nat.le_refl _⟩) h
  | fresh k ih => intro Q E p s hn h; exact ih _ Q E p _ hn h
  | ask k ih => intro Q E p s hn h; exact ih _ Q E p s hn h
  | choose src m k ih => intro Q E p s hn h; exact ⟨h.1, ih _ Q E p _ hn h.2⟩
  | os q _ k ih => intro Q E p s hn h; exact ih _ Q E p _ hn h
  | call c hd _ _ k ih => intro Q E p s hn h; obtain ⟨r, s', hr, h⟩ := h; exact ⟨r, s', hr, ih r Q E p s' (hn.trans (returns_mono hr)) h⟩
  | handled own k ih => intro Q E p s hn h; exact ih _ Q E p s hn h
  | genState g k ih => intro Q E p s hn h; obtain ⟨st, hs, h⟩ := h; exact ⟨st, hs, ih _ Q E p s hn h⟩
  | newGen c k ih => intro Q E p s hn h; exact ih _ Q E p _ (hn.trans ⟨Nat.le_refl _, by rw [Array.size_push]; exact Nat.le_succ _⟩) h
  | resume g r _ k ih => intro Q E p s hn h; obtain ⟨res, s', hw, h⟩ := h; exact ⟨res, s', hw, ih res Q E p s' (hn.trans (wakes_mono hw)) h⟩
  | yield _ _ _ _ => intro Q E p s _ h; exact h
  | stack k ih => intro Q E p s hn h; exact ih _ Q E p s hn h
  | fork _ _ => intro Q E p s _ h; exact h
  | thread k ih => intro Q E p s hn h; exact ih _ Q E p s hn h
  | await _ _ _ _ _ => intro Q E p s _ h; exact h

section
variable {α : Type} {M : Model} {A : Around} {s : Shared}
theorem wpAny_grow {t : Sem α} {Q : α → Shared → Prop} {E : Value → Shared → Prop} (h : wpAny M A t (fun a s' => Mono s s' → Q a s') E s) : wpAny M A t Q E s :=
  fun Γ p hΓ => Sem.wp_mono M Γ t (fun _ _ _ x => x.2 x.1) (fun _ _ _ x => x.2) p s (wp_mono2 M Γ s t _ _ p s (Mono.refl s) (h Γ p hΓ))
theorem wpD_grow {t : Sem α} {Q : α → Shared → Prop} (h : wpD M A t (fun a s' => Mono s s' → Q a s') s) : wpD M A t Q s :=
  fun Γ p hΓ hc => Sem.wp_mono M Γ t (fun _ _ _ x => x.2 x.1) (fun _ _ _ x => x.2) p s (wp_mono2 M Γ s t _ _ p s (Mono.refl s) (h Γ p hΓ hc))
end

/-! what a piece of a run leaves as it was -/
structure Rel (X : Addr → Obj → Prop) (V : Nat → Prop) (s s' : Shared) : Prop where
  heap : ∀ b o, s.heap.get? b = some o → ¬ X b o → s'.heap.get? b = some o
  mono : Mono s s'
  gens : ∀ k x, ¬ V k → s.gens[k]? = some x → s'.gens[k]? = some x
  bare : AllBare s.gens → AllBare s'.gens
  os : s'.os = s.os

abbrev noX : Addr → Obj → Prop := fun _ _ => False
abbrev noV : Nat → Prop := fun _ => False

namespace Rel
variable {X X' : Addr → Obj → Prop} {V V' : Nat → Prop} {s s' s'' : Shared}
theorem refl (s : Shared) : Rel X V s s := ⟨fun _ _ e _ => e, Mono.refl s, fun _ _ _ e => e, fun x => x, rfl⟩
theorem trans (x : Rel X V s s') (y : Rel X V s' s'') : Rel X V s s'' :=
  ⟨fun b o e n => y.heap b o (x.heap b o e n) n, x.mono.trans y.mono, fun k g n e => y.gens k g n (x.gens k g n e), fun b => y.bare (x.bare b), y.os.trans x.os⟩
theorem weak (x : Rel X V s s') (hX : ∀ b o, X b o → X' b o) (hV : ∀ k, V k → V' k) : Rel X' V' s s' :=
  ⟨fun b o e n => x.heap b o e fun q => n (hX b o q), x.mono, fun k g n e => x.gens k g (fun q => n (hV k q)) e, x.bare, x.os⟩
theorem up (x : Rel noX noV s s') : Rel X V s s' := x.weak (fun _ _ q => q.elim) fun _ q => q.elim
theorem keeps (x : Rel noX V s s') : ∀ b o, s.heap.get? b = some o → s'.heap.get? b = some o := fun b o e => x.heap b o e id

/-- only heap and tokens move -/
theorem only {h' : Heap} {tk : Nat} (hk : ∀ b o, s.heap.get? b = some o → ¬ X b o → h'.get? b = some o) (hz : s.heap.objs.size ≤ h'.objs.size) : Rel X V s { s with heap := h', toks := tk } :=
  ⟨hk, ⟨hz, Nat.le_refl _⟩, fun _ _ _ e => e, fun x => x, rfl⟩
theorem push {o : Obj} {tk : Nat} : Rel X V s { s with heap := s.heap.push o, toks := tk } :=
  only (fun _ _ e _ => Heap.get?_push_of_some _ e) (by rw [Heap.size_push]; exact Nat.le_succ _)
theorem tok {tk : Nat} : Rel X V s { s with toks := tk } := only (fun _ _ e _ => e) (Nat.le_refl _)
/-- what is written only at addresses new since s -/
theorem fresh (x : Rel X V s' s'') (y : Rel noX noV s s') (hX : ∀ b o, X b o → s.heap.get? b = none ∨ X' b o) (hV : ∀ k, V k → s.gens.size ≤ k ∨ V' k) : Rel X' V' s s'' :=
  ⟨fun b o e n => x.heap b o (y.keeps b o e) fun q => by
      rcases hX b o q with h | h
      · rw [h] at e; cases e
      · exact n h, y.mono.trans x.mono,
    fun k g n e => x.gens k g (fun q => by
      rcases hV k q with h | h
      · rw [Array.getElem?_eq_none h] at e; cases e
      · exact n h) (y.gens k g (fun q => q) e), fun b => x.bare (y.bare b), x.os.trans y.os⟩
end Rel

/-- lists, tuples and bytearrays -/
def Dk (o : Obj) : Prop := match o.data with | .seq .. | .bytearray .. => True | _ => False
/-- a frame's dict, a cell -/
def Fk (o : Obj) : Prop := match o.data with | .dict .. | .cell .. => True | _ => False
/-- iterators, slices -/
def Ik (o : Obj) : Prop := match o.data with | .fields .. => True | _ => False

theorem get_lt {h : Heap} {a : Addr} (ha : h.objs.size ≤ a) : h.get? a = none := by
  cases e : h.get? a with
  | none => rfl
  | some o => exact absurd (Heap.lt_size e) (Nat.not_lt.mpr ha)

/-! frames, with cells -/
structure Frm (sc : Scope) (env : Env) (h : Heap) (m : Str → Option Value) : Prop where
  scp : env.scope = sc
  kind : sc.kind = .function
  glob : env.globals = mainGlobals
  blt : env.builtins = builtinsNs
  ns : ∃ ml, h.Ns env.locals ml ∧ ∀ x, sc.names.lookup x = some .local → ml x = m x
  cell : ∀ x c, env.cells.lookup x = some c → h.IsCell c (m x)
  has : ∀ x, sc.names.lookup x = some .cell ∨ sc.names.lookup x = some .free → (env.cells.lookup x).isSome = true
  apart : ∀ x y c, env.cells.lookup x = some c → env.cells.lookup y = some c → x = y
  off : ∀ x c, env.cells.lookup x = some c → c ≠ env.locals
  plain : ∀ x c, env.cells.lookup x = some c → sc.names.lookup x ≠ some .local

/-- the frame's own objects -/
def Own (env : Env) (b : Addr) : Prop := b = env.locals ∨ ∃ x, env.cells.lookup x = some b
abbrev OwnX (env : Env) : Addr → Obj → Prop := fun b o => Own env b ∧ Fk o

def upd (m : Str → Option Value) (x : Str) (v : Value) : Str → Option Value := fun y => if y = x then some v else m y
theorem upd_self {m : Str → Option Value} {x : Str} {v : Value} : upd m x v x = some v := by simp [upd]
theorem upd_ne {m : Str → Option Value} {x y : Str} {v : Value} (h : y ≠ x) : upd m x v y = m y := by simp [upd, h]

namespace Frm
variable {sc : Scope} {env : Env} {h h' : Heap} {m : Str → Option Value}
theorem moved (F : Frm sc env h m) (hk : ∀ b o, h.get? b = some o → Own env b → Fk o → h'.get? b = some o) : Frm sc env h' m where
  scp := F.scp
  kind := F.kind
  glob := F.glob
  blt := F.blt
  ns := let ⟨ml, ⟨o, es, ep, e, d, r⟩, q⟩ := F.ns; ⟨ml, ⟨o, es, ep, hk _ _ e (.inl rfl) (by unfold Fk; rw [d]; trivial), d, r⟩, q⟩
  cell := fun x c e => let ⟨o, ho, d⟩ := F.cell x c e; ⟨o, hk _ _ ho (.inr ⟨x, e⟩) (by unfold Fk; rw [d]; trivial), d⟩
  has := F.has
  apart := F.apart
  off := F.off
  plain := F.plain
theorem rel {X : Addr → Obj → Prop} {V : Nat → Prop} {s s' : Shared} (F : Frm sc env s.heap m) (r : Rel X V s s') (hX : ∀ b o, X b o → Own env b → Fk o → False) : Frm sc env s'.heap m :=
  F.moved fun b o e hb ho => r.heap b o e fun q => hX b o q hb ho
theorem keep {V : Nat → Prop} {s s' : Shared} (F : Frm sc env s.heap m) (r : Rel noX V s s') : Frm sc env s'.heap m := F.rel r fun _ _ q => q.elim
theorem own_at (F : Frm sc env h m) {b : Addr} (hb : Own env b) : ∃ o, h.get? b = some o ∧ Fk o := by
  rcases hb with rfl | ⟨x, hx⟩
  · obtain ⟨ml, ⟨o, es, ep, e, d, r⟩, q⟩ := F.ns
    exact ⟨o, e, by unfold Fk; rw [d]; trivial⟩
  · obtain ⟨o, ho, d⟩ := F.cell x b hx
    exact ⟨o, ho, by unfold Fk; rw [d]; trivial⟩
theorem own_lt (F : Frm sc env h m) {b : Addr} (hb : Own env b) : b < h.objs.size := let ⟨_, e, _⟩ := F.own_at hb; Heap.lt_size e
/-- with other values -/
theorem congr (F : Frm sc env h m) {m' : Str → Option Value} (e : ∀ x, m x = m' x) : Frm sc env h m' := by
  have : m = m' := funext e
  subst this; exact F
end Frm

section
variable {M : Model} {A : Around} {E : Value → Shared → Prop} {s : Shared} {sc : Scope} {env : Env} {m : Str → Option Value}

theorem ev_local {x : Str} {pos : Pos} {v : Value} {Q : Value → Shared → Prop} (F : Frm sc env s.heap m) (hv : m x = some v) (h : Q v s)
    (hk : sc.names.lookup x = some .local := by rfl) (hd : (x == ("__debug__" : Str)) = false := by decide) : wpAny M A (eval (.Name x pos) env) Q E s := by
  obtain ⟨ml, hn, hq⟩ := F.ns
  exact wpAny_Name (wpAny_loadName_local (by rw [F.scp]; exact F.kind) (by unfold Env.kindOf; rw [F.scp]; exact hk) hn ((hq x hk).trans hv) h) hd

theorem ev_cell {x : Str} {pos : Pos} {v : Value} {Q : Value → Shared → Prop} (F : Frm sc env s.heap m) (hv : m x = some v) (h : Q v s)
    (hk : sc.names.lookup x = some .cell := by rfl) (hd : (x == ("__debug__" : Str)) = false := by decide) : wpAny M A (eval (.Name x pos) env) Q E s := by
  obtain ⟨c, hc⟩ := Option.isSome_iff_exists.mp (F.has x (.inl hk))
  exact wpAny_Name (wpAny_loadName_cell (by rw [F.scp]; exact F.kind) (by unfold Env.kindOf; rw [F.scp]; exact hk) hc (hv ▸ F.cell x c hc) h) hd

theorem ev_free {x : Str} {pos : Pos} {v : Value} {Q : Value → Shared → Prop} (F : Frm sc env s.heap m) (hv : m x = some v) (h : Q v s)
    (hk : sc.names.lookup x = some .free := by rfl) (hd : (x == ("__debug__" : Str)) = false := by decide) (hn : (x == ("__classdict__" : Str)) = false := by decide) : wpAny M A (eval (.Name x pos) env) Q E s := by
  obtain ⟨c, hc⟩ := Option.isSome_iff_exists.mp (F.has x (.inr hk))
  exact wpAny_Name (wpAny_loadName_free (by rw [F.scp]; exact F.kind) (by unfold Env.kindOf; rw [F.scp]; exact hk) hc (hv ▸ F.cell x c hc) h hn) hd

theorem store_local {x : Str} {v : Value} {V : Nat → Prop} {Q : Unit → Shared → Prop} (F : Frm sc env s.heap m)
    (h : ∀ s', Rel (fun b _ => b = env.locals) V s s' → Frm sc env s'.heap (upd m x v) → Q () s')
    (hk : sc.names.lookup x = some .local := by rfl) : wpAny M A (storeName env x v) Q E s := by
  obtain ⟨ml, hn, hq⟩ := F.ns
  obtain ⟨oL, esL, epL, eL, dL, _⟩ := id hn
  refine wpAny_storeName_local (by unfold Env.kindOf; rw [F.scp]; exact hk) hn (fun h' hn' hs' => h _ (Rel.only (fun b o e n => ?_) (Nat.le_of_eq hs'.1.symm)) ?_) (by rw [F.scp, F.kind]; rfl)
  · exact hs'.extBut b o n e
  · exact { scp := F.scp, kind := F.kind, glob := F.glob, blt := F.blt, has := F.has, apart := F.apart, off := F.off, plain := F.plain,
            ns := ⟨_, hn', fun y hy => by unfold upd; by_cases e : y = x <;> simp [e, hq y hy]⟩,
            cell := fun y c e => by
              have hyx : y ≠ x := fun q => F.plain y c e (q ▸ hk)
              rw [upd_ne hyx]
              exact (F.cell y c e).sameBut hs' (F.off y c e) }

theorem store_cell {x : Str} {v : Value} {V : Nat → Prop} {Q : Unit → Shared → Prop} (F : Frm sc env s.heap m)
    (h : ∀ s', Rel (fun b _ => env.cells.lookup x = some b) V s s' → Frm sc env s'.heap (upd m x v) → Q () s')
    (hk : sc.names.lookup x = some .cell := by rfl) : wpAny M A (storeName env x v) Q E s := by
  obtain ⟨c, hc⟩ := Option.isSome_iff_exists.mp (F.has x (.inl hk))
  obtain ⟨oc, hoc, doc⟩ := F.cell x c hc
  refine wpAny_storeName_cell (by rw [F.scp]; exact F.kind) (by unfold Env.kindOf; rw [F.scp]; exact hk) hc (F.cell x c hc) fun h' hc' hs' => ?_
  refine h { s with heap := h' } (Rel.only (tk := s.toks) (fun b o e n => ?_) (Nat.le_of_eq hs'.1.symm)) ?_
  · exact hs'.extBut b o (fun q => n (q ▸ hc)) e
  · obtain ⟨ml, hn, hq⟩ := F.ns
    exact { scp := F.scp, kind := F.kind, glob := F.glob, blt := F.blt, has := F.has, apart := F.apart, off := F.off, plain := F.plain,
            ns := ⟨ml, hn.sameBut hs' (fun q => F.off x c hc q.symm), fun y hy => by
              have hyx : y ≠ x := fun q => by rw [q, hk] at hy; cases hy
              rw [upd_ne hyx]; exact hq y hy⟩,
            cell := fun y c' e => by
              by_cases hyx : y = x
              · subst hyx
                rw [hc] at e; cases e
                rw [upd_self]; exact hc'
              · rw [upd_ne hyx]
                exact (F.cell y c' e).sameBut hs' fun q => hyx (F.apart y x c' e (q ▸ hc)) }
end

/-! the text's globals; the table of codes of rescale_rows may grow -/
structure Glb (mg mb : Str → Option Value) (h : Heap) : Prop where
  g : h.Ns mainGlobals mg
  b : h.Ns builtinsNs mb
  lim : h.NoLimit
  boot : ∀ x : Str, x ≠ "__name__" → mb x = bootBuiltins x
  bm : ∃ bm ob, mg "__builtins__" = some (.ref bm) ∧ bm ≠ builtinsNs ∧ h.get? bm = some ob ∧ ob.cls = .type "module" ∧ ob.dict = some builtinsNs ∧ ob.data = .plain

section
variable {M : Model} {A : Around} {E : Value → Shared → Prop} {s : Shared} {sc : Scope} {env : Env} {m mg mb : Str → Option Value}
theorem ev_global {x : Str} {pos : Pos} {v : Value} {Q : Value → Shared → Prop} (F : Frm sc env s.heap m) (G : Glb mg mb s.heap) (hv : mg x = some v) (h : Q v s)
    (hk : sc.names.lookup x = some .globalImplicit := by rfl) (hd : (x == ("__debug__" : Str)) = false := by decide) : wpAny M A (eval (.Name x pos) env) Q E s :=
  Calls.Name_function_global (by rw [F.scp]; exact F.kind) (by unfold Env.kindOf; rw [F.scp]; exact hk) (Calls.loadGlobal_global (by rw [F.glob]; exact G.g) hv h) hd
theorem ev_builtin {x : Str} {pos : Pos} {v : Value} {Q : Value → Shared → Prop} (F : Frm sc env s.heap m) (G : Glb mg mb s.heap) (hm : mg x = none) (hv : bootBuiltins x = some v) (hn : x ≠ "__name__") (h : Q v s)
    (hk : sc.names.lookup x = some .globalImplicit := by rfl) (hd : (x == ("__debug__" : Str)) = false := by decide) : wpAny M A (eval (.Name x pos) env) Q E s :=
  Calls.Name_function_global (by rw [F.scp]; exact F.kind) (by unfold Env.kindOf; rw [F.scp]; exact hk) (Calls.loadGlobal_builtin (by rw [F.glob]; exact G.g) hm (by rw [F.blt]; exact G.b) ((G.boot x hn).trans hv) h) hd
end
end Mine

/-! B2 -/
set_option maxRecDepth 100000
namespace Mine
open PySem PySem.W PyProof.Rows
open Sem (wp)

section
variable {M : Model} {A : Around} {s : Shared} {env : Env}

theorem wpD_nil {Q : Flow → Shared → Prop} (h : Q .next s) : wpD M A (execs [] env) Q s := wpD_of_eq rfl h
theorem wpD_seq {st : Stmt} {rest : List Stmt} {Q : Flow → Shared → Prop} (h : wpD M A (exec st env) (fun f s' => f = .next ∧ wpD M A (execs rest env) Q s') s) : wpD M A (execs (st :: rest) env) Q s := by
  rw [execs_cons]
  refine wpD_bind (wpD_mono h fun f s' h' => ?_)
  obtain ⟨rfl, h'⟩ := h'
  exact h'
theorem wpD_Return {e : Expr} {pos : Pos} {rest : List Stmt} {Q : Flow → Shared → Prop} (h : wpD M A (eval e env) (fun v s' => Q (.ret v) s') s) : wpD M A (execs (.Return (some e) pos :: rest) env) Q s := by
  rw [execs_cons, exec_Return_some]
  exact wpD_bind (wpD_bind (wpD_standAt (wpD_bind (wpD_mono h fun v s' h' => wpD_pure (wpD_pure h')))))

theorem wpD_bindName {x : Str} {v : Value} {Q : Unit → Shared → Prop} (h : wpD M A (storeName env x v) Q s) : wpD M A (bindName env x v) Q s :=
  fun Γ p hΓ hc => by rw [Sem.wp_bindName]; exact h Γ p hΓ hc

theorem wpD_Assign {x : Str} {p' : Pos} {value : Expr} {pos : Pos} {Q : Flow → Shared → Prop}
    (h : wpD M A (eval value env) (fun v s₁ => wpD M A (storeName env x v) (fun _ => Q .next) s₁) s)
    (hs : swapsWith value (some (.Name x p')) pos.line env = pure false := by rfl) : wpD M A (exec (.Assign [.Name x p'] value pos) env) Q s := fun Γ p hΓ hc => by
  simp only [exec_Assign_Name env x p' value pos hs, Sem.wp_bind', Sem.wp_cmd_standAt, Sem.wp_bindName, Sem.wp_pure']
  exact Sem.wp_mono M Γ _ (fun v _ s₁ h₁ => h₁ Γ _ hΓ hc) (fun _ _ _ h' => h') _ _ (h Γ _ hΓ hc)

theorem wpD_IfExp {test body orelse : Expr} {pos : Pos} {Q : Value → Shared → Prop}
    (h : wpD M A (isTrue test env (eval test env)) (fun b s₁ => (b = true → wpD M A (eval body env) Q s₁) ∧ (b = false → wpD M A (eval orelse env) Q s₁)) s) : wpD M A (eval (.IfExp test body orelse pos) env) Q s := by
  show wpD M A (isTrue test env (eval test env) >>= fun b => if b = true then eval body env else eval orelse env) Q s
  refine wpD_bind (wpD_mono h fun b s₁ h₁ => ?_)
  cases b with
  | true => exact wpD_if_true rfl (h₁.1 rfl)
  | false => exact wpD_if_false rfl (h₁.2 rfl)

theorem wpD_If {test : Expr} {body orelse : List Stmt} {pos : Pos} {Q : Flow → Shared → Prop}
    (h : wpD M A (isTrue test env (eval test env)) (fun b s₁ => (b = true → wpD M A (execs body env) Q s₁) ∧ (b = false → wpD M A (execs orelse env) Q s₁)) s) : wpD M A (exec (.If test body orelse pos) env) Q s := by
  rw [exec_If]
  refine wpD_bind (wpD_standAt (wpD_bind (wpD_mono h fun b s₁ h₁ => ?_)))
  cases b with
  | true => exact h₁.1 rfl
  | false => exact h₁.2 rfl

theorem wpD_isTrue_Compare {l r : Expr} {op : CmpOp} {pos : Pos} {whole : Sem Value} {Q : Bool → Shared → Prop}
    (h : wpD M A (eval l env) (fun a s₁ => wpD M A (eval r env) (fun b s₂ => wpD M A (compareOp op a b) (fun c s₃ => wpD M A (truthy c) Q s₃) s₂) s₁) s)
    (hm : behindInMarks op r = false := by with_unfolding_all rfl) : wpD M A (isTrue (.Compare l [op] [r] pos) env whole) Q s := fun Γ p hΓ hc => by
  simp only [isTrue_Compare1, markedBehindIn_of_false hm, Sem.wp_bind', Sem.wp_holding, Sem.wp_cmd_standAt, Sem.wp_operate]
  exact Sem.wp_mono M Γ _ (fun a p₁ s₁ h₁ => Sem.wp_mono M Γ _ (fun b _ s₂ h₂ => Sem.wp_mono M Γ _ (fun c p₃ s₃ h₃ => h₃ Γ p₃ hΓ hc)
    (fun _ _ _ h' => h') _ _ (h₂ Γ _ hΓ hc)) (fun _ _ _ h' => h') _ _ (h₁ Γ p₁ hΓ hc)) (fun _ _ _ h' => h') _ _ (h Γ p hΓ hc)

theorem wpD_runOwn {c : Code} {Q : Flow → Shared → Prop} (hc : codeD M A c Q s) : wpD M A (runOwn c env) Q s := by
  unfold runOwn
  refine wpD_onRaise (wpD_run ?_)
  have e : A.mark none = A := by cases A; simp [Around.mark]
  rw [e]; exact hc

theorem wpD_For {target iter : Expr} {body orelse : List Stmt} {pos : Pos} {Q : Flow → Shared → Prop}
    (h : wpD M A (eval iter env) (fun x s₁ => wpD M A (pyIter x) (fun it s₂ => codeD M A (.forLoop target it body orelse env) Q s₂) s₁) s)
    (hs : ∀ x, foldedSetIterable iter env x = pure x := by intro _; rfl) : wpD M A (exec (.For target iter body orelse pos) env) Q s := by
  rw [exec_For]
  exact wpD_bind (wpD_standAt (wpD_bind (wpD_mono h fun x s₁ h₁ => wpD_bind (wpD_of_eq (hs x) (wpD_bind (wpD_standAt (wpD_bind (wpD_holding
    (wpD_mono h₁ fun it s₂ h₂ => wpD_runOwn h₂)))))))))
end

section
variable {prog : Program} {w : World} {A : Around} {s : Shared} {env : Env}

theorem codeD_forLoop {R : Flow → Shared → Prop} {target : Expr} {it : Value} {body : List Stmt} (I : Nat → Shared → Prop)
    (turn : ∀ n s, I n s → wpD (model prog w) A (pyNext it) (fun r s₁ => match r with
      | none => R .next s₁
      | some v => wpD (model prog w) A (letOwnedTupleGo target it v) (fun _ s₁ => wpD (model prog w) A (assign target env v) (fun _ s₂ => wpD (model prog w) A (execs body env) (fun f s₃ => f = .next ∧ ∃ m, m < n ∧ I m s₃) s₂) s₁) s₁) s)
    (n : Nat) (h : I n s) : codeD (model prog w) A (.forLoop target it body [] env) R s := by
  refine codeD_loop rfl rfl I (fun n s hI => ?_) n h
  rw [Around.under_of_weight rfl]
  show wpD _ _ ((forTurn target it body [] env).onRaise (fun x => do noteFrame x env; theTreesLotGoes x)) _ s
  refine wpD_onRaise ?_
  unfold forTurn
  refine wpD_bind (wpD_standAt (wpD_bind (wpD_onRaise (wpD_mono (turn n s hI) fun r s₁ h₁ => ?_))))
  cases r with
  | none => exact wpD_pure (.inr ⟨rfl, codeD_block (wpD_nil h₁)⟩)
  | some v =>
    refine wpD_bind (wpD_mono h₁ fun _ s₁ h₁ => wpD_bind (wpD_mono h₁ fun _ s₂ h₂ => wpD_bind (wpD_mono h₂ fun f s₃ h₃ => ?_)))
    obtain ⟨rfl, h₃⟩ := h₃
    exact wpD_pure (.inl ⟨rfl, h₃⟩)

theorem wpD_assign_Name {M : Model} {x : Str} {pos : Pos} {v : Value} {Q : Unit → Shared → Prop} (h : wpD M A (storeName env x v) Q s) : wpD M A (assign (.Name x pos) env v) Q s := by
  rw [PySem.assign_Name]; exact wpD_bind (wpD_standAt (wpD_bindName h))

/-! calls -/
theorem wpD_Call {M : Model} {id : Str} {p pos : Pos} {args : List Expr} {Q : Value → Shared → Prop}
    (h : wpD M A (eval (.Name id p) env) (fun f s₁ => wpD M A (callWith pos f [] (backTo pos (starEach args env)) []) Q s₁) s) : wpD M A (eval (.Call (.Name id p) args [] pos) env) Q s := by
  rw [arm_eval_Call_Name']
  exact wpD_bind h

theorem wpD_callWith_fun {M : Model} {pos : Pos} {a : Addr} {o : Obj} {fd : FuncData} {args : List (Bool × Sem Value)} {Q : Value → Shared → Prop} (hp : args.any (·.1) = false)
    (h : wpD M A (evalArgs (.ref a) true args []) (fun x s₁ => (s₁.heap.get? a = some o ∧ o.data = .func fd) ∧ wpD M A (call (.ref a) x.pos x.kw) Q s₁) s) :
    wpD M A (callWith pos (.ref a) [] args []) Q s := by
  unfold callWith
  refine wpD_bind (wpD_holding (wpD_mono h fun x s₁ h₁ => wpD_bind (wpD_standAt ?_)))
  have tail : ∀ {t : Sem Value}, wpD M A t Q s₁ → wpD M A (t >>= fun r => holding [r] point >>= fun _ => pure r) Q s₁ :=
    fun ht => wpD_bind (wpD_mono ht fun r s₂ hr => wpD_bind (wpD_holding (wpD_point (wpD_pure hr))))
  simp only [hp, List.any_nil, Bool.or_false, List.nil_append]
  refine wpD_bind (m := keeperOf (.ref a)) ?_
  unfold keeperOf
  refine wpD_bind (wpD_load h₁.1.1 ?_)
  rw [h₁.1.2]
  refine wpD_pure ?_
  dsimp only
  split
  · exact tail h₁.2
  · exact tail (by unfold callMarked; exact wpD_keep h₁.2)

theorem wpD_callWith_type {M : Model} {pos : Pos} {T : String} {args : List (Bool × Sem Value)} {Q : Value → Shared → Prop} (hp : args.any (·.1) = false)
    (h : wpD M A (evalArgs (.type T) true args []) (fun x s₁ => wpD M A (call (.type T) x.pos x.kw) Q s₁) s) :
    wpD M A (callWith pos (.type T) [] args []) Q s := by
  unfold callWith
  refine wpD_bind (wpD_holding (wpD_mono h fun x s₁ h₁ => wpD_bind (wpD_standAt ?_)))
  simp only [hp, List.any_nil, Bool.or_false, List.nil_append]
  refine wpD_bind (m := keeperOf (.type T)) (wpD_of_eq rfl ?_)
  exact wpD_bind (wpD_mono h₁ fun r s₂ hr => wpD_bind (wpD_holding (wpD_point (wpD_pure hr))))

theorem evalArgs_one {M : Model} {E : Value → Shared → Prop} {f : Value} {e : Expr} {pos : Pos} {Q : Args → Shared → Prop} (hp : starEach [e] env = [(false, eval e env)])
    (h : wpAny M A (eval e env) (fun v s' => Q ⟨[v], []⟩ s') E s) : wpAny M A (evalArgs f true (backTo pos (starEach [e] env)) []) Q E s := by
  rw [hp]
  have : ∃ t, backTo pos [(false, eval e env)] = [(false, t)] ∧ ∀ Q', wpAny M A (eval e env) Q' E s → wpAny M A t Q' E s := by
    refine ⟨_, rfl, fun Q' h' => ?_⟩
    first
      | exact h'
      | exact wpAny_bind (wpAny_mono h' (fun v s' x => wpAny_bind (wpAny_standAt (wpAny_pure x))) fun _ _ x => x)
  obtain ⟨t, e1, ht⟩ := this
  rw [e1]
  exact Calls.evalArgs_plain (Calls.spliced_cons (ht _ (wpAny_mono h (fun v s' x => Calls.spliced_nil x) fun _ _ x => x)))
end
end Mine

/-! B3 -/
set_option maxRecDepth 100000
namespace Mine
open PySem PySem.W PyProof.Rows
open Sem (wp)

/-! a list comprehension -/

def clOf (scope : Scope) (env : Env) : List (Str × Addr) := ((scope.names.filter (·.2 == .free)).reverse.map fun y => (y.1, (env.cells.lookup y.1).getD 0))

theorem closureFor_eq {scope : Scope} {env : Env} (h : ∀ y ∈ scope.names, y.2 = .free → (env.cells.lookup y.1).isSome = true) : closureFor scope env = pure (clOf scope env) := by
  unfold closureFor clOf
  have key : ∀ (l : List (Str × NameKind)) (acc : List (Str × Addr)), (∀ y ∈ l, y.2 = .free → (env.cells.lookup y.1).isSome = true) →
      ((forIn l acc fun (x : Str × NameKind) (r : List (Str × Addr)) => match x with
        | (name, kind) => if (kind == NameKind.free) = true then (do let c ← cellOf env name; pure (ForInStep.yield ((name, c) :: r))) else pure (ForInStep.yield r)) : Sem (List (Str × Addr))) =
        pure (((l.filter (·.2 == .free)).reverse.map fun y => (y.1, (env.cells.lookup y.1).getD 0)) ++ acc) := by
    intro l
    induction l with
    | nil => intro acc _; rfl
    | cons y r ih =>
      intro acc hy
      obtain ⟨a, k⟩ := y
      rw [List.forIn_cons]
      have ih' := ih
      by_cases hk : k = .free
      · obtain ⟨c, hc⟩ := Option.isSome_iff_exists.mp (hy (a, k) List.mem_cons_self hk)
        subst hk
        simp only [beq_self_eq_true, if_true]
        unfold cellOf at *
        rw [hc]
        simp only [pure_bind]
        rw [ih _ fun z hz => hy z (List.mem_cons_of_mem _ hz), List.filter_cons_of_pos (by rfl)]
        dsimp only at hc
        simp [hc]
      · have hb : (k == NameKind.free) = false := by simpa using hk
        simp only [hb, Bool.false_eq_true, if_false, pure_bind]
        rw [ih _ fun z hz => hy z (List.mem_cons_of_mem _ hz), List.filter_cons_of_neg (by simp [hb])]
  have := key scope.names [] h
  rw [List.append_nil] at this
  show (_ >>= fun cs => pure cs) = _
  rw [this]
  rfl

theorem lookup_map_fn {α β : Type} [BEq α] [LawfulBEq α] (f : α → β) : ∀ (l : List α) (x : α), (l.map fun y => (y, f y)).lookup x = if x ∈ l then some (f x) else none
  | [], x => by simp
  | y :: r, x => by
    rw [List.map_cons, List.lookup_cons]
    by_cases h : x = y
    · subst h; simp
    · have : (x == y) = false := by simpa using h
      rw [this]
      simp only [List.mem_cons, h, false_or]
      exact lookup_map_fn f r x

theorem clOf_lookup {scope : Scope} {env : Env} (x : Str) : (clOf scope env).lookup x = if x ∈ (scope.names.filter (·.2 == .free)).map (·.1) then some ((env.cells.lookup x).getD 0) else none := by
  have e : clOf scope env = ((scope.names.filter (·.2 == .free)).map (·.1)).reverse.map fun y => (y, (env.cells.lookup y).getD 0) := by
    unfold clOf
    rw [← List.map_reverse, List.map_map]; rfl
  rw [e, lookup_map_fn]
  simp only [List.mem_reverse]

/-- the names that a comprehension's frame sees -/
def freeMap (scope : Scope) (m : Str → Option Value) : Str → Option Value := fun y => if y ∈ (scope.names.filter (·.2 == .free)).map (·.1) then m y else none

/-- what the look at a comprehension's scope asks -/
structure ScOk (sc scope : Scope) : Prop where
  kind : scope.kind = .function
  nocell : ∀ y ∈ scope.names, y.2 ≠ .cell
  free : ∀ y ∈ scope.names, y.2 = .free → sc.names.lookup y.1 = some .cell ∨ sc.names.lookup y.1 = some .free
  once : ∀ y ∈ scope.names, scope.names.lookup y.1 = some y.2

structure LCNew (scope : Scope) (env : Env) (m : Str → Option Value) (s₂ : Shared) (sc' : Scope) (D : Addr) (cenv : Env) (s₄ : Shared) : Prop where
  rel : Rel noX noV s₂ s₄
  frm : Frm sc' cenv s₄.heap (freeMap scope m)
  acc : s₄.heap.PlainList D #[]
  loD : s₂.heap.objs.size ≤ D
  hiD : D < s₄.heap.objs.size
  loC : s₂.heap.objs.size ≤ cenv.locals
  hiC : cenv.locals < s₄.heap.objs.size
  DC : D ≠ cenv.locals
  cells : ∀ x c, cenv.cells.lookup x = some c → env.cells.lookup x = some c

section
variable {prog : Program} {w : World} {A : Around} {s : Shared} {env : Env} {sc : Scope} {m : Str → Option Value}

def relabelS (scope outer : Scope) : Scope := relabel scope { scope := outer, locals := 0, globals := 0, cells := [] }
theorem relabel_eq (scope : Scope) (env : Env) : relabel scope env = relabelS scope env.scope := rfl

theorem relabel_names {scope : Scope} {env : Env} (x : Str) : (relabel scope env).names.lookup x = (scope.names.lookup x).map fun k => if (k == .free && env.scope.kind == .function && env.kindOf x == some .cell) then .cell else k := by
  unfold relabel
  dsimp only
  induction scope.names with
  | nil => rfl
  | cons y r ih =>
    obtain ⟨a, b⟩ := y
    rw [List.map_cons]
    have e : (if (b == NameKind.free && env.scope.kind == ScopeKind.function && env.kindOf a == some NameKind.cell) = true then (a, NameKind.cell) else (a, b)) =
        (a, if (b == NameKind.free && env.scope.kind == ScopeKind.function && env.kindOf a == some NameKind.cell) = true then NameKind.cell else b) := by split <;> rfl
    show List.lookup x ((if (b == NameKind.free && env.scope.kind == ScopeKind.function && env.kindOf a == some NameKind.cell) = true then (a, NameKind.cell) else (a, b)) :: _) = _
    rw [e, List.lookup_cons, List.lookup_cons]
    cases hx : x == a with
    | true =>
      have : x = a := by simpa using hx
      subst this
      rfl
    | false => exact ih

theorem mem_free {l : List (Str × NameKind)} {x : Str} : x ∈ (l.filter (·.2 == .free)).map (·.1) ↔ (x, NameKind.free) ∈ l := by
  constructor
  · intro h
    obtain ⟨y, hy, rfl⟩ := List.mem_map.mp h
    obtain ⟨h1, h2⟩ := List.mem_filter.mp hy
    have : y.2 = .free := by simpa using h2
    rw [← this]; exact h1
  · intro h
    exact List.mem_map.mpr ⟨(x, .free), List.mem_filter.mpr ⟨h, rfl⟩, rfl⟩

theorem lookup_mem {α : Type} : ∀ {l : List (Str × α)} {x : Str} {k : α}, l.lookup x = some k → (x, k) ∈ l := fun h => mem_of_lookup h

/-- the frame of a comprehension -/
theorem comp_frm {scope : Scope} {s₂ s₄ : Shared} {L : Addr} {ml : Str → Option Value} {cenv : Env} (F : Frm sc env s₂.heap m) (ok : ScOk sc scope)
    (ecs : cenv.scope = relabelS scope sc) (ecl : cenv.locals = L) (ecg : cenv.globals = env.globals) (ecb : cenv.builtins = env.builtins) (ecc : cenv.cells = clOf scope env)
    (hn : s₄.heap.Ns L ml) (hml : ∀ x, ml x = none) (hk : ∀ b o, s₂.heap.get? b = some o → s₄.heap.get? b = some o) (hL : s₂.heap.get? L = none) :
    Frm (relabelS scope sc) cenv s₄.heap (freeMap scope m) := by
  have cellLook : ∀ x c, cenv.cells.lookup x = some c → (x, NameKind.free) ∈ scope.names ∧ env.cells.lookup x = some c := by
    intro x c h
    rw [ecc, clOf_lookup] at h
    split at h
    · rename_i hx
      have hx' := mem_free.mp hx
      have hs := F.has x (ok.free _ hx' rfl)
      obtain ⟨d, hd⟩ := Option.isSome_iff_exists.mp hs
      rw [hd] at h
      cases h
      exact ⟨hx', hd⟩
    · cases h
  have eSc : relabelS scope sc = relabel scope env := by rw [relabel_eq, F.scp]
  exact {
    scp := ecs
    kind := ok.kind
    glob := ecg.trans F.glob
    blt := ecb.trans F.blt
    ns := ⟨ml, ecl ▸ hn, fun x hx => by
      rw [hml, freeMap]
      split
      · rename_i hx'
        have h1 := ok.once _ (mem_free.mp hx')
        rw [eSc, relabel_names] at hx
        rw [h1] at hx
        simp only [Option.map_some, Option.some.injEq] at hx
        split at hx <;> cases hx
      · rfl⟩
    cell := fun x c h => by
      obtain ⟨h1, h2⟩ := cellLook x c h
      have := F.cell x c h2
      rw [freeMap, if_pos (mem_free.mpr h1)]
      exact this.keeps hk
    has := fun x hx => by
      have : (x, NameKind.free) ∈ scope.names := by
        rw [eSc, relabel_names] at hx
        cases hl : scope.names.lookup x with
        | none => rw [hl] at hx; simp at hx
        | some k =>
          rw [hl] at hx
          simp only [Option.map_some, Option.some.injEq] at hx
          have hm := lookup_mem hl
          by_cases hkf : k = .free
          · rw [hkf] at hm; exact hm
          · have hb : (k == NameKind.free) = false := by simpa using hkf
            simp only [hb, Bool.false_and, Bool.false_eq_true, if_false] at hx
            rcases hx with rfl | rfl
            · exact absurd rfl (ok.nocell _ hm)
            · exact hm
      rw [ecc, clOf_lookup, if_pos (mem_free.mpr this)]
      rfl
    apart := fun x y c h1 h2 => F.apart x y c (cellLook x c h1).2 (cellLook y c h2).2
    off := fun x c h e => by
      obtain ⟨_, h2⟩ := cellLook x c h
      obtain ⟨o, ho, _⟩ := F.cell x c h2
      rw [ecl] at e
      rw [e, hL] at ho; cases ho
    plain := fun x c h e => by
      obtain ⟨h1, _⟩ := cellLook x c h
      rw [eSc, relabel_names, ok.once _ h1] at e
      simp only [Option.map_some, Option.some.injEq] at e
      split at e <;> cases e }

/-- an own rule for list comprehensions: D the list that grows, cenv the frame -/
theorem wpD_ListComp {elt iter : Expr} {x : Str} {px : Pos} {scope : Scope} {pos : Pos} {Q : Value → Shared → Prop} (ok : ScOk sc scope)
    (h : wpD (model prog w) A (eval iter env) (fun xv s₁ => wpD (model prog w) A (pyIter xv) (fun it s₂ => Frm sc env s₂.heap m ∧
      ∀ D cenv s₄, LCNew scope env m s₂ (relabelS scope sc) D cenv s₄ →
        codeD (model prog w) A (.compStart (.ListComp elt [⟨.Name x px, iter, [], 0⟩] scope pos) 0 it (.ref D) cenv)
          (fun _ s' => ∃ mm, s'.heap.Ns cenv.locals mm ∧ ∀ s'', Rel (fun b _ => b = cenv.locals) noV s' s'' → Q (.ref D) s'') s₄) s₁) s)
    (hs : ∀ y, foldedSetIterable iter env y = pure y := by intro _; rfl) :
    wpD (model prog w) A (eval (.ListComp elt [⟨.Name x px, iter, [], 0⟩] scope pos) env) Q s := by
  rw [eval_ListComp]
  show wpD _ A (comprehension _ scope env iter.pos (newList []) false (eval iter env)) Q s
  unfold comprehension
  refine wpD_bind (wpD_mono h fun xv s₁ h₁ => wpD_bind (wpD_standAt ?_))
  refine wpD_bind (wpD_of_eq (hs xv) ?_)
  refine wpD_bind (wpD_holding (wpD_mono h₁ fun it s₂ h₂ => ?_))
  obtain ⟨F, h₂⟩ := h₂
  have hclos : closureFor scope env = pure (clOf scope env) := closureFor_eq fun y hy hf => F.has y.1 (ok.free y hy hf)
  rw [hclos]
  show wpD _ A (newList [] >>= _) Q s₂
  refine wpD_bind (wpD_of (wpAny_newObj_type ?_))
  refine wpD_bind (wpD_pure (wpD_bind (wpD_of (wpAny_newFunctionEnv ok.nocell (by intro y hy; simp at hy) (fun h₄ hns hsb => ?_) ok.kind))))
  dsimp only at hns hsb ⊢
  generalize hH : s₂.heap.push { cls := .type "list", dict := none, data := .seq ([] : List Value).toArray } = H at hns hsb ⊢
  have hC : H.objs.size = s₂.heap.objs.size + 1 := by rw [← hH, Heap.size_push]
  have old : ∀ b o, s₂.heap.get? b = some o → h₄.get? b = some o := fun b o e => hsb.extBut b o (by rw [hC]; exact Nat.ne_of_lt (Nat.lt_succ_of_lt (Heap.lt_size e))) (Heap.get?_push_of_some _ (hH ▸ Heap.get?_push_of_some _ e))
  have hz : h₄.objs.size = s₂.heap.objs.size + 2 := by rw [hsb.1, Heap.size_push, hC]
  have hacc : h₄.PlainList s₂.heap.objs.size #[] := ⟨_, hsb.extBut _ _ (by rw [hC]; exact Nat.ne_of_lt (Nat.lt_succ_self _)) (Heap.get?_push_of_some _ (hH ▸ Heap.get?_push_size _ rfl))⟩
  refine wpD_holding (wpD_bind (wpD_attempt (wpD_holding (wpD_run ?_))))
  have eA : A.mark none = A := by cases A; simp [Around.mark]
  rw [eA]
  have frm : Frm (relabelS scope sc) { newEnv scope H.objs.size env.globals (clOf scope env) env.qual none .none (some env) builtinsNs with scope := relabel scope env } h₄ (freeMap scope m) :=
    comp_frm (s₂ := s₂) (s₄ := { s₂ with heap := h₄, toks := s₂.toks + ([] : List (Str × Value)).length }) (L := H.objs.size) F ok (by rw [← F.scp]; rfl) rfl rfl rfl rfl hns (fun y => rfl) old (get_lt (by rw [hC]; exact Nat.le_succ _))
  refine codeD_mono (h₂ s₂.heap.objs.size { newEnv scope H.objs.size env.globals (clOf scope env) env.qual none .none (some env) builtinsNs with scope := relabel scope env }
    { s₂ with heap := h₄, toks := s₂.toks + ([] : List (Str × Value)).length }
    { rel := Rel.only (fun b o e _ => old b o e) (by show _ ≤ h₄.objs.size; rw [hz]; omega), frm := frm, acc := hacc, loD := Nat.le_refl _, hiD := (by show _ < h₄.objs.size; rw [hz]; omega),
      loC := (by show _ ≤ H.objs.size; rw [hC]; omega), hiC := (by show H.objs.size < h₄.objs.size; rw [hz, hC]; omega), DC := (by show _ ≠ H.objs.size; rw [hC]; omega),
      cells := fun y c e => by
        rw [show (_ : Env).cells = clOf scope env from rfl, clOf_lookup] at e
        split at e
        · rename_i hy
          obtain ⟨d, hd⟩ := Option.isSome_iff_exists.mp (F.has y (ok.free _ (mem_free.mp hy) rfl))
          rw [hd] at e; cases e; exact hd
        · cases e }) fun f s' hr => ?_
  obtain ⟨mm, hn, hr⟩ := hr
  dsimp only
  have hv : ∀ y ∈ (scope.names.filter fun y => (y.2 == .local || y.2 == .cell) && y.1 != (".0" : Str)).reverse, y.2 = .local →
      Env.kindOf { newEnv scope H.objs.size env.globals (clOf scope env) env.qual none .none (some env) builtinsNs with scope := relabel scope env } y.1 = some .local := fun y hy hl => by
    have h1 := ok.once y (List.mem_filter.mp (List.mem_reverse.mp hy)).1
    unfold Env.kindOf
    show (relabel scope env).names.lookup y.1 = _
    rw [relabel_names, h1, hl]; rfl
  refine wpD_bind (wpD_holding (wpD_of (wpAny_comp_letGo (cenv := { newEnv scope H.objs.size env.globals (clOf scope env) env.qual none .none (some env) builtinsNs with scope := relabel scope env }) ok.kind _ s' mm hv hn fun h' m' hn' hs' => ?_)))
  exact wpD_pure (hr _ (Rel.only (tk := s'.toks) (fun b o e q => hs'.extBut b o q e) (Nat.le_of_eq hs'.1.symm)))
end
end Mine

/-! B4 -/
set_option maxRecDepth 100000
namespace Mine
open PySem PySem.W PyProof.Rows
open Sem (wp)

section
variable {prog : Program} {w : World} {A : Around} {s : Shared} {env : Env} {sc : Scope} {m : Str → Option Value}

theorem codeD_compStart {elt target iter : Expr} {ifs : List Expr} {scope : Scope} {pos : Pos} {it acc : Value} {cenv : Env} {R : Flow → Shared → Prop}
    (h0 : codeD (model prog w) A (.compLoop (.ListComp elt [⟨target, iter, ifs, 0⟩] scope pos) 0 it acc cenv) R s)
    (h : wpD (model prog w) A (pyIter it) (fun it' s' => codeD (model prog w) A (.compLoop (.ListComp elt [⟨target, iter, ifs, 0⟩] scope pos) 0 it' acc cenv) R s') s) :
    codeD (model prog w) A (.compStart (.ListComp elt [⟨target, iter, ifs, 0⟩] scope pos) 0 it acc cenv) R s := by
  refine codeD_of_tree rfl ?_
  rw [Around.under_of_weight rfl]
  show wpD _ _ ((compStart (.ListComp elt [⟨target, iter, ifs, 0⟩] scope pos) 0 it acc cenv).onRaise (fun x => do noteFrame x cenv; standAt theWindowsPlace)) _ s
  refine wpD_onRaise ?_
  unfold compStart
  show wpD _ _ (ask >>= _) _ s
  refine wpD_bind (wpD_of (wpAny_askSetting ?_))
  split
  · first
      | exact wpD_bind (wpD_pure (wpD_pure (And.intro rfl h0)))
      | exact wpD_pure (And.intro rfl h0)
  · first
      | exact wpD_bind (wpD_rule (wpD_bind (wpD_standAt (wpD_bind (wpD_mono h fun it' s' h' => wpD_pure (And.intro rfl h'))))))
      | (refine wpD_bind (wpD_rule ?_); show wpD _ _ (standAt iter.pos >>= _) _ s; exact wpD_bind (wpD_standAt (wpD_bind (wpD_mono h fun it' s' h' => wpD_pure (And.intro rfl h')))))

theorem codeD_compLoop {elt iter : Expr} {x : Str} {px : Pos} {scope : Scope} {pos : Pos} {I D : Addr} {cenv : Env} {R : Flow → Shared → Prop} (J : Nat → Shared → Prop)
    (turn : ∀ n s, J n s → wpD (model prog w) A (pyNext (.ref I)) (fun r s₁ => match r with
      | none => R .next s₁
      | some v => wpD (model prog w) A (storeName cenv x v) (fun _ s₂ => wpD (model prog w) A (eval elt cenv) (fun y s₃ =>
          wpD (model prog w) A (call (.builtin "list.append") [.ref D, y]) (fun _ s₄ => ∃ k, k < n ∧ J k s₄) s₃) s₂) s₁) s)
    (n : Nat) (h : J n s) : codeD (model prog w) A (.compLoop (.ListComp elt [⟨.Name x px, iter, [], 0⟩] scope pos) 0 (.ref I) (.ref D) cenv) R s := by
  refine codeD_loop rfl rfl J (fun n s hJ => ?_) n h
  rw [Around.under_of_weight rfl]
  show wpD _ _ ((compTurn (.ListComp elt [⟨.Name x px, iter, [], 0⟩] scope pos) 0 (.ref I) (.ref D) cenv).onRaise (fun x => do noteFrame x cenv; theTreesLotGoes x)) _ s
  refine wpD_onRaise ?_
  unfold compTurn
  dsimp only
  refine wpD_bind (wpD_standAt ?_)
  show wpD _ _ (pyNext (.ref I) >>= _) _ s
  refine wpD_bind (wpD_mono (turn n s hJ) fun r s₁ h₁ => ?_)
  cases r with
  | none => exact wpD_pure h₁
  | some v =>
    refine wpD_bind (wpD_of_eq (rfl : letOwnedTupleGo (.Name x px) (.ref I) v = pure ()) ?_)
    refine wpD_bind (wpD_assign_Name (wpD_mono h₁ fun _ s₂ h₂ => ?_))
    show wpD _ _ ((eval elt cenv >>= fun y => call (.builtin "list.append") [.ref D, y] >>= fun _ => pure ()) >>= _) _ s₂
    refine wpD_bind (wpD_bind (wpD_mono h₂ fun y s₃ h₃ => wpD_bind (wpD_mono h₃ fun _ s₄ h₄ => wpD_pure ?_)))
    exact wpD_pure (.inl ⟨rfl, h₄⟩)

/-- the loop of a comprehension, its frame and its list kept track of -/
theorem lc_loop {elt iter : Expr} {x : Str} {px : Pos} {scope : Scope} {pos : Pos} {I D : Addr} {cenv : Env} {sc' : Scope} {mc : Str → Option Value} {R : Flow → Shared → Prop}
    {n : Nat} {X : Addr → Obj → Prop} {V : Nat → Prop} (J : Nat → List Value → Shared → Prop) (hx : sc'.names.lookup x = some .local)
    (F : Frm sc' cenv s.heap mc) (acc : s.heap.PlainList D #[]) (hXD : ∀ o, ¬ X D o) (hXC : ∀ b o, X b o → Own cenv b → Fk o → False) (hn : n ≤ sizeLine) (h0 : J 0 [] s)
    (hself : ∀ Q' : Value → Shared → Prop, Q' (.ref I) s → wpD (model prog w) A (pyIter (.ref I)) Q' s)
    (item : ∀ i ys s, i < n → ys.length = i → J i ys s → wpD (model prog w) A (pyNext (.ref I)) (fun r s₁ => ∃ v, r = some v ∧ Rel X V s s₁ ∧
      ∀ s₂, Rel (fun b _ => b = cenv.locals) noV s₁ s₂ → Frm sc' cenv s₂.heap (upd mc x v) →
        wpD (model prog w) A (eval elt cenv) (fun y s₃ => Rel noX noV s₂ s₃ ∧ ∀ s₄, Rel (fun b _ => b = D) noV s₃ s₄ → J (i + 1) (ys ++ [y]) s₄) s₂) s)
    (done : ∀ ys s, ys.length = n → J n ys s → s.heap.PlainList D ys.toArray → wpD (model prog w) A (pyNext (.ref I)) (fun r s₁ => r = none ∧ Rel X V s s₁ ∧ (∀ m', Frm sc' cenv s₁.heap m' → s₁.heap.PlainList D ys.toArray → R .next s₁)) s) :
    codeD (model prog w) A (.compStart (.ListComp elt [⟨.Name x px, iter, [], 0⟩] scope pos) 0 (.ref I) (.ref D) cenv) R s := by
  have hDC : ∀ {h : Heap} {m' : Str → Option Value} {ys : Array Value}, Frm sc' cenv h m' → h.PlainList D ys → ¬ Own cenv D := fun F L hb => by
    obtain ⟨o, ho, hf⟩ := F.own_at hb
    obtain ⟨k, hk⟩ := L
    rw [hk] at ho; cases ho
    exact hf
  have loop : codeD (model prog w) A (.compLoop (.ListComp elt [⟨.Name x px, iter, [], 0⟩] scope pos) 0 (.ref I) (.ref D) cenv) R s := by
    refine codeD_compLoop (fun k s => ∃ ys m', J ys.length ys s ∧ s.heap.PlainList D ys.toArray ∧ Frm sc' cenv s.heap m' ∧ (∀ v, ∀ y, upd m' x v y = upd mc x v y) ∧ ys.length ≤ n ∧ k = n + 1 - ys.length)
      (fun k s hJ => ?_) (n + 1) ⟨[], mc, h0, acc, F, fun _ _ => rfl, Nat.zero_le _, rfl⟩
    obtain ⟨ys, m', hJ, hD, F, hm, hle, rfl⟩ := hJ
    by_cases hlt : ys.length < n
    · refine wpD_mono (item ys.length ys s hlt rfl hJ) fun r s₁ h₁ => ?_
      obtain ⟨v, rfl, r₁, h₁⟩ := h₁
      have F₁ : Frm sc' cenv s₁.heap m' := F.rel r₁ hXC
      have D₁ : s₁.heap.PlainList D ys.toArray := hD.at fun o e => r₁.heap D o e (hXD o)
      dsimp only
      refine wpD_of (store_local (V := noV) F₁ (fun s₂ r₂ F₂ => ?_) hx)
      have D₂ : s₂.heap.PlainList D ys.toArray := D₁.at fun o e => r₂.heap D o e fun q => hDC F₁ D₁ (.inl q)
      have F₂' := F₂.congr (hm v)
      refine wpD_mono (h₁ s₂ r₂ F₂') fun y s₃ h₃ => ?_
      obtain ⟨r₃, h₃⟩ := h₃
      have D₃ : s₃.heap.PlainList D ys.toArray := D₂.at fun o e => r₃.keeps D o e
      refine wpD_of (wpAny_list_append_plain D₃ (fun h' hl hs => ?_) (by rw [List.size_toArray]; omega))
      have r₄ : Rel (fun b _ => b = D) noV s₃ { s₃ with heap := h' } := Rel.only (tk := s₃.toks) (fun b o e q => hs.extBut b o q e) (Nat.le_of_eq hs.1.symm)
      refine ⟨n + 1 - (ys ++ [y]).length, by rw [List.length_append, List.length_singleton]; omega, ys ++ [y], upd mc x v, ?_, ?_, ?_, ?_, by rw [List.length_append, List.length_singleton]; omega, rfl⟩
      · rw [List.length_append, List.length_singleton]; exact h₃ _ r₄
      · simpa using hl
      · exact (F₂'.keep r₃).rel r₄ fun b o q hb ho => hDC (F₂'.keep r₃) D₃ (q ▸ hb)
      · intro v' y'; unfold upd; split <;> rfl
    · have hin : ys.length = n := by omega
      refine wpD_mono (done ys s hin (hin ▸ hJ) hD) fun r s₁ h₁ => ?_
      obtain ⟨rfl, r₁, h₁⟩ := h₁
      exact h₁ m' (F.rel r₁ hXC) (hD.at fun o e => r₁.heap D o e (hXD o))
  exact codeD_compStart loop (hself _ loop)

/-- over a list: everything that is written lies in [s₁.size, hi) -/
theorem wpD_LC_list {elt iter : Expr} {x : Str} {px : Pos} {scope : Scope} {pos : Pos} {Q : Value → Shared → Prop} (ok : ScOk sc scope) (hh : A.handled = none)
    (h : wpD (model prog w) A (eval iter env) (fun xv s₁ => ∃ (ax : Addr) (vs : List Value), xv = .ref ax ∧ s₁.heap.IsList ax vs.toArray ∧ vs.length ≤ sizeLine ∧ Frm sc env s₁.heap m ∧
      ∀ hi, s₁.heap.objs.size ≤ hi → ∃ J : Nat → List Value → Shared → Prop,
        (∀ i ys s s', J i ys s → Rel (fun b _ => s₁.heap.objs.size ≤ b ∧ b < hi) noV s s' → J i ys s') ∧
        (∀ s, Rel noX noV s₁ s → J 0 [] s) ∧
        (∀ i ys v cenv s, vs[i]? = some v → ys.length = i → J i ys s → hi ≤ s.heap.objs.size → Rel noX noV s₁ s → Frm (relabelS scope sc) cenv s.heap (upd (freeMap scope m) x v) →
          wpD (model prog w) A (eval elt cenv) (fun y s' => Rel noX noV s s' ∧ J (i + 1) (ys ++ [y]) s') s) ∧
        (∀ ys s D, ys.length = vs.length → J vs.length ys s → s₁.heap.objs.size ≤ D → D < hi → Rel noX noV s₁ s → s.heap.PlainList D ys.toArray → Q (.ref D) s)) s)
    (hx : (relabelS scope sc).names.lookup x = some .local := by rfl) (hs : ∀ y, foldedSetIterable iter env y = pure y := by intro _; rfl) :
    wpD (model prog w) A (eval (.ListComp elt [⟨.Name x px, iter, [], 0⟩] scope pos) env) Q s := by
  refine wpD_ListComp (m := m) ok (wpD_mono h fun xv s₁ h₁ => ?_) hs
  obtain ⟨ax, vs, rfl, hl, hn, F, h₁⟩ := h₁
  refine wpD_grow (wpD_of (wpAny_pyIter_list hl ?_))
  intro mono₂
  generalize hs₂ : ({ s₁ with heap := s₁.heap.push { cls := .type "list_iterator", data := .fields #[.ref ax, .int 0 0] } } : Shared) = s₂
  have r₂ : Rel noX noV s₁ s₂ := hs₂ ▸ Rel.push (tk := s₁.toks)
  have hz₂ : s₂.heap.objs.size = s₁.heap.objs.size + 1 := by rw [← hs₂]; exact Heap.size_push ..
  have hit : s₂.heap.IsListIter s₁.heap.objs.size ax 0 := by rw [← hs₂]; exact ⟨_, Heap.get?_push_size _ rfl, rfl, rfl⟩
  clear hs₂ mono₂
  obtain ⟨ol, hol, _⟩ := id hl
  have hax : ax < s₁.heap.objs.size := Heap.lt_size hol
  refine ⟨F.keep r₂, fun D cenv s₄ N => ?_⟩
  obtain ⟨J, stab, init, step, fin⟩ := h₁ s₄.heap.objs.size (Nat.le_trans r₂.mono.1 N.rel.mono.1)
  have hIo : ∀ {h : Heap} {i : Nat} {o : Obj}, h.IsListIter s₁.heap.objs.size ax i → h.get? s₁.heap.objs.size = some o → Ik o := fun ⟨o', e', _, d'⟩ e => by
    rw [e'] at e; cases e; unfold Ik; rw [d']; trivial
  have hD1 : s₁.heap.objs.size ≤ D := Nat.le_trans r₂.mono.1 N.loD
  have hDI : D ≠ s₁.heap.objs.size := Nat.ne_of_gt (Nat.lt_of_lt_of_le (by rw [hz₂]; exact Nat.lt_succ_self _) N.loD)
  have hCI : cenv.locals ≠ s₁.heap.objs.size := Nat.ne_of_gt (Nat.lt_of_lt_of_le (by rw [hz₂]; exact Nat.lt_succ_self _) N.loC)
  have hIs : s₁.heap.objs.size < s₄.heap.objs.size := by have := N.rel.mono.1; omega
  refine lc_loop (n := vs.length) (X := fun b _ => b = s₁.heap.objs.size) (V := noV) (fun i ys s => J i ys s ∧ s.heap.IsListIter s₁.heap.objs.size ax i ∧ Rel noX noV s₁ s ∧ s₄.heap.objs.size ≤ s.heap.objs.size) hx N.frm N.acc
    (fun o => hDI) (fun b o q hb ho => ?_) hn ⟨init _ (r₂.trans N.rel), hit.at fun o e => N.rel.keeps _ o e, r₂.trans N.rel, Nat.le_refl _⟩ (fun Q' hQ' => ?_) (fun i ys s hi hy hJ => ?_) (fun ys s hy hJ hpl => ?_)
  · subst q
    rcases hb with e | ⟨y, e⟩
    · exact hCI e.symm
    · obtain ⟨o', ho', _⟩ := F.cell y _ (N.cells y _ e)
      exact Nat.lt_irrefl _ (Heap.lt_size ho')
  · exact wpD_of (wpAny_pyIter_listiter (hit.at fun o e => N.rel.keeps _ o e) hQ')
  · obtain ⟨hJ, hit, r, hz⟩ := hJ
    have hl' : s.heap.IsList ax vs.toArray := hl.at fun o e => r.keeps ax o e
    refine wpD_of (wpAny_pyNext_list_item hit hl' (x := vs[i]) (by simp [hi]) fun h' hit' hs' => ?_)
    have rI : Rel (fun b _ => b = s₁.heap.objs.size) noV s { s with heap := h' } := Rel.only (tk := s.toks) (fun b o e q => hs'.extBut b o q e) (Nat.le_of_eq hs'.1.symm)
    refine ⟨_, rfl, rI, fun s₂ rC F₂ => ?_⟩
    have w1 : Rel (fun b _ => s₁.heap.objs.size ≤ b ∧ b < s₄.heap.objs.size) noV s { s with heap := h' } := rI.weak (fun b _ q => by subst q; exact ⟨Nat.le_refl _, hIs⟩) fun _ q => q
    have w2 : Rel (fun b _ => s₁.heap.objs.size ≤ b ∧ b < s₄.heap.objs.size) noV { s with heap := h' } s₂ := rC.weak (fun b _ q => q ▸ ⟨Nat.le_trans r₂.mono.1 N.loC, N.hiC⟩) fun _ q => q
    have rr : Rel noX noV s₁ s₂ := (w1.trans w2).fresh r (fun b o q => .inl (get_lt q.1)) fun _ q => q.elim
    refine wpD_mono (step i ys _ cenv s₂ (by simp [hi]) hy (stab _ _ _ _ hJ (w1.trans w2)) (Nat.le_trans hz (rI.mono.trans rC.mono).1) rr F₂) fun y s₃ h₃ => ⟨h₃.1, fun s₄' r₄' => ?_⟩
    have w3 : Rel (fun b _ => s₁.heap.objs.size ≤ b ∧ b < s₄.heap.objs.size) noV s₃ s₄' := r₄'.weak (fun b _ q => q ▸ ⟨hD1, N.hiD⟩) fun _ q => q
    refine ⟨stab _ _ _ _ h₃.2 w3, ?_, w3.fresh (rr.trans h₃.1) (fun b o q => .inl (get_lt q.1)) fun _ q => q.elim, Nat.le_trans hz (((rI.mono.trans rC.mono).trans h₃.1.mono).trans r₄'.mono).1⟩
    have a1 : s₂.heap.IsListIter s₁.heap.objs.size ax (i + 1) := hit'.at fun o e => rC.heap _ o e hCI.symm
    have a2 : s₃.heap.IsListIter s₁.heap.objs.size ax (i + 1) := a1.at fun o e => h₃.1.keeps _ o e
    exact a2.at fun o e => r₄'.heap _ o e hDI.symm
  · obtain ⟨hJ, hit, r, hz⟩ := hJ
    have hl' : s.heap.IsList ax vs.toArray := hl.at fun o e => r.keeps ax o e
    refine wpD_grow (wpD_of (wpAny_pyNext_list_end hh hit hl' (by simp) fun h' he' => ?_))
    intro mz
    have rI : Rel (fun b _ => b = s₁.heap.objs.size) noV s { s with heap := h' } := Rel.only (tk := s.toks) (fun b o e q => he' b o q e) mz.1
    refine ⟨rfl, rI, fun m' F' hpl' => ?_⟩
    obtain ⟨ml, hns, _⟩ := F'.ns
    refine ⟨ml, hns, fun s'' rC => ?_⟩
    have w1 : Rel (fun b _ => s₁.heap.objs.size ≤ b ∧ b < s₄.heap.objs.size) noV s { s with heap := h' } := rI.weak (fun b _ q => by subst q; exact ⟨Nat.le_refl _, hIs⟩) fun _ q => q
    have w2 : Rel (fun b _ => s₁.heap.objs.size ≤ b ∧ b < s₄.heap.objs.size) noV { s with heap := h' } s'' := rC.weak (fun b _ q => q ▸ ⟨Nat.le_trans r₂.mono.1 N.loC, N.hiC⟩) fun _ q => q
    exact fin ys s'' D hy (stab _ _ _ _ hJ (w1.trans w2)) hD1 N.hiD ((w1.trans w2).fresh r (fun b o q => .inl (get_lt q.1)) fun _ q => q.elim)
      (hpl'.at fun o e => rC.heap D o e N.DC)
end
end Mine

/-! D2 -/
set_option maxRecDepth 100000
namespace Mine
open PySem PySem.W PyProof.Rows
open Sem (wp)

/-! the clean logic with exceptions: for the few places where one is raised and caught -/
def wpE {α : Type} (M : Model) (A : Around) (t : Sem α) (Q : α → Shared → Prop) (E : Value → Shared → Prop) (s : Shared) : Prop :=
  ∀ Γ p, Γ.In A → Cl Γ → wp M Γ t (fun a _ s' => Q a s') (fun e _ s' => E e s') p s
def codeE (M : Model) (A : Around) (c : Code) (R : Result → Shared → Prop) (s : Shared) : Prop :=
  ∀ Γ p, Γ.code = c → Γ.Below A → ClB Γ → wpCode M Γ R p s

section
variable {α β : Type} {M : Model} {A : Around} {s : Shared} {E : Value → Shared → Prop}
theorem wpE_of {t : Sem α} {Q : α → Shared → Prop} (h : wpAny M A t Q E s) : wpE M A t Q E s := fun Γ p hΓ _ => h Γ p hΓ
theorem wpE_ofD {t : Sem α} {Q : α → Shared → Prop} (h : wpD M A t Q s) : wpE M A t Q E s := fun Γ p hΓ hc => Sem.wp_mono M Γ t (fun _ _ _ x => x) (fun _ _ _ x => x.elim) p s (h Γ p hΓ hc)
theorem wpE_pure {a : α} {Q : α → Shared → Prop} (h : Q a s) : wpE M A (pure a) Q E s := fun _ _ _ _ => h
theorem wpE_bind {m : Sem α} {f : α → Sem β} {Q : β → Shared → Prop} (h : wpE M A m (fun a s' => wpE M A (f a) Q E s') E s) : wpE M A (m >>= f) Q E s := fun Γ p hΓ hc => by
  rw [Sem.wp_bind']
  exact Sem.wp_mono M Γ m (fun a p' s' h' => h' Γ p' hΓ hc) (fun _ _ _ x => x) p s (h Γ p hΓ hc)
theorem wpE_mono {t : Sem α} {Q Q' : α → Shared → Prop} {E' : Value → Shared → Prop} (h : wpE M A t Q E s) (hQ : ∀ a s', Q a s' → Q' a s') (hE : ∀ e s', E e s' → E' e s') : wpE M A t Q' E' s :=
  fun Γ p hΓ hc => Sem.wp_mono M Γ t (fun a _ s' => hQ a s') (fun e _ s' => hE e s') p s (h Γ p hΓ hc)
theorem wpE_holding {vs : List Value} {m : Sem α} {Q : α → Shared → Prop} (h : wpE M A m Q E s) : wpE M A (holding vs m) Q E s :=
  fun Γ p hΓ hc => by rw [Sem.wp_holding]; exact h Γ p hΓ hc
theorem wpD_attemptE {m : Sem α} {Q : Except Value α → Shared → Prop} (h : wpE M A m (fun a s' => Q (.ok a) s') (fun e s' => Q (.error e) s') s) : wpD M A m.attempt Q s := fun Γ p hΓ hc => by
  rw [Sem.wp_attempt]
  exact h Γ p hΓ hc

def retE (Q : Value → Shared → Prop) (E : Value → Shared → Prop) : Result → Shared → Prop
  | .ok (.ret v), s => Q v s
  | .ok _, _ => False
  | .error e, s => E e s

theorem wpE_call {f : Value} {pos : List Value} {kw : List (Str × Value)} {Q : Value → Shared → Prop} (hc : codeE M A (.call f ⟨pos, kw⟩) (retE Q E) s) : wpE M A (call f pos kw) Q E s :=
  fun Γ p hΓ hcl => by
    unfold call
    rw [Sem.wp_runValue]
    exact wpCode_mono (fun r s' x => by
      cases r with
      | error e => exact x
      | ok f => cases f <;> exact x) (hc _ p rfl (hΓ.enter _ none p (by intro x; cases x)) (hcl.enter _ none p))

def finE (M : Model) (A : Around) (R : Result → Shared → Prop) : Fin → Shared → Prop
  | .done f, s' => R (.ok f) s'
  | .again c', s' => c'.quiet = true ∧ codeE M A c' R s'

theorem codeE_of_tree {c : Code} {R : Result → Shared → Prop} (hd : isDec c = false) (h : wpE M (A.under c) (M.den c) (finE M A R) (fun e s' => R (.error e) s') s) : codeE M A c R s := fun Γ p hc hΓ hb => by
  rw [wpCode_iff_wp, hc]
  refine Sem.wp_mono M Γ _ (fun fin p' s' h' => ?_) (fun _ _ _ h' => h') p s (h Γ p (hc ▸ hΓ.in) ⟨by rw [hc]; exact hd, hb⟩)
  cases fin with
  | done f => exact h'
  | again c' => exact ⟨h'.1, h'.2 (Γ.goto c') p' rfl (hΓ.goto c') hb⟩

theorem wpE_resume {R : GenEnd} {Y : Protocol} {n : Nat} {g : Nat} {gs : GenState}
    {r : Resume} {l : List Value} {k : GenResult → Sem α} {Q : α → Shared → Prop} (hg : s.gens[g]? = some gs)
    (hgo : GoesD M A R Y n gs r (s.setGen g .running))
    (hR : ∀ x s₁, R n (s.setGen g .running) x s₁ → wpE M A (k (End.ret x).result) Q E (s₁.setGen g .finished))
    (hY : ∀ v s₁ gs', gs'.bare = true → Y (n - 1) (s.setGen g .running) v s₁ (fun r' s'' => match n with | 0 => False | m + 1 => GoesD M A R Y m gs' r' s'') →
      wpE M A (k (.yielded v)) Q E (s₁.setGen g gs')) :
    wpE M A (.resume g r l k) Q E s := by
  intro Γ p hΓ hcl
  rw [Sem.wp_resume]
  have hB : ∀ c, (Γ.wake c p).Woken A := fun c => hΓ.wake c p
  have hC : ∀ c, ClB (Γ.wake c p) := fun c => hcl.wake c p
  have fin : ∀ e₁ s₁, SegEnd R Y n (SegD.next M A R Y n) (s.setGen g .running) e₁ s₁ →
      wp M Γ (k e₁.result) (fun a _ s' => Q a s') (fun e _ s' => E e s') p (s₁.setGen g e₁.genState) := by
    intro e₁ s₁ he
    cases e₁ with
    | ret x => exact hR x s₁ he Γ p hΓ hcl
    | susp v g₀ l₀ k₀ c₀ p₀ fs₀ =>
      refine hY v s₁ _ (End.bare_of_quiet he.1) ?_ Γ p hΓ hcl
      cases n with
      | zero => exact he.2
      | succ m => exact he.2
  have hqt : ∀ e₁ s₁, SegEnd R Y n (SegD.next M A R Y n) (s.setGen g .running) e₁ s₁ → e₁.quiet = true := by
    intro e₁ s₁ he
    cases e₁ with
    | ret x => rfl
    | susp v g₀ l₀ k₀ c₀ p₀ fs₀ => exact he.1
  cases gs with
  | fresh c =>
    obtain ⟨rfl, hs⟩ := hgo
    obtain ⟨e₁, s₁, hr, he⟩ := segD_iff.mp hs (Γ.wake c p) p rfl (hB c) (hC c)
    exact ⟨_, _, by unfold Wakes; rw [hg]; exact ⟨e₁, s₁, hr, hqt e₁ s₁ he, rfl, rfl⟩, fin e₁ s₁ he⟩
  | suspended k₀ l₀ c₀ p₀ fs₀ cl =>
    obtain ⟨e₁, s₁, hr, he⟩ := segD_iff.mp hgo (Γ.wake c₀ p) p₀ rfl (hB c₀) (hC c₀)
    exact ⟨_, _, by unfold Wakes; rw [hg]; exact ⟨e₁, s₁, hr, hqt e₁ s₁ he, rfl, rfl⟩, fin e₁ s₁ he⟩
  | running => exact hgo.elim
  | finished => exact hgo.elim
end

theorem isDec_id {id : String} {args : Args} (h : Builtin.Bytes.decodersThatHold.contains id = false) : isDec (.builtin id args) = false := h

section
variable {prog : Program} {w : World} {A : Around} {s : Shared}

theorem codeE_builtin {id : String} {args : Args} {b : Builtin} {R : Result → Shared → Prop} (hd : isDec (.builtin id args) = false) (hb : entryFor table id = some b)
    (h : wpE (model prog w) (A.under (.builtin id args)) (b args) (finE (model prog w) A R) (fun e s' => R (.error e) s') s) : codeE (model prog w) A (.builtin id args) R s := by
  refine codeE_of_tree hd ?_
  show wpE _ _ (match entryFor table id with | some b => b args | none => unsupported ((withoutEnding? id "#data").getD id)) _ _ s
  rw [hb]; exact h

theorem codeE_call_builtin {id : String} {args : Args} {b : Builtin} {R : Result → Shared → Prop} (hd : isDec (.builtin id args) = false) (hq : plainId id = true) (hb : entryFor table id = some b)
    (h : wpE (model prog w) A.in1 (checkBuiltinCall id args) (fun _ s₁ => wpE (model prog w) A.in1 (b args) (finE (model prog w) A R) (fun e s' => R (.error e) s') s₁) (fun e s' => R (.error e) s') s) :
    codeE (model prog w) A (.call (.builtin id) args) R s := by
  refine codeE_of_tree rfl ?_
  show wpE _ A.in1 (do checkBuiltinCall id args; again (.builtin id args)) _ _ s
  refine wpE_bind (wpE_mono h (fun _ s₁ h₁ => wpE_pure (And.intro (plainId_quiet hq args) (codeE_builtin hd hb ?_))) fun _ _ x => x)
  rw [Around.under_plainId hq args]; exact h₁

/-- the next item of a generator, in a clean context -/
theorem wpD_pyNext_gen {a : Addr} {g n : Nat} {gs : GenState} {P : Nat → Shared → Shared → Prop} {Y : Protocol} {Q : Option Value → Shared → Prop} (hh : A.handled = none)
    (hl : s.heap.NoLimit) (hroom : A.depth < recursionLimit) (hg : s.heap.IsGen a g) (hgs : s.gens[g]? = some gs)
    (hgo : GoesD (model prog w) A.in1 (fun n s₀ r s₁ => r = .ok (.ret .none) ∧ P n s₀ s₁) Y n gs (.send .none) (s.setGen g .running))
    (hY : ∀ v s₁ gs', gs'.bare = true → Y (n - 1) (s.setGen g .running) v s₁ (fun r' s'' => match n with
        | 0 => False
        | m + 1 => GoesD (model prog w) A.in1 (fun n s₀ r s₁ => r = .ok (.ret .none) ∧ P n s₀ s₁) Y m gs' r' s'') → Q (some v) (s₁.setGen g gs'))
    (hP : ∀ s₁, P n (s.setGen g .running) s₁ → ∀ h', (∀ b o, s₁.heap.get? b = some o → h'.get? b = some o) → s₁.heap.objs.size ≤ h'.objs.size → Q none { s₁.setGen g .finished with heap := h' }) :
    wpD (model prog w) A (pyNext (.ref a)) Q s := by
  unfold pyNext
  refine wpD_bind (wpD_attemptE ?_)
  unfold callSpecial?
  refine wpE_bind (wpE_of (wpAny_specialOf hg.typeIs slot_gen_next.lookup ?_))
  dsimp only
  refine wpE_holding ?_
  rw [slot_gen_next.bind]
  refine wpE_bind (wpE_pure (wpE_bind (wpE_call ?_)))
  refine codeE_call_builtin (isDec_id (by decide +kernel)) slot_gen_next.plain entry_gen_next (wpE_of (slot_gen_next.check _ _ _ _ _ _ _ _ hg.typeIs (args_gen_next _) ?_))
  show wpE _ A.in1 (Builtin.Generator.genWake (.ref a) (.send .none)) _ _ s
  unfold Builtin.Generator.genWake
  refine wpE_bind (wpE_holding (wpE_of (wpAny_genNumber hg ?_)))
  refine wpE_bind (wpE_of (wpAny_genState hgs ?_))
  cases gs with
  | running => exact hgo.elim
  | finished => exact hgo.elim
  | _ =>
    refine wpE_bind (wpE_of (wpAny_roomToWake hl hroom ?_))
    show wpE _ A.in1 (.resume g (.send .none) [] _) _ _ s
    refine wpE_resume hgs hgo (fun x s₁ hx => ?_) (fun v s₁ gs' hb hv => ?_)
    · obtain ⟨rfl, hp⟩ := hx
      show wpE _ A.in1 (newExc (.type "StopIteration") [] >>= _) _ _ _
      refine wpE_of (wpAny_bind ?_)
      simp only [newExc, newTuple]
      refine wpAny_bind (wpAny_newObj_type ?_ (by size_fits))
      refine wpAny_bind (m := firstArgMember _ _) (wpAny_of_eq (a := Value.none) (by first | rfl | (simp only [firstArgMember]; rfl)) ?_)
      refine wpAny_newObj_type ?_ (by size_fits)
      simp only [raiseNew]
      refine wpAny_bind (wpAny_bind (wpAny_handled ?_))
      rw [show A.in1.handled = none from hh]
      refine wpAny_throw ?_
      refine wpD_bind (wpD_of (wpAny_isInstance (T := "StopIteration") (b := true) ⟨_, Heap.get?_push_size _ rfl, rfl⟩ isSubtype_stop ?_))
      exact wpD_pure (hP s₁ hp _ (fun b o hb => Heap.get?_push_of_some _ (Heap.get?_push_of_some _ hb)) (by rw [Heap.size_push, Heap.size_push]; exact Nat.le_add_right _ 2))
    · exact wpE_pure (wpE_pure (wpD_pure (hY v s₁ gs' hb hv)))
end
end Mine

/-! LF -/
set_option maxRecDepth 100000
namespace Mine
open PySem PySem.W PyProof.Rows PySem.F

/-! facts of the types bytearray, bytearray_iterator -/
theorem mro_ba : mroOf (.type "bytearray") = pure [.type "bytearray", .type "object"] := by rw [mroOf_type]; kernel_rfl
theorem lookup_ba_new : typeLookup (.type "bytearray") "__new__" = pure (some (.builtin "bytearray.__new__")) := by rw [typeLookup_type, builtinLookup_eq_fast]; kernel_rfl
theorem slot_ba_init : Slot "bytearray" "__init__" "bytearray.__init__" :=
  .of (owner := "bytearray") (n := "__init__") (by rw [typeLookup_type, builtinLookup_eq_fast]; kernel_rfl) (by decide +kernel) (by decide +kernel) (by decide +kernel)
    (by first | exact .inl (by decide +kernel) | exact .inr (by decide +kernel)) (by rw [isSubtype_type]; kernel_rfl)
theorem slot_ba_iter : Slot "bytearray" "__iter__" "bytearray.__iter__" :=
  .of (owner := "bytearray") (n := "__iter__") (by rw [typeLookup_type, builtinLookup_eq_fast]; kernel_rfl) (by decide +kernel) (by decide +kernel) (by decide +kernel)
    (by first | exact .inl (by decide +kernel) | exact .inr (by decide +kernel)) (by rw [isSubtype_type]; kernel_rfl)
theorem slot_ba_getitem : Slot "bytearray" "__getitem__" "bytearray.__getitem__" :=
  .of (owner := "bytearray") (n := "__getitem__") (by rw [typeLookup_type, builtinLookup_eq_fast]; kernel_rfl) (by decide +kernel) (by decide +kernel) (by decide +kernel)
    (by first | exact .inl (by decide +kernel) | exact .inr (by decide +kernel)) (by rw [isSubtype_type]; kernel_rfl)
theorem slot_ba_setitem : Slot "bytearray" "__setitem__" "bytearray.__setitem__" :=
  .of (owner := "bytearray") (n := "__setitem__") (by rw [typeLookup_type, builtinLookup_eq_fast]; kernel_rfl) (by decide +kernel) (by decide +kernel) (by decide +kernel)
    (by first | exact .inl (by decide +kernel) | exact .inr (by decide +kernel)) (by rw [isSubtype_type]; kernel_rfl)
theorem slot_ba_len : Slot "bytearray" "__len__" "bytearray.__len__" :=
  .of (owner := "bytearray") (n := "__len__") (by rw [typeLookup_type, builtinLookup_eq_fast]; kernel_rfl) (by decide +kernel) (by decide +kernel) (by decide +kernel)
    (by first | exact .inl (by decide +kernel) | exact .inr (by decide +kernel)) (by rw [isSubtype_type]; kernel_rfl)
theorem slot_bai_next : Slot "bytearray_iterator" "__next__" "bytearray_iterator.__next__" :=
  .of (owner := "bytearray_iterator") (n := "__next__") (by rw [typeLookup_type, builtinLookup_eq_fast]; kernel_rfl) (by decide +kernel) (by decide +kernel) (by decide +kernel)
    (by first | exact .inl (by decide +kernel) | exact .inr (by decide +kernel)) (by rw [isSubtype_type]; kernel_rfl)
theorem slot_bai_iter : Slot "bytearray_iterator" "__iter__" "bytearray_iterator.__iter__" :=
  .of (owner := "bytearray_iterator") (n := "__iter__") (by rw [typeLookup_type, builtinLookup_eq_fast]; kernel_rfl) (by decide +kernel) (by decide +kernel) (by decide +kernel)
    (by first | exact .inl (by decide +kernel) | exact .inr (by decide +kernel)) (by rw [isSubtype_type]; kernel_rfl)

theorem entry_ba_init : entryFor table "bytearray.__init__" = some Builtin.«bytearray.__init__» := by first | exact entryFor_of_tree (by kernel_rfl) | exact entryFor_of_fast (by kernel_rfl)
theorem entry_ba_loop : entryFor table "bytearray.__init__.loop" = some Builtin.«bytearray.__init__.loop» := by first | exact entryFor_of_tree (by kernel_rfl) | exact entryFor_of_fast (by kernel_rfl)
theorem entry_ba_iter : entryFor table "bytearray.__iter__" = some Builtin.«bytearray.__iter__» := by first | exact entryFor_of_tree (by kernel_rfl) | exact entryFor_of_fast (by kernel_rfl)
theorem entry_ba_getitem : entryFor table "bytearray.__getitem__" = some Builtin.«bytearray.__getitem__» := by first | exact entryFor_of_tree (by kernel_rfl) | exact entryFor_of_fast (by kernel_rfl)
theorem entry_ba_setitem : entryFor table "bytearray.__setitem__" = some Builtin.«bytearray.__setitem__» := by first | exact entryFor_of_tree (by kernel_rfl) | exact entryFor_of_fast (by kernel_rfl)
theorem entry_ba_len : entryFor table "bytearray.__len__" = some Builtin.«bytearray.__len__» := by first | exact entryFor_of_tree (by kernel_rfl) | exact entryFor_of_fast (by kernel_rfl)
theorem entry_bai_next : entryFor table "bytearray_iterator.__next__" = some Builtin.«bytearray_iterator.__next__» := by first | exact entryFor_of_tree (by kernel_rfl) | exact entryFor_of_fast (by kernel_rfl)
theorem entry_ba_new : entryFor table "bytearray.__new__" = some Builtin.«list.__new__» := entryFor_alias (id' := "list.__new__") (by kernel_rfl) rfl (by decide +kernel) (by kernel_rfl)
theorem entry_bai_iter : entryFor table "bytearray_iterator.__iter__" = some Builtin.«dict_keyiterator.__iter__» := entryFor_alias (id' := "dict_keyiterator.__iter__") (by kernel_rfl) rfl (by decide +kernel) (by kernel_rfl)
theorem args_ba_init (a b : Value) : argsOk "bytearray.__init__" ⟨[a, b], []⟩ := by unfold argsOk; kernel_rfl
theorem args_ba_iter (a : Value) : argsOk "bytearray.__iter__" ⟨[a], []⟩ := by unfold argsOk; kernel_rfl
theorem args_ba_getitem (a b : Value) : argsOk "bytearray.__getitem__" ⟨[a, b], []⟩ := by unfold argsOk; kernel_rfl
theorem args_ba_setitem (a b c : Value) : argsOk "bytearray.__setitem__" ⟨[a, b, c], []⟩ := by unfold argsOk; kernel_rfl
theorem args_ba_len (a : Value) : argsOk "bytearray.__len__" ⟨[a], []⟩ := by unfold argsOk; kernel_rfl
theorem args_bai_next (a : Value) : argsOk "bytearray_iterator.__next__" ⟨[a], []⟩ := by unfold argsOk; kernel_rfl
theorem args_bai_iter (a : Value) : argsOk "bytearray_iterator.__iter__" ⟨[a], []⟩ := by unfold argsOk; kernel_rfl

theorem plain_ba_new : plainId "bytearray.__new__" = true := by decide +kernel
theorem plain_ba_loop : plainId "bytearray.__init__.loop" = true := by decide +kernel
theorem called_ba : TypeCalled "bytearray" "bytearray.__new__" "bytearray.__init__" :=
  ⟨by decide +kernel, by decide +kernel, ⟨_, _, mro_ba⟩, madeBy_type mro_ba lookup_ba_new (by decide +kernel), by decide +kernel, by rw [isSubtype_type]; kernel_rfl, slot_ba_init⟩
theorem typeCall_ba (a : Value) : checkTypeCall "bytearray" ⟨[a], []⟩ = pure () := by kernel_rfl
theorem newCall_ba (a : Value) : checkBuiltinCall "bytearray.__new__" ⟨[.type "bytearray", a], []⟩ = pure () := by kernel_rfl
theorem sub_ba : isSubtype (.type "bytearray") (.type "bytearray") = pure true := by rw [isSubtype_type]; kernel_rfl
theorem ba_bind (v : Value) : Builtin.Bytes.bindOptional "bytearray.__init__" "bytearray" ["source", "encoding", "errors"] [v] [] = pure [some v, none, none] := by kernel_rfl
theorem ba_release : typeLookup (.type "bytearray") "__release_buffer__" = pure (some (.builtin "bytearray.__release_buffer__")) := by rw [typeLookup_type, builtinLookup_eq_fast]; kernel_rfl

theorem li_no_index : typeLookup (.type "list_iterator") "__index__" = pure none := by rw [typeLookup_type, builtinLookup_eq_fast]; kernel_rfl
theorem li_no_buffer : typeLookup (.type "list_iterator") "__buffer__" = pure none := by rw [typeLookup_type, builtinLookup_eq_fast]; kernel_rfl
theorem bai_no_index : typeLookup (.type "bytearray_iterator") "__index__" = pure none := by rw [typeLookup_type, builtinLookup_eq_fast]; kernel_rfl
theorem bai_no_buffer : typeLookup (.type "bytearray_iterator") "__buffer__" = pure none := by rw [typeLookup_type, builtinLookup_eq_fast]; kernel_rfl
theorem gen_no_index : typeLookup (.type "generator") "__index__" = pure none := by rw [typeLookup_type, builtinLookup_eq_fast]; kernel_rfl
theorem gen_no_buffer : typeLookup (.type "generator") "__buffer__" = pure none := by rw [typeLookup_type, builtinLookup_eq_fast]; kernel_rfl
theorem li_no_len : typeLookup (.type "list_iterator") "__len__" = pure none := by rw [typeLookup_type, builtinLookup_eq_fast]; kernel_rfl
theorem li_hint : typeLookup (.type "list_iterator") "__length_hint__" = pure (some (.builtin "list_iterator.__length_hint__")) := by rw [typeLookup_type, builtinLookup_eq_fast]; kernel_rfl
theorem sub_li : isSubtype (.type "list_iterator") (.type "list_iterator") = pure true := by rw [isSubtype_type]; kernel_rfl
end Mine

/-! L1 -/
set_option maxRecDepth 100000
namespace Mine
open PySem PySem.W PyProof.Rows
open Sem (wp)

section
variable {prog : Program} {w : World} {A : Around} {s : Shared}

theorem wpD_callType {T newId initId : String} {Bi : Builtin} {args : List Value} {Q Q₁ : Value → Shared → Prop} (ft : TypeCalled T newId initId)
    (hct : checkTypeCall T ⟨args, []⟩ = pure ()) (entryI : entryFor table initId = some Bi) (hdI : Builtin.Bytes.decodersThatHold.contains initId = false)
    (hnew : codeD (model prog w) A.in1 (.call (.builtin newId) ⟨.type T :: args, []⟩) (retD Q₁) s)
    (hnext : ∀ obj s₁, Q₁ obj s₁ → s₁.TypeIs obj T ∧ argsOk initId ⟨obj :: args, []⟩ ∧
      wpD (model prog w) A.in1.in1 (Bi ⟨obj :: args, []⟩) (finD (model prog w) A.in1 (retD (fun r s₂ => r = .none ∧ Q obj s₂))) s₁) :
    wpD (model prog w) A (call (.type T) args) Q s := by
  obtain ⟨c, tl, hmro⟩ := ft.mro
  have hmade := ft.made
  have hsub := ft.sub
  refine wpD_call (codeD_of_tree rfl ?_)
  show wpD _ _ (callAny (.type T) _) _ _
  refine wpD_pure ⟨Code.quiet_builtin _ (by decide +kernel), codeD_builtin (isDec_id (by decide +kernel)) F.entry_type_call ?_⟩
  rw [Around.under_plain (weight_type_call_type T args []) rfl]
  have h1 := ft.notType
  have h2 := ft.canCreate
  unfold Builtin.«type.__call__»
  dsimp only
  simp only [h1, h2, hct, hmro, hmade, pure_bind, List.isEmpty_cons, Bool.false_eq_true, if_false]
  refine wpD_bind (wpD_holding (wpD_call (codeD_mono hnew fun fl s₁ hr => ?_)))
  cases fl with
  | ret obj =>
    obtain ⟨hT, hok, hsi⟩ := hnext _ _ hr
    refine wpD_bind (wpD_of (wpAny_isInstance hT hsub ?_))
    refine wpD_if_false rfl (wpD_bind (wpD_holding ?_))
    unfold callSpecial?
    refine wpD_bind (wpD_of (wpAny_specialOf hT ft.init.lookup ?_))
    dsimp only
    refine wpD_holding ?_
    rw [ft.init.bind]
    refine wpD_bind (wpD_pure (wpD_bind (wpD_call ?_)))
    refine codeD_call_builtin (isDec_id hdI) ft.init.plain entryI (wpD_of (ft.init.check _ _ _ _ _ _ _ _ hT hok ?_))
    refine wpD_mono hsi fun fin s₂ hf => ?_
    cases fin with
    | again c' =>
      refine ⟨hf.1, codeD_mono hf.2 fun fl s₃ h₃ => ?_⟩
      cases fl with
      | ret r => obtain ⟨rfl, hq⟩ := h₃; exact wpD_pure (wpD_if_false rfl (wpD_pure hq))
      | _ => exact h₃.elim
    | done fl =>
      cases fl with
      | ret r => obtain ⟨rfl, hq⟩ := hf; exact wpD_pure (wpD_if_false rfl (wpD_pure hq))
      | _ => exact hf.elim
  | _ => exact hr.elim

theorem wpD_exported {M : Model} {a : Addr} {Q : Bool → Shared → Prop} (hg : A.guards = some []) (h : Q false s) : wpD M A (Builtin.Bytes.exported (.ref a)) Q s := fun Γ p hΓ hcl => by
  have hgs : guardsOf ((Γ.code, p) :: Γ.below) = [] := by rw [guardsOf_cons]; exact hΓ.2.2.2.1 [] hg
  have hds : ∀ x ∈ ((Γ.code, p) :: Γ.below), isDec x.1 = false := fun x hx => by
    rcases List.mem_cons.mp hx with rfl | hx
    · exact hcl.1
    · exact hcl.2 x hx
  unfold Builtin.Bytes.exported
  show Q (List.any ((Γ.code, p) :: Γ.below) _) s
  rw [List.any_eq_false.mpr]
  · exact h
  intro x hx
  have h1 := hds x hx
  have h2 : x.1.isGuard = false := by
    cases hb : x.1.isGuard with
    | false => rfl
    | true =>
      have : x.1 ∈ guardsOf ((Γ.code, p) :: Γ.below) := List.mem_filter.mpr ⟨List.mem_map_of_mem hx, hb⟩
      rw [hgs] at this; cases this
  obtain ⟨c, q⟩ := x
  dsimp only at h1 h2 ⊢
  split
  case h_6 =>
    rename_i he
    have he' := congrArg Prod.fst he
    dsimp only at he'
    rw [he'] at h1
    unfold isDec at h1
    dsimp only at h1
    rw [h1]; simp
  case h_7 => simp
  all_goals
    rename_i he
    have he' := congrArg Prod.fst he
    dsimp only at he'
    subst he'
    exfalso
    revert h2
    unfold Code.isGuard
    dsimp only
    decide +kernel
end

set_option maxRecDepth 1000000 in
set_option maxHeartbeats 4000000 in
theorem owner_ba_new : ("bytearray.__new__".splitOn ".__new__").headD "" = "bytearray" := by simp +decide [String.splitOn, String.splitOnAux]

/-- a bytearray that nobody holds -/
def BA (h : Heap) (a : Addr) (bs : Array UInt8) : Prop := h.get? a = some { cls := .type "bytearray", data := .bytearray bs }

section
variable {prog : Program} {w : World} {A : Around} {s : Shared}

theorem codeAny_ba_new (a : Value) {E : Value → Shared → Prop} {Q₁ : Value → Shared → Prop}
    (h : Q₁ (.ref s.heap.objs.size) { s with heap := s.heap.push { cls := .type "bytearray", data := .bytearray #[] } }) :
    codeAny (model prog w) A (.call (.builtin "bytearray.__new__") ⟨[.type "bytearray", a], []⟩) (wants Q₁ E) s := by
  refine codeAny_of_tree ?_
  show wpAny _ A.in1 (do checkBuiltinCall "bytearray.__new__" ⟨[.type "bytearray", a], []⟩; again (.builtin "bytearray.__new__" ⟨[.type "bytearray", a], []⟩)) _ _ s
  refine wpAny_bind (wpAny_of_eq (newCall_ba a) (wpAny_pure ⟨plainId_quiet plain_ba_new _, codeAny_builtin_stack entry_ba_new rfl fun p st => ?_⟩))
  rw [Around.under_plainId plain_ba_new _]
  have hsub := sub_ba
  have hown := owner_ba_new
  obtain ⟨hp, g, d, tk, os⟩ := s
  simp only [hown]
  wp_walk
  exact h

theorem wpAny_writeBA {E : Value → Shared → Prop} {a : Addr} {bs : Array UInt8} {f : Array UInt8 → Array UInt8} {Q : Unit → Shared → Prop} (ho : BA s.heap a bs) (hz : (f bs).size ≤ sizeLine)
    (h : BA (s.heap.update a (Obj.mapBytearray f)) a (f bs) → Q () { s with heap := s.heap.update a (Obj.mapBytearray f) }) : wpAny (model prog w) A (Builtin.Bytes.write (.ref a) f) Q E s := by
  unfold Builtin.Bytes.write
  show wpAny _ _ (updateBytearray a f) _ _ _
  unfold updateBytearray
  have hS : (s.heap.update a (Obj.mapBytearray f)).get? a = some { cls := .type "bytearray", data := .bytearray (f bs) } := Heap.get?_update_self (Obj.mapBytearray f) ho rfl
  refine wpAny_bind (wpAny_load ho ?_)
  show wpAny _ _ (update a (Obj.mapBytearray f) >>= fun _ => lookBehind a) _ _ _
  refine wpAny_bind (wpAny_update ho ?_)
  refine wpAny_lookBehind hS ?_ (h hS)
  show (if (f bs).size > sizeLine then some "bytearray:memory" else none) = none
  rw [if_neg (Nat.not_lt.mpr hz)]

theorem wpAny_payloadBA {M : Model} {E : Value → Shared → Prop} {a : Addr} {bs : Array UInt8} {Q : Array UInt8 → Shared → Prop} (ho : BA s.heap a bs) (h : Q bs s) : wpAny M A (Builtin.Bytes.payload (.ref a)) Q E s := by
  unfold Builtin.Bytes.payload Builtin.Bytes.payload?
  refine wpAny_bind (wpAny_bind (wpAny_load ho ?_))
  exact wpAny_pure (wpAny_pure h)

theorem byteValue_int {i : Int} {t : Tok} (h0 : 0 ≤ i) (h1 : i < 256) : Builtin.Bytes.byteValue (.int i t) = pure i.toNat.toUInt8 := by
  unfold Builtin.Bytes.byteValue
  show (asIndex (.int i t) >>= _) = _
  have : (decide (i < 0) || decide (i ≥ 256)) = false := by simp; omega
  show (if (decide (i < 0) || decide (i ≥ 256)) = true then _ else _) = _
  rw [this]
  rfl

/-- the ints of an iterator are bytes -/
def BytesOf (P : Nat → Value → Prop) (n : Nat) (f : Nat → Int) : Prop := ∀ i v, i < n → P i v → (∃ t, v = .int (f i) t) ∧ 0 ≤ f i ∧ f i < 256

def byteRun (f : Nat → Int) (n : Nat) : Array UInt8 := ((List.range n).map fun i => (f i).toNat.toUInt8).toArray
theorem byteRun_size (f : Nat → Int) (n : Nat) : (byteRun f n).size = n := by simp [byteRun]
theorem byteRun_succ (f : Nat → Int) (n : Nat) : byteRun f (n + 1) = (byteRun f n).push (f n).toNat.toUInt8 := by
  unfold byteRun
  rw [List.range_succ]
  simp

theorem ba_loop {R : Flow → Shared → Prop} {I S : Addr} {fp wr : List Addr} {G : Array GenState → Array GenState → Prop} {n : Nat} {P : Nat → Value → Prop} {St : Nat → Shared → Prop} {f : Nat → Int}
    (W : WalksS prog w A.in1 I fp wr G n P St) (hf : BytesOf P n f) (hSf : S ∉ fp) (hn : n ≤ sizeLine) :
    ∀ (k i : Nat) (s : Shared), n - i = k → i ≤ n → St i s → BA s.heap S (byteRun f i) → (∀ s', Moved (S :: wr) G s s' → BA s'.heap S (byteRun f n) → R (.ret .none) s') →
      codeD (model prog w) A (.builtin "bytearray.__init__.loop" ⟨[.ref S, .ref I], []⟩) R s := by
  have hSw : S ∉ wr := fun h => hSf (W.sub _ h)
  have hsub : ∀ b ∈ wr, b ∈ S :: wr := fun b hb => List.mem_cons_of_mem _ hb
  intro k
  induction k with
  | zero =>
    intro i s hk hi hst hS hR
    have hin : i = n := by omega
    subst hin
    refine codeD_builtin (isDec_id (by decide +kernel)) entry_ba_loop ?_
    rw [Around.under_plainId plain_ba_loop _]
    show wpD _ A.in1 (pyNext (.ref I) >>= _) _ s
    refine wpD_bind (wpD_of (W.done s _ _ hst fun s' hm => ?_))
    exact wpD_pure (hR s' (hm.mono hsub) (hm.heap S _ hSw hS))
  | succ k ih =>
    intro i s hk hi hst hS hR
    have hlt : i < n := by omega
    refine codeD_builtin (isDec_id (by decide +kernel)) entry_ba_loop ?_
    rw [Around.under_plainId plain_ba_loop _]
    show wpD _ A.in1 (pyNext (.ref I) >>= _) _ s
    refine wpD_bind (wpD_of (W.item i s _ _ hlt hst fun v s' hP hst' hm => ?_))
    obtain ⟨⟨t, rfl⟩, h0, h1⟩ := hf i v hlt hP
    have hS' : BA s'.heap S (byteRun f i) := hm.heap S _ hSw hS
    refine wpD_bind (wpD_holding (wpD_of_eq (byteValue_int h0 h1) ?_))
    refine wpD_bind (wpD_of (wpAny_letGo ?_))
    refine wpD_bind (wpD_of (wpAny_writeBA hS' (by rw [Array.size_push, byteRun_size]; omega) fun hS₂ => ?_))
    refine wpD_pure ⟨plainId_quiet plain_ba_loop _, ih (i + 1) { s' with heap := s'.heap.update S (Obj.mapBytearray (·.push (f i).toNat.toUInt8)) } (by omega) hlt ?_ (by rw [byteRun_succ]; exact hS₂) fun s'' hm'' hS'' => hR s'' ?_ hS''⟩
    · exact W.frame (i + 1) s' _ s'.toks hst' (Nat.le_refl _) fun b hb o e => (Heap.get?_update_other _ _ (fun h : S = b => hSf (by rw [h]; exact hb))).trans e
    · exact Moved.trans W.gtrans ((hm.mono hsub).then_heap (Nat.le_refl _) fun b o hb e => (Heap.get?_update_other _ _ (fun h : S = b => hb (by rw [h]; exact List.mem_cons_self))).trans e) hm''

theorem wpAny_ownRelease {M : Model} {E : Value → Shared → Prop} {a : Addr} {Q : Bool → Shared → Prop} (hT : s.TypeIs (.ref a) "bytearray") (h : Q false s) : wpAny M A (Builtin.Bytes.ownRelease (.ref a)) Q E s := by
  unfold Builtin.Bytes.ownRelease Builtin.Bytes.slotIsOwn
  refine wpAny_bind (wpAny_bind (wpAny_specialOf hT ba_release ?_))
  dsimp only
  have e1 : ("bytearray.__release_buffer__".endsWith ("." ++ "__release_buffer__")) = true := by decide +kernel
  have e2 : ("bytearray.__release_buffer__".dropRight ("__release_buffer__".length + 1)) = "bytearray" := by decide +kernel
  refine wpAny_if_false (by rw [e1]; rfl) ?_
  rw [e2]
  exact wpAny_isInstance hT sub_ba (wpAny_pure h)

theorem wpAny_exportsOf {M : Model} {E : Value → Shared → Prop} {a : Addr} {bs : Array UInt8} {Q : Nat → Shared → Prop} (ho : BA s.heap a bs) (h : Q 0 s) : wpAny M A (Builtin.Bytes.exportsOf (.ref a)) Q E s := by
  unfold Builtin.Bytes.exportsOf
  exact wpAny_bind (wpAny_load ho (wpAny_pure h))

theorem wpAny_asStr_fields {M : Model} {E : Value → Shared → Prop} {a : Addr} {o : Obj} {vs : Array Value} {Q : Option Str → Shared → Prop} (ho : s.heap.get? a = some o) (hd : o.data = .fields vs) (h : Q none s) : wpAny M A (asStr? (.ref a)) Q E s := by
  unfold asStr?
  refine wpAny_bind (wpAny_load ho ?_)
  rw [hd]
  exact wpAny_pure h

theorem wpAny_noBuffer {M : Model} {E : Value → Shared → Prop} {v : Value} {T id : String} {full : Bool} {Q : Option (Array UInt8) → Shared → Prop} (hT : s.TypeIs v T) (hl : typeLookup (.type T) "__buffer__" = pure none) (h : Q none s) :
    wpAny M A (Builtin.Bytes.buffer? id v full) Q E s := by
  unfold Builtin.Bytes.buffer?
  refine wpAny_bind (wpAny_specialOf hT hl ?_)
  refine wpAny_bind (wpAny_specialOf hT hl ?_)
  exact wpAny_pure h

/-- what the constructor asks of the iterator's type -/
structure ItType (T : String) : Prop where
  index : typeLookup (.type T) "__index__" = pure none
  buffer : typeLookup (.type T) "__buffer__" = pure none
  nolist : (Value.type T == Value.type "list" || Value.type T == Value.type "tuple") = false

theorem wpD_ba_init {R : Flow → Shared → Prop} {T : String} {I S : Addr} {oI : Obj} {vsI : Array Value} {fp wr : List Addr} {G : Array GenState → Array GenState → Prop} {n : Nat} {P : Nat → Value → Prop} {St : Nat → Shared → Prop} {f : Nat → Int}
    (hg : A.guards = some []) (tT : ItType T) (hI : s.heap.get? I = some oI) (hIc : oI.cls = .type T) (hId : oI.data = .fields vsI)
    (W : WalksS prog w A.in1 I fp wr G n P St) (hst : St 0 s) (hf : BytesOf P n f) (hSf : S ∉ fp) (hIS : I ≠ S) (hn : n ≤ sizeLine) (hS : BA s.heap S #[])
    (hR : ∀ s', Moved (S :: wr) G s s' → BA s'.heap S (byteRun f n) → R (.ret .none) s') :
    wpD (model prog w) A.in1 (Builtin.«bytearray.__init__» ⟨[.ref S, .ref I], []⟩) (finD (model prog w) A R) s := by
  have hT : s.TypeIs (.ref I) T := ⟨oI, hI, hIc⟩
  have hTS : s.TypeIs (.ref S) "bytearray" := ⟨_, hS, rfl⟩
  unfold Builtin.«bytearray.__init__»
  refine wpD_bind (wpD_of (wpAny_ownRelease hTS ?_))
  refine wpD_if_false rfl ?_
  refine wpD_bind (wpD_of_eq (ba_bind _) ?_)
  refine wpD_bind (wpD_of_eq (a := ()) rfl ?_)
  refine wpD_bind (wpD_of_eq (a := ()) rfl ?_)
  refine wpD_bind (wpD_bind (wpD_exported hg ?_))
  refine wpD_bind (wpD_of (wpAny_exportsOf hS ?_))
  refine wpD_pure ?_
  refine wpD_if_false rfl ?_
  refine wpD_bind (wpD_of (wpAny_writeBA hS (by simp) fun hS₂ => ?_))
  have keep : ∀ b o, b ≠ S → s.heap.get? b = some o → (s.heap.update S (Obj.mapBytearray fun _ => #[])).get? b = some o := fun b o hb e => (Heap.get?_update_other _ _ (Ne.symm hb)).trans e
  have hI₂ := keep I _ hIS hI
  have hT₂ : ({ s with heap := s.heap.update S (Obj.mapBytearray fun _ => #[]) } : Shared).TypeIs (.ref I) T := ⟨oI, hI₂, hIc⟩
  refine wpD_bind (wpD_of (wpAny_asStr_fields hI₂ hId ?_))
  refine wpD_if_false rfl ?_
  refine wpD_bind (wpD_of_eq (a := ()) rfl ?_)
  refine wpD_bind (wpD_of (wpAny_specialOf hT₂ tT.index ?_))
  refine wpD_if_false rfl ?_
  refine wpD_bind (wpD_of (wpAny_noBuffer hT₂ tT.buffer ?_))
  refine wpD_bind (wpD_of (wpAny_typeOf hT₂ ?_))
  refine wpD_if_false tT.nolist ?_
  have hst₂ : St 0 { s with heap := s.heap.update S (Obj.mapBytearray fun _ => #[]) } := W.frame 0 s _ s.toks hst (Nat.le_refl _) fun b hb o e => keep b o (fun q => hSf (q ▸ hb)) e
  refine wpD_bind (wpD_tryCatch (wpD_of (W.self 0 _ _ _ hst₂ ?_)))
  refine wpD_pure ⟨plainId_quiet plain_ba_loop _, ba_loop W hf hSf hn n 0 _ rfl (Nat.zero_le _) hst₂ hS₂ fun s' hm hS' => hR s' ?_ hS'⟩
  exact Moved.trans W.gtrans ((Moved.refl W.grefl).then_heap (Nat.le_refl _) fun b o hb e => keep b o (fun h => hb (h ▸ List.mem_cons_self)) e) hm

theorem codeD_of_wants {M : Model} {c : Code} {Q : Value → Shared → Prop} (h : codeAny M A c (wants Q (fun _ _ => False)) s) : codeD M A c (retD Q) s :=
  codeD_of (codeAny_mono h fun r s' hr => by
    cases r with
    | ok fl => cases fl <;> exact hr
    | error e => exact hr)

/-- bytearray(it), it an iterator over bytes -/
theorem wpD_bytearray {T : String} {I : Addr} {oI : Obj} {vsI : Array Value} {fp wr : List Addr} {G : Array GenState → Array GenState → Prop} {n : Nat} {P : Nat → Value → Prop} {St : Nat → Shared → Prop} {f : Nat → Int} {Q : Value → Shared → Prop}
    (hg : A.guards = some []) (tT : ItType T) (hI : s.heap.get? I = some oI) (hIc : oI.cls = .type T) (hId : oI.data = .fields vsI)
    (W : WalksS prog w A.in1.in1 I fp wr G n P St) (hst : St 0 s) (hf : BytesOf P n f) (hfp : ∀ b ∈ fp, b < s.heap.objs.size) (hn : n ≤ sizeLine)
    (hQ : ∀ s', Moved (s.heap.objs.size :: wr) G { s with heap := s.heap.push { cls := .type "bytearray", data := .bytearray #[] } } s' → BA s'.heap s.heap.objs.size (byteRun f n) → Q (.ref s.heap.objs.size) s') :
    wpD (model prog w) A (call (.type "bytearray") [.ref I]) Q s := by
  have hSf : s.heap.objs.size ∉ fp := fun hm => Nat.lt_irrefl _ (hfp _ hm)
  refine wpD_callType (Q₁ := fun obj s₁ => obj = .ref s.heap.objs.size ∧ s₁ = { s with heap := s.heap.push { cls := .type "bytearray", data := .bytearray #[] } }) called_ba (typeCall_ba _) entry_ba_init (by decide +kernel)
    (codeD_of_wants (codeAny_ba_new _ ⟨rfl, rfl⟩)) fun obj s₁ h₁ => ?_
  obtain ⟨rfl, rfl⟩ := h₁
  have hS : BA (s.heap.push { cls := .type "bytearray", data := .bytearray #[] }) s.heap.objs.size #[] := Heap.get?_push_size _ rfl
  refine ⟨⟨_, hS, rfl⟩, args_ba_init _ _, ?_⟩
  refine wpD_ba_init (A := A.in1) (s := { s with heap := s.heap.push { cls := .type "bytearray", data := .bytearray #[] } }) hg tT (Heap.get?_push_of_some _ hI) hIc hId W
      (W.frame 0 s _ s.toks hst (Nat.le_refl _) fun b _ o e => Heap.get?_push_of_some _ e) hf hSf (Nat.ne_of_lt (Heap.lt_size hI)) hn hS fun s' hm hS' => ?_
  exact ⟨rfl, hQ s' hm hS'⟩
end
end Mine

/-! L2 -/
set_option maxRecDepth 100000
namespace Mine
open PySem PySem.W PyProof.Rows
open Sem (wp)

def IsBAIter (h : Heap) (I a : Addr) (i : Nat) : Prop := ∃ o, h.get? I = some o ∧ o.cls = .type "bytearray_iterator" ∧ o.data = .fields #[.ref a, .int i 0]
theorem IsBAIter.typeIs {s : Shared} {I a : Addr} {i : Nat} (x : IsBAIter s.heap I a i) : s.TypeIs (.ref I) "bytearray_iterator" := let ⟨o, ho, hc, _⟩ := x; ⟨o, ho, hc⟩
theorem IsBAIter.at {h h' : Heap} {I a : Addr} {i : Nat} (x : IsBAIter h I a i) (e : ∀ o, h.get? I = some o → h'.get? I = some o) : IsBAIter h' I a i := let ⟨o, ho, r⟩ := x; ⟨o, e _ ho, r⟩
theorem BA.at {h h' : Heap} {a : Addr} {bs : Array UInt8} (x : BA h a bs) (e : ∀ o, h.get? a = some o → h'.get? a = some o) : BA h' a bs := e _ x

section
variable {prog : Program} {w : World} {A : Around} {E : Value → Shared → Prop} {s : Shared}

theorem wpAny_pyIter_BA {a : Addr} {bs : Array UInt8} {Q : Value → Shared → Prop} (ha : BA s.heap a bs)
    (hQ : Q (.ref s.heap.objs.size) { s with heap := s.heap.push { cls := .type "bytearray_iterator", data := .fields #[.ref a, .int 0 0] } }) : wpAny (model prog w) A (pyIter (.ref a)) Q E s := by
  have hT : s.TypeIs (.ref a) "bytearray" := ⟨_, ha, rfl⟩
  refine wpAny_pyIter_slot hT slot_ba_iter (wpAny_call_entry slot_ba_iter hT entry_ba_iter ?_ (args_ba_iter _))
  show wpAny _ _ (do ret (← newFields "bytearray_iterator" [.ref a, rawInt 0])) _ _ s
  exact wpAny_bind (wpAny_newObj_type (wpAny_pure ⟨_, rfl, "bytearray_iterator", _, ⟨_, Heap.get?_push_size _ rfl, rfl⟩, slot_bai_next.lookup, hQ⟩))

theorem wpAny_pyIter_baiter {I a : Addr} {i : Nat} {Q : Value → Shared → Prop} (hit : IsBAIter s.heap I a i) (h : Q (.ref I) s) : wpAny (model prog w) A (pyIter (.ref I)) Q E s := by
  refine wpAny_pyIter_slot hit.typeIs slot_bai_iter (wpAny_call_entry slot_bai_iter hit.typeIs entry_bai_iter ?_ (args_bai_iter _))
  show wpAny _ _ (ret (.ref I)) _ _ s
  exact wpAny_pure ⟨_, rfl, "bytearray_iterator", _, hit.typeIs, slot_bai_next.lookup, h⟩

theorem wpAny_pyNext_BA_item {I a : Addr} {i : Nat} {bs : Array UInt8} {x : UInt8} {Q : Option Value → Shared → Prop} (hit : IsBAIter s.heap I a i) (ha : BA s.heap a bs) (hx : bs[i]? = some x)
    (hQ : ∀ h' tk, IsBAIter h' I a (i + 1) → Heap.SameBut I s.heap h' → Q (some (.int x.toNat s.toks)) { s with heap := h', toks := tk }) : wpAny (model prog w) A (pyNext (.ref I)) Q E s := by
  obtain ⟨o, ho, hc, hd⟩ := id hit
  unfold pyNext
  refine wpAny_bind (wpAny_attempt (wpAny_callSpecial?_slot (name := Str.ofString "__next__") hit.typeIs slot_bai_next
    (wpAny_call_entry slot_bai_next hit.typeIs entry_bai_next ?_ (args_bai_next _))))
  show wpAny _ _ (field (.ref I) 0 >>= _) _ _ s
  refine wpAny_bind (wpAny_field ho hd (x := .ref a) rfl ?_)
  show wpAny _ _ (load a >>= _) _ _ s
  refine wpAny_bind (wpAny_load ha ?_)
  show wpAny _ _ (field (.ref I) 1 >>= _) _ _ s
  refine wpAny_bind (wpAny_field ho hd (x := .int i 0) rfl ?_)
  simp only [Int.toNat_natCast, hx]
  refine wpAny_bind (wpAny_setField ho hd (by simp) ?_)
  refine wpAny_bind (wpAny_mkInt (wpAny_pure ⟨_, rfl, wpAny_pure (hQ _ _ ?_ (Heap.SameBut.update ..))⟩))
  exact ⟨_, Heap.get?_update_self _ ho (Obj.isFreed_of_fields (Obj.data_mapFields hd _)), (Obj.cls_mapFields ..).trans hc, by
    rw [Obj.data_mapFields hd]; simp [rawInt]⟩

theorem wpAny_pyNext_BA_end {I a : Addr} {i : Nat} {bs : Array UInt8} {Q : Option Value → Shared → Prop} (hh : A.handled = none) (hit : IsBAIter s.heap I a i) (ha : BA s.heap a bs) (hx : bs[i]? = none)
    (hQ : ∀ h', Heap.ExtBut I s.heap h' → Q none { s with heap := h' }) : wpAny (model prog w) A (pyNext (.ref I)) Q E s := by
  obtain ⟨o, ho, hc, hd⟩ := id hit
  unfold pyNext
  refine wpAny_bind (wpAny_attempt (wpAny_callSpecial?_slot (name := Str.ofString "__next__") hit.typeIs slot_bai_next
    (wpAny_call_entry slot_bai_next hit.typeIs entry_bai_next ?_ (args_bai_next _))))
  show wpAny _ _ (field (.ref I) 0 >>= _) _ _ s
  refine wpAny_bind (wpAny_field ho hd (x := .ref a) rfl ?_)
  show wpAny _ _ (load a >>= _) _ _ s
  refine wpAny_bind (wpAny_load ha ?_)
  show wpAny _ _ (field (.ref I) 1 >>= _) _ _ s
  refine wpAny_bind (wpAny_field ho hd (x := .int i 0) rfl ?_)
  simp only [Int.toNat_natCast, hx]
  refine wpAny_bind (wpAny_rule (wpAny_bind (wpAny_setField ho hd (by simp) ?_)))
  refine wpAny_bind (wpAny_letGo ?_)
  show wpAny _ _ (newExc (.type "StopIteration") [] >>= _) _ _ _
  refine wpAny_bind ?_
  simp only [newExc, newTuple]
  refine wpAny_bind (wpAny_newObj_type ?_ (by size_fits))
  refine wpAny_bind (m := firstArgMember _ _) (wpAny_of_eq (a := Value.none) (by first | rfl | (simp only [firstArgMember]; rfl)) ?_)
  refine wpAny_newObj_type ?_ (by size_fits)
  simp only [raiseNew]
  refine wpAny_bind (wpAny_handled ?_)
  rw [show A.in1.handled = none from hh]
  refine wpAny_bind (wpAny_pure (wpAny_throw ?_))
  refine wpAny_bind (wpAny_isInstance (T := "StopIteration") (b := true) ⟨_, Heap.get?_push_size _ rfl, rfl⟩ isSubtype_stop ?_)
  exact wpAny_pure (hQ _ (((Heap.SameBut.update ..).extBut.push _).push _))

theorem Walks_BA (hh : A.handled = none) (I a : Addr) (hne : a ≠ I) (bs : Array UInt8) :
    Walks prog w A I [I, a] [I] bs.size (fun i v => ∃ t, v = .int ((bs.getD i 0).toNat : Int) t) (fun i h => IsBAIter h I a i ∧ BA h a bs) where
  sub := fun b hb => by simp at hb; simp [hb]
  frame := fun _ _ _ st hk => ⟨st.1.at fun o e => hk I (by simp) o e, st.2.at fun o e => hk a (by simp) o e⟩
  item := fun i s Q E hi st hQ => by
    refine wpAny_pyNext_BA_item st.1 st.2 (x := bs[i]) (by simp [hi]) fun h' tk hit' hs' => ?_
    exact hQ _ h' tk ⟨s.toks, by simp [Array.getD, hi]⟩ ⟨hit', st.2.at fun o e => hs'.extBut a o hne e⟩ fun b o hb e => hs'.extBut b o (fun h => hb (by simp [h])) e
  done := fun s Q E st hQ => wpAny_pyNext_BA_end hh st.1 st.2 (by simp) fun h' he' => hQ h' s.toks fun b o hb e => he' b o (fun h => hb (by simp [h])) e
  self := fun _ _ _ _ st hQ => wpAny_pyIter_baiter st.1 hQ

theorem itType_list : ItType "list_iterator" := ⟨li_no_index, li_no_buffer, by decide⟩
theorem itType_ba : ItType "bytearray_iterator" := ⟨bai_no_index, bai_no_buffer, by decide⟩
theorem itType_gen : ItType "generator" := ⟨gen_no_index, gen_no_buffer, by decide⟩
end
end Mine

/-! L3 -/
set_option maxRecDepth 100000
namespace Mine
open PySem PySem.W PyProof.Rows
open Sem (wp)

theorem ba_len_lookup : typeLookup (.type "bytearray") "__len__" = pure (some (.builtin "bytearray.__len__")) := slot_ba_len.lookup
theorem split_ba_len : splitId "bytearray.__len__" = some ("bytearray", "__len__") := by decide +kernel
theorem split_li_hint : splitId "list_iterator.__length_hint__" = some ("list_iterator", "__length_hint__") := by decide +kernel

section
variable {prog : Program} {w : World} {A : Around} {E : Value → Shared → Prop} {s : Shared} {R : Result → Shared → Prop}

abbrev finAny (M : Model) (A : Around) (R : Result → Shared → Prop) : PySem.Fin → Shared → Prop :=
  fun fin s' => match fin with | .done f => R (.ok f) s' | .again c' => c'.quiet = true ∧ codeAny M A c' R s'

theorem hint_li {M : Model} {x : Addr} {Q : Bool → Shared → Prop} (hT : s.TypeIs (.ref x) "list_iterator") (h : Q false s) : wpAny M A (Builtin.List.listLengthHint (.ref x)) Q E s := by
  unfold Builtin.List.listLengthHint
  refine wpAny_bind (wpAny_specialOf hT li_no_len ?_)
  refine wpAny_if_false (by rfl) ?_
  refine wpAny_if_false (by rfl) ?_
  refine wpAny_bind (wpAny_specialOf hT li_hint ?_)
  dsimp only
  rw [split_li_hint]
  dsimp only
  refine wpAny_bind (wpAny_isInstance hT sub_li ?_)
  refine wpAny_if_false rfl ?_
  refine wpAny_if_true (by decide +kernel) ?_
  refine wpAny_if_false (by decide +kernel) ?_
  exact wpAny_pure h

theorem hint_ba {M : Model} {x : Addr} {Q : Bool → Shared → Prop} (hT : s.TypeIs (.ref x) "bytearray") (h : Q false s) : wpAny M A (Builtin.List.listLengthHint (.ref x)) Q E s := by
  unfold Builtin.List.listLengthHint
  refine wpAny_bind (wpAny_specialOf hT ba_len_lookup ?_)
  dsimp only
  rw [split_ba_len]
  dsimp only
  refine wpAny_bind (wpAny_isInstance hT sub_ba ?_)
  refine wpAny_if_false rfl ?_
  refine wpAny_if_true (by decide +kernel) ?_
  refine wpAny_bind (wpAny_typeOf hT ?_)
  exact wpAny_pure h

/-- list.__init__ over what is no list and no tuple, up to the loop -/
theorem list_init_via {x S : Addr} (hS : s.heap.get? S = some { cls := .type "list", data := .seq #[] })
    (h : ∀ s₁, (∃ n, s₁ = { s with heap := s.heap.update S (Obj.mapSeq fun _ => #[]) } ∧ s₁.heap.get? S = some { cls := .type "list", data := .seq #[] n }) →
      wpAny (model prog w) A.in1 (Builtin.List.listExtendWith (.ref S) (.ref x) .none) (finAny (model prog w) A R) (fun e s' => R (.error e) s') s₁) :
    wpAny (model prog w) A.in1 (Builtin.«list.__init__» ⟨[.ref S, .ref x], []⟩) (finAny (model prog w) A R) (fun e s' => R (.error e) s') s := by
  show wpAny _ A.in1 (do let old ← Builtin.List.listItems (.ref S); Builtin.List.listUpdate (.ref S) (fun _ => #[]); letGo old.toList.reverse; Builtin.List.listExtendWith (.ref S) (.ref x) .none) _ _ s
  refine wpAny_bind ?_
  unfold Builtin.List.listItems
  refine wpAny_bind (wpAny_seqItems hS rfl (wpAny_pure ?_))
  show wpAny _ A.in1 (updateSeq S (fun _ => #[]) >>= fun _ => letGo (#[] : Array Value).toList.reverse >>= fun _ => Builtin.List.listExtendWith (.ref S) (.ref x) .none) _ _ s
  refine wpAny_bind (wpAny_updateSeq hS rfl ?_)
  have hS₂ := Heap.get?_update_self (Obj.mapSeq (fun _ => (#[] : Array Value))) hS rfl
  refine wpAny_bind (wpAny_letGo ?_)
  exact h _ ⟨_, rfl, hS₂⟩

variable {I : Addr} {fp wr : List Addr} {G : Array GenState → Array GenState → Prop} {n : Nat} {P : Nat → Value → Prop} {St : Nat → Shared → Prop}

/-- list(it), it a list_iterator -/
theorem call_list_li {Q : Value → Shared → Prop} (W : WalksS prog w A.in1.in1 I fp wr G n P St) (hT : ∀ i s, St i s → s.TypeIs (.ref I) "list_iterator") (hst : St 0 s) (hfp : ∀ b ∈ fp, b < s.heap.objs.size) (hI : I ∈ fp)
    (hQ : ∀ s' acc' c', Moved (s.heap.objs.size :: wr) G { s with heap := s.heap.push { cls := .type "list", data := .seq #[] } } s' →
      s'.heap.get? s.heap.objs.size = some { cls := .type "list", dict := none, data := .seq acc' c', slots := #[] } → ItemsOf P acc' n → Q (.ref s.heap.objs.size) s') (hn : n ≤ sizeLine) :
    wpAny (model prog w) A (call (.type "list") [.ref I]) Q E s := by
  have hSf : s.heap.objs.size ∉ fp := fun hm => Nat.lt_irrefl _ (hfp _ hm)
  have hIS : I ≠ s.heap.objs.size := fun e => hSf (e ▸ hI)
  refine callType_codes (Q₁ := fun obj s₁ => obj = .ref s.heap.objs.size ∧ s₁ = { s with heap := s.heap.push { cls := .type "list", data := .seq #[] } }) F.called_list (F.typeCall_list_1 _) F.entry_list_init
    (code_list_new _ ⟨rfl, rfl⟩) fun obj s₁ h₁ => ?_
  obtain ⟨rfl, rfl⟩ := h₁
  have hS : (s.heap.push { cls := .type "list", data := .seq #[] }).get? s.heap.objs.size = some { cls := .type "list", data := .seq #[] } := Heap.get?_push_size _ rfl
  have st₁ : St 0 { s with heap := s.heap.push { cls := .type "list", data := .seq #[] } } := W.frame 0 s _ s.toks hst (Nat.le_refl _) fun b _ o e => Heap.get?_push_of_some _ e
  refine ⟨⟨_, hS, rfl⟩, F.args_list_init_2 _ _, list_init_via hS fun s₂ h₂ => ?_⟩
  obtain ⟨c, rfl, hS₂⟩ := h₂
  have oth : ∀ b o, b ≠ s.heap.objs.size → (s.heap.push { cls := .type "list", data := .seq #[] }).get? b = some o → ((s.heap.push { cls := .type "list", data := .seq #[] }).update s.heap.objs.size (Obj.mapSeq (fun _ => (#[] : Array Value)))).get? b = some o :=
    fun b o hb e => (Heap.get?_update_other _ _ (Ne.symm hb)).trans e
  have st₂ := W.frame 0 _ ((s.heap.push { cls := .type "list", data := .seq #[] }).update s.heap.objs.size (Obj.mapSeq (fun _ => (#[] : Array Value)))) s.toks st₁ (Nat.le_refl _) fun b hb o e => oth b o (fun h => hSf (h ▸ hb)) e
  unfold Builtin.List.listExtendWith
  refine wpAny_bind (wpAny_typeOf (hT 0 _ st₂) ?_)
  refine wpAny_if_false (by simp [Builtin.List.listSameRef, Ne.symm hIS]) ?_
  refine wpAny_bind (W.self 0 _ _ _ st₂ ?_)
  refine wpAny_bind (wpAny_holding (hint_li (hT 0 _ st₂) ?_))
  refine wpAny_if_false (by rfl) ?_
  refine wpAny_pure ⟨plainId_quiet F.plain_extend_loop _, codeAny_extend_loopS W hn _ hSf _ n 0 _ _ _ rfl (Nat.zero_le _) st₂ hS₂ (ItemsOf.nil P) fun s' acc' c' hm hS' hacc => ⟨rfl, hQ s' acc' c' ?_ hS' hacc⟩⟩
  exact Moved.trans W.gtrans ((Moved.refl W.grefl).then_heap (Nat.le_refl _) fun b o hb e => oth b o (fun h => hb (h ▸ List.mem_cons_self)) e) hm

/-- list(b), b a bytearray -/
theorem call_list_BA {a : Addr} {bs : Array UInt8} {Q : Value → Shared → Prop} (hh : A.handled = none) (ha : BA s.heap a bs)
    (hQ : ∀ h' tk acc', (∀ b o, s.heap.get? b = some o → h'.get? b = some o) → h'.PlainList s.heap.objs.size acc' → ItemsOf (fun i v => ∃ t, v = .int ((bs.getD i 0).toNat : Int) t) acc' bs.size → Q (.ref s.heap.objs.size) { s with heap := h', toks := tk }) (hn : bs.size ≤ sizeLine) :
    wpAny (model prog w) A (call (.type "list") [.ref a]) Q E s := by
  have haS : a ≠ s.heap.objs.size := Nat.ne_of_lt (Heap.lt_size ha)
  refine callType_codes (Q₁ := fun obj s₁ => obj = .ref s.heap.objs.size ∧ s₁ = { s with heap := s.heap.push { cls := .type "list", data := .seq #[] } }) F.called_list (F.typeCall_list_1 _) F.entry_list_init
    (code_list_new _ ⟨rfl, rfl⟩) fun obj s₁ h₁ => ?_
  obtain ⟨rfl, rfl⟩ := h₁
  have hS : (s.heap.push { cls := .type "list", data := .seq #[] }).get? s.heap.objs.size = some { cls := .type "list", data := .seq #[] } := Heap.get?_push_size _ rfl
  have ha₁ : BA (s.heap.push { cls := .type "list", data := .seq #[] }) a bs := Heap.get?_push_of_some _ ha
  refine ⟨⟨_, hS, rfl⟩, F.args_list_init_2 _ _, list_init_via hS fun s₂ h₂ => ?_⟩
  obtain ⟨c, rfl, hS₂⟩ := h₂
  have oth : ∀ b o, b ≠ s.heap.objs.size → (s.heap.push { cls := .type "list", data := .seq #[] }).get? b = some o → ((s.heap.push { cls := .type "list", data := .seq #[] }).update s.heap.objs.size (Obj.mapSeq (fun _ => (#[] : Array Value)))).get? b = some o :=
    fun b o hb e => (Heap.get?_update_other _ _ (Ne.symm hb)).trans e
  generalize hH : ((s.heap.push { cls := .type "list", data := .seq #[] }).update s.heap.objs.size (Obj.mapSeq (fun _ => (#[] : Array Value)))) = H at *
  have zH : H.objs.size = s.heap.objs.size + 1 := by rw [← hH, size_update, Heap.size_push]
  have ha₂ : BA H a bs := oth a _ haS ha₁
  unfold Builtin.List.listExtendWith
  refine wpAny_bind (wpAny_typeOf (T := "bytearray") ⟨_, ha₂, rfl⟩ ?_)
  refine wpAny_if_false (by simp [Builtin.List.listSameRef, Ne.symm haS]) ?_
  refine wpAny_bind (wpAny_pyIter_BA ha₂ ?_)
  have ha₃ : BA (H.push { cls := .type "bytearray_iterator", data := .fields #[.ref a, .int 0 0] }) a bs := Heap.get?_push_of_some _ ha₂
  refine wpAny_bind (wpAny_holding (hint_ba ⟨_, ha₃, rfl⟩ ?_))
  refine wpAny_if_false (by rfl) ?_
  have W := (Walks_BA (prog := prog) (w := w) (A := A.in1.in1) hh H.objs.size a (Nat.ne_of_lt (Heap.lt_size ha₂)) bs).toS
  have hSf : s.heap.objs.size ∉ [H.objs.size, a] := by
    simp only [List.mem_cons, List.not_mem_nil, or_false]
    rintro (e | e)
    · rw [zH] at e; exact absurd e (Nat.ne_of_lt (Nat.lt_succ_self _))
    · exact haS e.symm
  refine wpAny_pure ⟨plainId_quiet F.plain_extend_loop _, codeAny_extend_loopS W hn s.heap.objs.size hSf .none bs.size 0 { s with heap := H.push { cls := .type "bytearray_iterator", data := .fields #[.ref a, .int 0 0] } } #[] c rfl (Nat.zero_le _) ⟨⟨_, Heap.get?_push_size _ rfl, rfl, rfl⟩, ha₃⟩ (Heap.get?_push_of_some _ hS₂) (ItemsOf.nil _) fun s' acc' c' hm hS' hacc => ⟨rfl, ?_⟩⟩
  have : s' = { s with heap := s'.heap, toks := s'.toks } := by
    obtain ⟨a1, a2, a3, a4, a5⟩ := s'
    have g := hm.gens; have d := hm.drawn; have o := hm.os
    simp only at g d o ⊢
    subst g d o; rfl
  rw [this]
  refine hQ _ _ acc' (fun b o e => hm.heap b o ?_ (Heap.get?_push_of_some _ (oth b o (Nat.ne_of_lt (Heap.lt_size e)) (Heap.get?_push_of_some _ e)))) ⟨c', hS'⟩ hacc
  simp only [List.mem_cons, List.not_mem_nil, or_false]
  rintro (e' | e')
  · exact Nat.lt_irrefl _ (e' ▸ Heap.lt_size e)
  · have := Heap.lt_size e
    rw [e', zH] at this; exact absurd this (Nat.not_lt.mpr (Nat.le_succ _))
end
end Mine

/-! L4 -/
set_option maxRecDepth 100000
namespace Mine
open PySem PySem.W PyProof.Rows
open Sem (wp)

/-! every n-th place -/
theorem bounds_step (i n len : Nat) (hn : 1 ≤ n) : sliceBounds (some (i : Int)) none (some (n : Int)) len = (((min i len : Nat) : Int), (len : Int), (n : Int)) := by
  unfold sliceBounds
  have h1 : ((n : Int) > 0) := by omega
  have h2 : ¬ ((i : Int) < 0) := by omega
  simp only [Option.getD_some, h1, if_true, h2, if_false]
  refine Prod.ext ?_ rfl
  dsimp only
  omega

def stepPlaces (i n L : Nat) : List Nat := (List.range L).map fun k => i + n * k

theorem range_step (i n L : Nat) (hi : i < n) : sliceRange ((min i (L * n) : Nat) : Int) ((L * n : Nat) : Int) (n : Int) = stepPlaces i n L := by
  unfold sliceRange stepPlaces
  have h1 : ((n : Int) > 0) := by omega
  simp only [h1, if_true]
  cases L with
  | zero => simp
  | succ L =>
    have hle : n ≤ (L + 1) * n := Nat.le_mul_of_pos_left n (Nat.succ_pos L)
    have hm : min i ((L + 1) * n) = i := Nat.min_eq_left (by omega)
    rw [hm]
    have h2 : (i : Int) < (((L + 1) * n : Nat) : Int) := by omega
    simp only [h2, if_true]
    have hc : ((((L + 1) * n : Nat) : Int) - (i : Int) + (n : Int) - 1) / (n : Int) = ((L + 1 : Nat) : Int) := by
      have e : (((L + 1) * n : Nat) : Int) - (i : Int) + (n : Int) - 1 = ((n - 1 - i : Nat) : Int) + (n : Int) * ((L + 1 : Nat) : Int) := by
        have : (((L + 1) * n : Nat) : Int) = (n : Int) * ((L + 1 : Nat) : Int) := by rw [Int.natCast_mul, Int.mul_comm]
        omega
      rw [e, Int.add_mul_ediv_left _ _ (by omega)]
      have : ((n - 1 - i : Nat) : Int) / (n : Int) = 0 := Int.ediv_eq_zero_of_lt (by omega) (by omega)
      omega
    rw [hc]
    rw [Int.toNat_natCast]
    refine List.map_congr_left fun k _ => ?_
    have : (i : Int) + (n : Int) * (k : Int) = ((i + n * k : Nat) : Int) := by push_cast; rfl
    rw [this, Int.toNat_natCast]

theorem place_lt {i n L k : Nat} (hi : i < n) (hk : k < L) : i + n * k < L * n := by
  have : n * (k + 1) ≤ n * L := Nat.mul_le_mul_left n hk
  rw [Nat.mul_comm L n]
  rw [Nat.mul_add] at this
  omega

theorem pick_step {α : Type} (xs : Array α) (d : α) (i n L : Nat) (hi : i < n) (hz : xs.size = L * n) :
    (stepPlaces i n L).filterMap (xs[·]?) = (List.range L).map fun k => xs.getD (i + n * k) d := by
  unfold stepPlaces
  rw [List.filterMap_map]
  have : ∀ l : List Nat, (∀ k ∈ l, k < L) → l.filterMap ((fun x => xs[x]?) ∘ fun k => i + n * k) = l.map fun k => xs.getD (i + n * k) d := by
    intro l
    induction l with
    | nil => intro _; rfl
    | cons k r ih =>
      intro h
      have hk := place_lt (n := n) hi (h k List.mem_cons_self)
      have hk' : i + n * k < xs.size := by rw [hz]; exact hk
      rw [List.filterMap_cons, List.map_cons]
      have e : ((fun x => xs[x]?) ∘ fun k => i + n * k) k = some (xs.getD (i + n * k) d) := by
        show xs[i + n * k]? = _
        simp [Array.getD, hk']
      rw [e]
      dsimp only
      rw [ih fun j hj => h j (List.mem_cons_of_mem _ hj)]
  exact this _ fun k hk => List.mem_range.mp hk

/-- the items of one channel written over -/
theorem put_step {α : Type} (d : α) (i n : Nat) (hi : i < n) : ∀ (L : Nat) (xs : Array α) (ys : List α), ys.length = L → L * n ≤ xs.size →
    (((stepPlaces i n L).zip ys).foldl (fun b p => b.setIfInBounds p.1 p.2) xs).size = xs.size ∧
    ∀ j, (((stepPlaces i n L).zip ys).foldl (fun b p => b.setIfInBounds p.1 p.2) xs).getD j d = if j % n = i ∧ j / n < L then ys.getD (j / n) d else xs.getD j d := by
  intro L
  induction L with
  | zero => intro xs ys _ _; simp [stepPlaces]
  | succ L ih =>
    intro xs ys hy hz
    have hz' : L * n ≤ xs.size := Nat.le_trans (Nat.mul_le_mul_right n (Nat.le_succ L)) hz
    have hlast : i + n * L < xs.size := Nat.lt_of_lt_of_le (place_lt (L := L + 1) hi (Nat.lt_succ_self L)) hz
    obtain ⟨y, hyl⟩ : ∃ y, ys[L]? = some y := ⟨ys[L]'(by omega), List.getElem?_eq_getElem (by omega)⟩
    have e1 : ys = ys.take L ++ [y] := by
      have := List.take_add_one (l := ys) (i := L)
      rw [hyl] at this
      have h2 : ys.take (L + 1) = ys := List.take_of_length_le (by omega)
      rw [h2] at this; exact this
    have e2 : stepPlaces i n (L + 1) = stepPlaces i n L ++ [i + n * L] := by unfold stepPlaces; rw [List.range_succ, List.map_append]; rfl
    have e3 : (stepPlaces i n (L + 1)).zip ys = (stepPlaces i n L).zip (ys.take L) ++ [(i + n * L, y)] := by
      rw [e2]
      conv => lhs; rw [e1]
      rw [List.zip_append (by simp [stepPlaces]; omega)]
      rfl
    rw [e3, List.foldl_append]
    obtain ⟨s1, g1⟩ := ih xs (ys.take L) (by rw [List.length_take]; omega) hz'
    simp only [List.foldl_cons, List.foldl_nil]
    refine ⟨by rw [Array.size_setIfInBounds, s1], fun j => ?_⟩
    generalize hB : ((stepPlaces i n L).zip (ys.take L)).foldl (fun b p => b.setIfInBounds p.1 p.2) xs = B at s1 g1
    by_cases hj : j = i + n * L
    · subst hj
      have hm : (i + n * L) % n = i := by rw [Nat.add_mul_mod_self_left, Nat.mod_eq_of_lt hi]
      have hd : (i + n * L) / n = L := by rw [Nat.add_mul_div_left _ _ (by omega), Nat.div_eq_of_lt hi]; omega
      rw [if_pos ⟨hm, by rw [hd]; exact Nat.lt_succ_self L⟩, hd]
      simp [Array.getD, s1, hlast, List.getD, hyl]
    · have e4 : (B.setIfInBounds (i + n * L) y).getD j d = B.getD j d := by
        simp only [Array.getD_eq_getD_getElem?]
        rw [Array.getElem?_setIfInBounds_ne (Ne.symm hj)]
      rw [e4, g1 j]
      by_cases hc : j % n = i ∧ j / n < L
      · rw [if_pos hc, if_pos ⟨hc.1, Nat.lt_succ_of_lt hc.2⟩]
        simp only [List.getD]
        rw [List.getElem?_take, if_pos hc.2]
      · have hc' : ¬ (j % n = i ∧ j / n < L + 1) := by
          rintro ⟨a, b⟩
          have : j / n = L := by
            rcases Nat.lt_or_ge (j / n) L with h | h
            · exact absurd ⟨a, h⟩ hc
            · omega
          exact hj (by rw [← Nat.mod_add_div j n, a, this])
        rw [if_neg hc, if_neg hc']
end Mine

/-! L5 -/
set_option maxRecDepth 100000
namespace Mine
open PySem PySem.W PyProof.Rows
open Sem (wp)

theorem intsAre_at : ∀ {vs : List Value} {xs : List Int}, IntsAre vs xs → vs.length = xs.length ∧ ∀ j, j < xs.length → ∃ t, vs.getD j .none = .int (xs.getD j 0) t
  | _, _, .nil => ⟨rfl, fun j hj => absurd hj (Nat.not_lt_zero _)⟩
  | _, _, .cons n t r => by
    obtain ⟨h1, h2⟩ := intsAre_at r
    refine ⟨by simp [h1], fun j hj => ?_⟩
    cases j with
    | zero => exact ⟨t, rfl⟩
    | succ j => exact h2 j (by simpa using hj)
theorem intsAre_of : ∀ {vs : List Value} {xs : List Int}, vs.length = xs.length → (∀ j, j < xs.length → ∃ t, vs.getD j .none = .int (xs.getD j 0) t) → IntsAre vs xs
  | [], [], _, _ => .nil
  | [], _ :: _, h, _ => by simp at h
  | _ :: _, [], h, _ => by simp at h
  | v :: vs, x :: xs, h, g => by
    obtain ⟨t, e⟩ := g 0 (by simp)
    have e' : v = .int x t := e
    subst e'
    exact .cons x t (intsAre_of (by simpa using h) fun j hj => g (j + 1) (by simpa using hj))

/-- the two kinds of rows: bytearrays and lists -/
inductive Kd | B | H
def bytesInts (bs : Array UInt8) : List Int := bs.toList.map fun b => (b.toNat : Int)
theorem bytesInts_length (bs : Array UInt8) : (bytesInts bs).length = bs.size := by simp [bytesInts]
theorem bytesInts_getD (bs : Array UInt8) (j : Nat) : (bytesInts bs).getD j 0 = ((bs.getD j 0).toNat : Int) := by
  unfold bytesInts
  simp only [List.getD, List.getElem?_map, Array.getElem?_toList, Array.getD_eq_getD_getElem?]
  cases bs[j]? <;> rfl

def RowAt : Kd → Heap → Addr → List Int → Prop
  | .B, h, a, xs => ∃ bs, BA h a bs ∧ bytesInts bs = xs
  | .H, h, a, xs => ∃ vs : List Value, h.PlainList a vs.toArray ∧ IntsAre vs xs
def Kd.type : Kd → String
  | .B => "bytearray"
  | .H => "list"

theorem RowAt.obj {k : Kd} {h : Heap} {a : Addr} {xs : List Int} (r : RowAt k h a xs) : ∃ o, h.get? a = some o ∧ Dk o ∧ o.cls = .type k.type := by
  cases k with
  | B => obtain ⟨bs, e, _⟩ := r; exact ⟨_, e, trivial, rfl⟩
  | H => obtain ⟨vs, ⟨n, e⟩, _⟩ := r; exact ⟨_, e, trivial, rfl⟩
theorem RowAt.lt {k : Kd} {h : Heap} {a : Addr} {xs : List Int} (r : RowAt k h a xs) : a < h.objs.size := let ⟨_, e, _⟩ := r.obj; Heap.lt_size e
theorem RowAt.at {k : Kd} {h h' : Heap} {a : Addr} {xs : List Int} (r : RowAt k h a xs) (hk : ∀ o, h.get? a = some o → Dk o → h'.get? a = some o) : RowAt k h' a xs := by
  cases k with
  | B => obtain ⟨bs, e, hb⟩ := r; exact ⟨bs, hk _ e trivial, hb⟩
  | H => obtain ⟨vs, ⟨n, e⟩, hi⟩ := r; exact ⟨vs, ⟨n, hk _ e trivial⟩, hi⟩
theorem RowAt.typeIs {k : Kd} {s : Shared} {a : Addr} {xs : List Int} (r : RowAt k s.heap a xs) : s.TypeIs (.ref a) k.type := let ⟨o, e, _, c⟩ := r.obj; ⟨o, e, c⟩

/-- one channel of a row -/
def pickL (xs : List Int) (i n L : Nat) : List Int := (List.range L).map fun k => xs.getD (i + n * k) 0
theorem pickL_length (xs : List Int) (i n L : Nat) : (pickL xs i n L).length = L := by simp [pickL]
theorem pickL_getD (xs : List Int) (i n L k : Nat) (hk : k < L) : (pickL xs i n L).getD k 0 = xs.getD (i + n * k) 0 := by
  unfold pickL
  simp [List.getD, hk]
/-- one channel of a row written over -/
def putL (xs ys : List Int) (i n L : Nat) : List Int := (List.range xs.length).map fun j => if j % n = i ∧ j / n < L then ys.getD (j / n) 0 else xs.getD j 0
theorem putL_length (xs ys : List Int) (i n L : Nat) : (putL xs ys i n L).length = xs.length := by simp [putL]
theorem putL_getD (xs ys : List Int) (i n L j : Nat) (hj : j < xs.length) : (putL xs ys i n L).getD j 0 = if j % n = i ∧ j / n < L then ys.getD (j / n) 0 else xs.getD j 0 := by
  unfold putL
  simp [List.getD, hj]

theorem list_ext_getD {xs ys : List Int} (hl : xs.length = ys.length) (h : ∀ j, j < xs.length → xs.getD j 0 = ys.getD j 0) : xs = ys := by
  refine List.ext_getElem hl fun j h1 h2 => ?_
  have := h j h1
  simpa [List.getD, h1, h2] using this

theorem toNat_u8 {b : UInt8} : ((b.toNat : Int).toNat.toUInt8) = b := by simp

section
variable {prog : Program} {w : World} {A : Around} {E : Value → Shared → Prop} {s : Shared}

theorem wpAny_sliceParts {M : Model} {sl : Addr} {i n : Int} {ti tn : Tok} {Q : Value × Value × Value → Shared → Prop} (hs : s.heap.IsSliceOf sl (.int i ti) .none (.int n tn)) (h0 : n ≠ 0)
    (h : Q (rawInt i, .none, rawInt n) s) : wpAny M A (Builtin.Bytes.sliceParts (.ref sl)) Q E s := by
  obtain ⟨os, hos, hcs, hds⟩ := id hs
  unfold Builtin.Bytes.sliceParts
  refine wpAny_bind (wpAny_field hos hds (x := .int n tn) rfl ?_)
  refine wpAny_bind (wpAny_if_false rfl (wpAny_bind (wpAny_specialOf (T := "int") (typeIs_int s n tn) int_index ?_)))
  refine wpAny_if_false rfl (wpAny_bind (wpAny_of_eq (a := n) rfl (wpAny_pure ?_)))
  have hn : (rawInt n == rawInt 0) = false := by
    simp only [beq_eq_false_iff_ne, ne_eq, rawInt, Value.int.injEq, and_true]; exact h0
  refine wpAny_if_false hn ?_
  refine wpAny_bind (wpAny_field hos hds (x := .int i ti) rfl ?_)
  refine wpAny_bind (wpAny_if_false rfl (wpAny_bind (wpAny_specialOf (T := "int") (typeIs_int s i ti) int_index ?_)))
  refine wpAny_if_false rfl (wpAny_bind (wpAny_of_eq (a := i) rfl (wpAny_pure ?_)))
  refine wpAny_bind (wpAny_field hos hds (x := .none) rfl ?_)
  exact wpAny_bind (wpAny_if_true rfl (wpAny_pure (wpAny_pure h)))

theorem wpAny_noSubscriptBA {M : Model} {sl : Addr} {Q : Option Int → Shared → Prop} (hT : s.TypeIs (.ref sl) "slice") (h : Q none s) : wpAny M A (Builtin.Bytes.subscript? (.ref sl)) Q E s := by
  unfold Builtin.Bytes.subscript?
  refine wpAny_bind (wpAny_specialOf hT slice_no_index ?_)
  exact wpAny_if_true rfl (wpAny_pure h)

theorem wpAny_getItem_BA_step {a sl : Addr} {bs : Array UInt8} {i n L : Nat} {ti tn : Tok} {Q : Value → Shared → Prop} (ha : BA s.heap a bs)
    (hs : s.heap.IsSliceOf sl (.int i ti) .none (.int n tn)) (hi : i < n) (hz : bs.size = L * n) (hle : bs.size ≤ sizeLine)
    (h : Q (.ref s.heap.objs.size) { s with heap := s.heap.push { cls := .type "bytearray", data := .bytearray ((List.range L).map fun k => bs.getD (i + n * k) 0).toArray } }) :
    wpAny (model prog w) A (getItem (.ref a) (.ref sl)) Q E s := by
  have hT : s.TypeIs (.ref a) "bytearray" := ⟨_, ha, rfl⟩
  obtain ⟨os, hos, hcs, hds⟩ := id hs
  have hTs : s.TypeIs (.ref sl) "slice" := ⟨os, hos, hcs⟩
  unfold getItem
  try with_reducible refine wpAny_holding ?_
  first | refine wpAny_bind (wpAny_pure ?_) | skip
  refine wpAny_bind (wpAny_sequenceKey hT (by decide) ?_)
  refine wpAny_bind (wpAny_callSpecial?_slot (name := Str.ofString "__getitem__") hT slot_ba_getitem
    (wpAny_call_entry slot_ba_getitem hT entry_ba_getitem ?_ (args_ba_getitem _ _)))
  show wpAny _ _ (Builtin.Bytes.subscript? (.ref sl) >>= _) _ _ s
  refine wpAny_bind (wpAny_noSubscriptBA hTs ?_)
  show wpAny _ _ (typeOf (.ref sl) >>= _) _ _ s
  refine wpAny_bind (wpAny_typeOf hTs ?_)
  refine wpAny_if_false (by decide) ?_
  refine wpAny_bind (wpAny_sliceParts hs (by omega) ?_)
  refine wpAny_bind (wpAny_payloadBA ha ?_)
  refine wpAny_bind (wpAny_of_eq ((sliceIndices_raw (some (i : Int)) none (some (n : Int)) bs.size (by simp; omega)).trans (congrArg pure (bounds_step i n bs.size (by omega)))) ?_)
  unfold Builtin.Bytes.newBytearray
  have e : Builtin.Bytes.sliced bs ((min i bs.size : Nat) : Int) (bs.size : Int) (n : Int) = ((List.range L).map fun k => bs.getD (i + n * k) 0).toArray := by
    unfold Builtin.Bytes.sliced
    rw [hz, range_step i n L hi, pick_step bs 0 i n L hi hz]
  dsimp only
  rw [e]
  refine wpAny_bind (wpAny_newObj_type (wpAny_pure ⟨_, rfl, wpAny_pure h⟩) ?_)
  show ((List.range L).map fun k => bs.getD (i + n * k) 0).toArray.size ≤ sizeLine
  rw [List.size_toArray, List.length_map, List.length_range]
  have : L ≤ L * n := Nat.le_mul_of_pos_right L (by omega)
  omega

/-- row[i::n] of a row of either kind -/
theorem getItem_row {k : Kd} {a sl : Addr} {xs : List Int} {i n L : Nat} {ti tn : Tok} {Q : Value → Shared → Prop} (r : RowAt k s.heap a xs)
    (hs : s.heap.IsSliceOf sl (.int i ti) .none (.int n tn)) (hi : i < n) (hz : xs.length = L * n) (hle : xs.length ≤ sizeLine)
    (h : ∀ h', (∀ b o, s.heap.get? b = some o → h'.get? b = some o) → h'.objs.size = s.heap.objs.size + 1 → RowAt k h' s.heap.objs.size (pickL xs i n L) → Q (.ref s.heap.objs.size) { s with heap := h' }) :
    wpAny (model prog w) A (getItem (.ref a) (.ref sl)) Q E s := by
  cases k with
  | B =>
    obtain ⟨bs, ha, rfl⟩ := r
    rw [bytesInts_length] at hz hle
    refine wpAny_getItem_BA_step ha hs hi hz hle (h _ (fun b o e => Heap.get?_push_of_some _ e) (Heap.size_push ..) ⟨_, Heap.get?_push_size _ rfl, ?_⟩)
    unfold bytesInts pickL
    rw [List.map_map]
    refine List.map_congr_left fun j _ => ?_
    exact (bytesInts_getD bs (i + n * j)).symm
  | H =>
    obtain ⟨vs, hl, hv⟩ := r
    obtain ⟨l1, l2⟩ := intsAre_at hv
    have hsz : vs.toArray.size = L * n := by rw [List.size_toArray, l1, hz]
    refine wpAny_getItem_list_slice (lo := some (i : Int)) (hi := none) (st := some (n : Int)) hl.isList hs (.int _ _) .none (.int _ _) (by simp; omega) ?_ (by rw [List.size_toArray, l1]; exact hle)
    refine h _ (fun b o e => Heap.get?_push_of_some _ e) (Heap.size_push ..) ?_
    have e : slicePick vs.toArray (some (i : Int)) none (some (n : Int)) = ((List.range L).map fun k => vs.toArray.getD (i + n * k) .none).toArray := by
      unfold slicePick
      rw [bounds_step i n _ (by omega)]
      dsimp only
      rw [hsz, range_step i n L hi, pick_step vs.toArray .none i n L hi hsz]
    rw [e]
    refine ⟨_, ⟨0, Heap.get?_push_size _ rfl⟩, intsAre_of (by simp [pickL]) fun j hj => ?_⟩
    rw [pickL_length] at hj
    rw [pickL_getD _ _ _ _ _ hj]
    obtain ⟨t, ht⟩ := l2 (i + n * j) (by rw [hz]; exact place_lt hi hj)
    refine ⟨t, ?_⟩
    rw [← ht]
    simp [List.getD, hj, Array.getD_eq_getD_getElem?]
end
end Mine

/-! L6 -/
set_option maxRecDepth 100000
namespace Mine
open PySem PySem.W PyProof.Rows
open Sem (wp)

section
variable {prog : Program} {w : World} {A : Around} {E : Value → Shared → Prop} {s : Shared}

theorem plain_update {h : Heap} {a : Addr} {vs : Array Value} {n : Nat} {f : Array Value → Array Value} (ho : h.get? a = some { cls := .type "list", data := .seq vs n }) :
    ∃ n', (h.update a (Obj.mapSeq f)).get? a = some { cls := .type "list", data := .seq (f vs) n' } := by
  have e : ∃ n', Obj.mapSeq f { cls := .type "list", data := .seq vs n } = { cls := .type "list", data := .seq (f vs) n' } := ⟨_, rfl⟩
  obtain ⟨n', e⟩ := e
  exact ⟨n', e ▸ Heap.get?_update_self _ ho (by rw [e]; rfl)⟩

theorem wpAny_listItems {M : Model} {a : Addr} {vs : Array Value} {n : Nat} {Q : Array Value → Shared → Prop} (ho : s.heap.get? a = some { cls := .type "list", data := .seq vs n }) (h : Q vs s) : wpAny M A (Builtin.List.listItems (.ref a)) Q E s := by
  unfold Builtin.List.listItems
  exact wpAny_bind (wpAny_seqItems ho rfl (wpAny_pure h))

theorem wpAny_listSliceParts {M : Model} {sl : Addr} {i n : Int} {ti tn : Tok} {Q : Value × Value × Value → Shared → Prop} (hs : s.heap.IsSliceOf sl (.int i ti) .none (.int n tn)) (h0 : n ≠ 0)
    (h : Q (rawInt i, .none, rawInt n) s) : wpAny M A (Builtin.List.listSliceParts (.ref sl)) Q E s := by
  obtain ⟨os, hos, hcs, hds⟩ := id hs
  rw [listSliceParts_eq]
  have hn : ¬ ((rawPart (some n) == rawInt 0) = true) := by
    simp only [rawPart, rawInt, beq_iff_eq, Value.int.injEq, and_true]; exact h0
  refine wpAny_bind (wpAny_field hos hds (x := .int n tn) rfl (wpAny_bind (wpAny_listPart (.int n tn) ?_)))
  rw [if_neg hn]
  refine wpAny_bind (wpAny_field hos hds (x := .int i ti) rfl (wpAny_bind (wpAny_listPart (.int i ti) ?_)))
  exact wpAny_bind (wpAny_field hos hds (x := .none) rfl (wpAny_bind (wpAny_listPart .none (wpAny_pure h))))

theorem putL_one (xs ys : List Int) (L : Nat) (hx : xs.length = L) (hy : ys.length = L) : putL xs ys 0 1 L = ys := by
  refine list_ext_getD (by rw [putL_length, hx, hy]) fun j hj => ?_
  rw [putL_length] at hj
  rw [putL_getD _ _ _ _ _ _ hj, if_pos ⟨Nat.mod_one j, by rw [Nat.div_one]; omega⟩, Nat.div_one]

/-- row[i::n] = channel, both of one kind -/
theorem setItem_row {k : Kd} {a c sl : Addr} {xs ys : List Int} {i n L : Nat} {ti tn : Tok} {Q : Unit → Shared → Prop} (r : RowAt k s.heap a xs) (rc : RowAt k s.heap c ys) (hac : a ≠ c)
    (hs : s.heap.IsSliceOf sl (.int i ti) .none (.int n tn)) (hi : i < n) (hL : 1 ≤ L) (hz : xs.length = L * n) (hy : ys.length = L) (hle : xs.length ≤ 1000)
    (h : ∀ h', Heap.SameBut a s.heap h' → RowAt k h' a (putL xs ys i n L) → Q () { s with heap := h' }) :
    wpAny (model prog w) A (setItem (.ref a) (.ref sl) (.ref c)) Q E s := by
  have hsl : (2000 : Nat) ≤ sizeLine := by rw [sizeLine_eq]; omega
  have hLn : L ≤ L * n := Nat.le_mul_of_pos_right L (by omega)
  obtain ⟨os, hos, hcs, hds⟩ := id hs
  have hTs : s.TypeIs (.ref sl) "slice" := ⟨os, hos, hcs⟩
  have hn0 : ((n : Int)) ≠ 0 := by omega
  have hT : s.TypeIs (.ref a) k.type := r.typeIs
  have hTc : s.TypeIs (.ref c) k.type := rc.typeIs
  unfold setItem
  try with_reducible refine wpAny_holding ?_
  cases k with
  | B =>
    obtain ⟨bs, ha, rfl⟩ := r
    obtain ⟨cs, hc, rfl⟩ := rc
    rw [bytesInts_length] at hz hle hy
    refine wpAny_bind (wpAny_sequenceKey hT (by decide) ?_)
    refine wpAny_bind (wpAny_callSpecial?_slot (name := Str.ofString "__setitem__") hT slot_ba_setitem
      (wpAny_call_entry slot_ba_setitem hT entry_ba_setitem ?_ (args_ba_setitem _ _ _)))
    unfold Builtin.«bytearray.__setitem__»
    refine wpAny_if_false rfl ?_
    refine wpAny_bind (wpAny_noSubscriptBA hTs ?_)
    refine wpAny_bind (wpAny_typeOf hTs ?_)
    refine wpAny_if_false (by decide) ?_
    refine wpAny_bind (wpAny_sliceParts hs hn0 ?_)
    have hne : Builtin.Bytes.sameRef (.ref a) (.ref c) = false := by simp [Builtin.Bytes.sameRef, hac]
    refine wpAny_if_false hne ?_
    refine wpAny_bind (wpAny_isInstance hTc sub_ba ?_)
    refine wpAny_if_false rfl ?_
    refine wpAny_bind (wpAny_payloadBA hc ?_)
    refine wpAny_bind (wpAny_payloadBA ha ?_)
    refine wpAny_bind (wpAny_of_eq ((sliceIndices_raw (some (i : Int)) none (some (n : Int)) bs.size (by simp; omega)).trans (congrArg pure (bounds_step i n bs.size (by omega)))) ?_)
    dsimp only
    by_cases hn1 : n = 1
    · subst hn1
      have hi0 : i = 0 := by omega
      subst hi0
      have hbs : bs.size = L := by rw [hz, Nat.mul_one]
      refine wpAny_if_true (by decide) ?_
      refine wpAny_bind (wpAny_rule ?_)
      refine wpAny_if_false ?_ ?_
      · simp only [Nat.zero_min, bne_eq_false_iff_eq, hbs, hy]; omega
      have eW : bs.extract 0 ((min 0 bs.size : Nat) : Int).toNat ++ cs ++ bs.extract (max ((min 0 bs.size : Nat) : Int) (bs.size : Int)).toNat = cs := by
        have e1 : ((min 0 bs.size : Nat) : Int).toNat = 0 := by omega
        have e2 : (max ((min 0 bs.size : Nat) : Int) (bs.size : Int)).toNat = bs.size := by omega
        rw [e1, e2]; simp
      refine wpAny_bind (wpAny_writeBA ha (by rw [eW, hy]; omega) fun ha' => ?_)
      rw [eW] at ha'
      refine wpAny_pure ⟨_, rfl, wpAny_pure (h _ (Heap.SameBut.update ..) ⟨cs, ha', ?_⟩)⟩
      exact (putL_one _ _ L (by rw [bytesInts_length, hbs]) (by rw [bytesInts_length, hy])).symm
    · refine wpAny_if_false (by simp; omega) ?_
      refine wpAny_if_false (by
        cases hb : cs.isEmpty with
        | false => rfl
        | true =>
          have h0 : cs.size = 0 := by rw [Array.isEmpty_iff.mp hb]; rfl
          omega) ?_
      have hr : sliceRange ((min i bs.size : Nat) : Int) (bs.size : Int) (n : Int) = stepPlaces i n L := by rw [hz]; exact range_step i n L hi
      rw [hr]
      refine wpAny_if_false (by simp [stepPlaces, hy]) ?_
      refine wpAny_bind (wpAny_rule ?_)
      obtain ⟨z1, z2⟩ := put_step (0 : UInt8) i n hi L bs cs.toList (by simpa using hy) (by omega)
      refine wpAny_bind (wpAny_writeBA (f := fun b => ((stepPlaces i n L).zip cs.toList).foldl (fun b p => b.setIfInBounds p.1 p.2) b) ha (by rw [z1]; omega) fun ha' => ?_)
      refine wpAny_pure ⟨_, rfl, wpAny_pure (h _ (Heap.SameBut.update ..) ⟨_, ha', ?_⟩)⟩
      refine list_ext_getD (by rw [bytesInts_length, z1, putL_length, bytesInts_length]) fun j hj => ?_
      rw [bytesInts_length, z1] at hj
      rw [bytesInts_getD, z2 j, putL_getD _ _ _ _ _ _ (by rw [bytesInts_length]; exact hj)]
      by_cases hcc : j % n = i ∧ j / n < L
      · rw [if_pos hcc, if_pos hcc, bytesInts_getD]
        simp [List.getD, Array.getD_eq_getD_getElem?]
      · rw [if_neg hcc, if_neg hcc, bytesInts_getD]
  | H =>
    obtain ⟨vs, ⟨ea, hl⟩, hv⟩ := r
    obtain ⟨ws, ⟨ec, hlc⟩, hw⟩ := rc
    obtain ⟨l1, l2⟩ := intsAre_at hv
    obtain ⟨m1, m2⟩ := intsAre_at hw
    have hvs : vs.toArray.size = L * n := by rw [List.size_toArray, l1, hz]
    have hws : ws.length = L := by rw [m1, hy]
    refine wpAny_bind (wpAny_sequenceKey hT (by decide) ?_)
    refine wpAny_bind (wpAny_callSpecial?_slot (name := Str.ofString "__setitem__") hT slot_list_setitem
      (wpAny_call_entry slot_list_setitem hT entry_list_setitem ?_ (F.args_list_setitem_3 _ _ _)))
    show wpAny _ _ (Builtin.List.listSubscript? (.ref sl) >>= _) _ _ s
    refine wpAny_bind ?_
    unfold Builtin.List.listSubscript?
    refine wpAny_bind (wpAny_specialOf hTs slice_no_index ?_)
    refine wpAny_if_true rfl (wpAny_pure ?_)
    show wpAny _ _ (typeOf (.ref sl) >>= _) _ _ s
    refine wpAny_bind (wpAny_typeOf hTs ?_)
    refine wpAny_if_false (by decide) ?_
    refine wpAny_bind (wpAny_listSliceParts hs hn0 ?_)
    refine wpAny_if_false (by simp [Builtin.List.listSameRef, hac]) ?_
    refine wpAny_bind ?_
    unfold Builtin.List.listAllItems
    refine wpAny_bind (wpAny_typeOf hTc ?_)
    refine wpAny_if_true (by decide) ?_
    refine wpAny_listItems hlc ?_
    refine wpAny_bind (wpAny_listItems hl ?_)
    refine wpAny_bind (wpAny_of_eq ((sliceIndices_raw (some (i : Int)) none (some (n : Int)) vs.toArray.size (by simp; omega)).trans (congrArg pure (bounds_step i n vs.toArray.size (by omega)))) ?_)
    dsimp only
    have hlit : ∀ xs' : Array Value, xs'.size = L * n → (∀ j, j < L * n → xs'.getD j .none = if j % n = i ∧ j / n < L then ws.getD (j / n) .none else vs.getD j .none) → IntsAre xs'.toList (putL xs ys i n L) := fun xs' hx1 hx2 => by
      refine intsAre_of (by rw [putL_length, hz]; simpa using hx1) fun j hj => ?_
      rw [putL_length] at hj
      rw [putL_getD _ _ _ _ _ _ hj]
      have e := hx2 j (by rw [← hz]; exact hj)
      have e' : xs'.toList.getD j .none = xs'.getD j .none := by simp [List.getD, Array.getD_eq_getD_getElem?]
      rw [e', e]
      by_cases hcc : j % n = i ∧ j / n < L
      · rw [if_pos hcc, if_pos hcc]; exact m2 _ (by rw [hy]; exact hcc.2)
      · rw [if_neg hcc, if_neg hcc]; exact l2 j hj
    by_cases hn1 : n = 1
    · subst hn1
      have hi0 : i = 0 := by omega
      subst hi0
      have hvL : vs.toArray.size = L := by rw [hvs, Nat.mul_one]
      refine wpAny_if_true (by decide) ?_
      refine wpAny_bind (wpAny_rule ?_)
      refine wpAny_if_false (by simp only [Builtin.List.listTooLong, decide_eq_false_iff_not, List.size_toArray]; rw [List.size_toArray] at hvL; omega) ?_
      have eW : vs.toArray.extract 0 ((min 0 vs.toArray.size : Nat) : Int).toNat ++ ws.toArray ++ vs.toArray.extract (max ((min 0 vs.toArray.size : Nat) : Int) (vs.toArray.size : Int)).toNat = ws.toArray := by
        have e1 : ((min 0 vs.toArray.size : Nat) : Int).toNat = 0 := by omega
        have e2 : (max ((min 0 vs.toArray.size : Nat) : Int) (vs.toArray.size : Int)).toNat = vs.toArray.size := by omega
        rw [e1, e2]; simp
      refine wpAny_bind (m := updateSeq a _) ?_
      refine wpAny_updateSeq hl rfl ?_ (by omega) (by rw [eW, List.size_toArray]; omega)
      refine wpAny_bind (wpAny_letGo ?_)
      obtain ⟨e', hS⟩ := plain_update (f := fun xs => xs.extract 0 ((min 0 vs.toArray.size : Nat) : Int).toNat ++ ws.toArray ++ xs.extract (max ((min 0 vs.toArray.size : Nat) : Int) (vs.toArray.size : Int)).toNat) hl
      rw [eW] at hS
      refine wpAny_pure ⟨_, rfl, wpAny_pure (h _ (Heap.SameBut.update ..) ⟨ws, ⟨e', hS⟩, ?_⟩)⟩
      rw [putL_one xs ys L (by rw [hz, Nat.mul_one]) hy]; exact hw
    · refine wpAny_if_false (by simp; omega) ?_
      have hr : sliceRange ((min i vs.toArray.size : Nat) : Int) (vs.toArray.size : Int) (n : Int) = stepPlaces i n L := by rw [hvs]; exact range_step i n L hi
      rw [hr]
      refine wpAny_if_false (by simp [stepPlaces, hws]) ?_
      refine wpAny_bind (wpAny_rule ?_)
      obtain ⟨z1, z2⟩ := put_step Value.none i n hi L vs.toArray ws hws (by omega)
      refine wpAny_bind (m := updateSeq a _) ?_
      refine wpAny_updateSeq hl rfl ?_ (by omega) ?_
      case refine_2 =>
        show (((stepPlaces i n L).zip ws).foldl (fun b p => b.setIfInBounds p.1 p.2) vs.toArray).size ≤ sizeLine + 1
        rw [z1]; omega
      refine wpAny_bind (wpAny_letGo ?_)
      obtain ⟨e', hS⟩ := plain_update (f := fun b => ((stepPlaces i n L).zip ws).foldl (fun b p => b.setIfInBounds p.1 p.2) b) hl
      refine wpAny_pure ⟨_, rfl, wpAny_pure (h _ (Heap.SameBut.update ..) ⟨(((stepPlaces i n L).zip ws).foldl (fun b p => b.setIfInBounds p.1 p.2) vs.toArray).toList, ⟨e', hS⟩, ?_⟩)⟩
      refine hlit _ (by rw [z1, hvs]) fun j hj => ?_
      rw [z2 j]
      simp [List.getD, Array.getD_eq_getD_getElem?]
end
end Mine

/-! S1 -/
set_option linter.unusedVariables false
set_option maxRecDepth 100000
namespace Mine
open PySem PySem.W PyProof.Rows
open Sem (wp)

/-! a set of one int, made in the order of the text or by a led maker -/
def byText (w : World) : Bool := w.params.followText "set-order"

theorem put_led (t : SetTable) (j : Nat) : (t.put j).1.led = t.led := rfl
theorem standIn_led (t : SetTable) (n : Nat) : (t.standIn n).led = t.led := rfl
theorem orStandIn_led (t : SetTable) (n : Nat) : (t.orStandIn n).led = t.led := by unfold SetTable.orStandIn; split <;> rfl
theorem layNew_led (t : SetTable) (es : Array (Int × Value)) (h : Int) (x : Value) : (layNew t es h x).2.1.led = t.led := by
  unfold layNew
  split
  · exact (orStandIn_led _ _).trans (put_led _ _)
  · rfl
theorem laid_led {mask finger moves : Nat} {led plain : Bool} {hashes : Array Int} {r : SetTable × Array Nat} (h : SetTable.laid mask finger moves led plain hashes = some r) : r.1.led = led := by
  unfold SetTable.laid at h
  cases hc : SetTable.layClean mask hashes with
  | none => rw [hc] at h; cases h
  | some o => rw [hc] at h; cases h; rfl
theorem relayAll_led (t : SetTable) (es : Array (Int × Value)) (n : Nat) : (relayAll t es n).2.1.led = t.led := by
  unfold relayAll
  split
  · rename_i t' order hr
    dsimp only
    split
    · exact laid_led (r := (t', order)) hr
    · rfl
  · rfl

def SetEmpty (w : World) (h : Heap) (a : Addr) : Prop := h.get? a = some { cls := .type "set", data := .set #[] 0 (.fresh 0 0 (!byText w)) }
def SetOne (prog : Program) (w : World) (h : Heap) (a : Addr) (v : Int) : Prop :=
  ∃ tok ep t, h.get? a = some { cls := .type "set", data := .set #[((intKind prog w).hash v, .int v tok)] ep t } ∧ t.fits 1 = true ∧ t.led = !byText w

theorem one_of_perm {es1 : Array (Int × Value)} {e : Int × Value} (p : List.Perm es1.toList ((#[] : Array (Int × Value)).push e).toList) : es1 = #[e] := by
  have : es1.toList = [e] := List.perm_singleton.mp (by simpa using p)
  rw [← Array.toArray_toList (xs := es1), this]

section
variable {prog : Program} {w : World} {A : Around} {E : Value → Shared → Prop} {s : Shared}

theorem setAdd_first {a : Addr} {v : Int} {t : Tok} {Q : Bool → Shared → Prop} (hS : SetEmpty w s.heap a)
    (h : ∀ h', Heap.SameBut a s.heap h' → SetOne prog w h' a v → Q true { s with heap := h', toks := s.toks + 1 }) : wpAny (model prog w) A (setAdd a (.int v t)) Q E s := by
  unfold setAdd
  refine wpAny_holding ?_
  refine wpAny_bind ((intKind prog w).pyHash (k := v) (intKind_is _ _ _ _) ?_)
  have hkey : (intKind prog w).is v (.int v t) = true := intKind_is _ _ _ _
  have hsc : (Value.int v t).scannable = true := rfl
  have hel : ElemsOf (intKind prog w) (#[] : Array (Int × Value)).toList := fun e he => by simp at he
  generalize hs₁ : ({ s with toks := s.toks + 1 } : Shared) = s₁
  have hS₁ : SetEmpty w s₁.heap a := by rw [← hs₁]; exact hS
  unfold setAddHashed setAddHashedIn
  refine wpAny_holding (wpAny_bind (wpAny_setState_of hS₁ rfl (by rfl) ?_))
  dsimp only
  rw [byScan_of hsc (by decide) hel]
  simp only [↓reduceIte]
  unfold setAddByScan
  refine wpAny_bind ?_
  refine wpAny_bind (wpAny_rule ?_)
  refine wpAny_bind (wpAny_setScan_of hkey hS₁ rfl (by rfl) hel ?_)
  dsimp only [List.findIdx?]
  have hgw : ∀ (b : Bool) {s₁ : Shared} {Q' : Unit → Shared → Prop}, Q' () s₁ → wpAny (model prog w) A (match b with | true => rule "set.scan.the-table-gave-way" | false => pure ()) Q' E s₁ :=
    fun b s₁ Q' hq => by cases b <;> first | exact wpAny_pure hq | exact wpAny_rule hq
  have hperm := layNew_perm (SetTable.fresh 0 0 (!byText w)) #[] ((intKind prog w).hash v) (.int v t)
  have hfits := layNew_fits (SetTable.fresh 0 0 (!byText w)) #[] ((intKind prog w).hash v) (.int v t)
  have hled := layNew_led (SetTable.fresh 0 0 (!byText w)) #[] ((intKind prog w).hash v) (.int v t)
  generalize hL : layNew (SetTable.fresh 0 0 (!byText w)) #[] ((intKind prog w).hash v) (.int v t) = L at hperm hfits hled ⊢
  obtain ⟨es1, t1, wasDummy, gave⟩ := L
  dsimp only at hperm hfits hled ⊢
  have he1 := one_of_perm hperm
  subst he1
  refine wpAny_bind (hgw _ ?_)
  have tail : ∀ t2 : SetTable, t2.fits 1 = true → t2.led = (!byText w) → ∀ (g : Bool → Sem Unit), (∀ (b : Bool) (s₁ : Shared) (Q' : Unit → Shared → Prop), Q' () s₁ → wpAny (model prog w) A (g b) Q' E s₁) →
      wpAny (model prog w) A (do
        storeSet a #[((intKind prog w).hash v, .int v t)] t2
        if (!wasDummy && t2.tooFull) = true then do
            g (relayAll t2 #[((intKind prog w).hash v, .int v t)] (SetTable.grown (#[((intKind prog w).hash v, Value.int v t)] : Array (Int × Value)).size)).2.2
            storeSet a (relayAll t2 #[((intKind prog w).hash v, .int v t)] (SetTable.grown (#[((intKind prog w).hash v, Value.int v t)] : Array (Int × Value)).size)).1 (relayAll t2 #[((intKind prog w).hash v, .int v t)] (SetTable.grown (#[((intKind prog w).hash v, Value.int v t)] : Array (Int × Value)).size)).2.1
            pure (some true)
          else pure (some true)) (fun r s' => r = some true ∧ Q true s') E s₁ := fun t2 hf2 hl2 g hg => by
    refine wpAny_bind (wpAny_storeSet_of hS₁ rfl ?_ (by show 1 ≤ sizeLine; decide))
    have ho1 : (s₁.heap.update a (Obj.putSet #[((intKind prog w).hash v, .int v t)] t2)).get? a = some { cls := .type "set", data := .set #[((intKind prog w).hash v, .int v t)] 1 t2 } := by
      have := Heap.get?_update_self (Obj.putSet #[((intKind prog w).hash v, .int v t)] t2) hS₁ (by rfl)
      exact this
    have hsb1 := Heap.SameBut.update s₁.heap a (Obj.putSet #[((intKind prog w).hash v, .int v t)] t2)
    split
    · have hp := relayAll_perm t2 #[((intKind prog w).hash v, .int v t)] (SetTable.grown (#[((intKind prog w).hash v, Value.int v t)] : Array (Int × Value)).size)
      have hfr := relayAll_fits t2 #[((intKind prog w).hash v, .int v t)] (SetTable.grown (#[((intKind prog w).hash v, Value.int v t)] : Array (Int × Value)).size)
      have hlr := relayAll_led t2 #[((intKind prog w).hash v, .int v t)] (SetTable.grown (#[((intKind prog w).hash v, Value.int v t)] : Array (Int × Value)).size)
      generalize hRl : relayAll t2 #[((intKind prog w).hash v, .int v t)] (SetTable.grown (#[((intKind prog w).hash v, Value.int v t)] : Array (Int × Value)).size) = Rl at hp hfr hlr ⊢
      obtain ⟨es2, t3, gave2⟩ := Rl
      dsimp only at hp hfr hlr ⊢
      have he2 : es2 = #[((intKind prog w).hash v, .int v t)] := by
        have : es2.toList = [((intKind prog w).hash v, .int v t)] := List.perm_singleton.mp (by simpa using hp)
        rw [← Array.toArray_toList (xs := es2), this]
      subst he2
      refine wpAny_bind (hg _ _ _ ?_)
      refine wpAny_bind (wpAny_storeSet_of ho1 rfl ?_ (by show 1 ≤ sizeLine; decide))
      refine wpAny_pure ⟨rfl, ?_⟩
      subst hs₁
      refine h _ (hsb1.trans (Heap.SameBut.update _ a _)) ⟨t, 2, t3, ?_, hfr, hlr.trans hl2⟩
      exact Heap.get?_update_self (Obj.putSet #[((intKind prog w).hash v, .int v t)] t3) ho1 (by rfl)
    · refine wpAny_pure ⟨rfl, ?_⟩
      subst hs₁
      exact h _ hsb1 ⟨t, 1, t2, ho1, hf2, hl2⟩
  split
  · refine wpAny_bind ?_
    rw [hashByValue_scannable 8 hsc]
    refine wpAny_pure ?_
    refine wpAny_mono (tail _ ?_ ?_ _ ?_) (fun r s' hr => ?_) fun _ _ x => x
    · split
      · exact hfits
      · exact SetTable.fits_plain_off hfits
    · split
      · exact hled
      · exact hled
    · intro b s₁ Q' hq; cases b <;> first | exact wpAny_pure hq | exact wpAny_rule hq
    · obtain ⟨rfl, hr⟩ := hr; exact wpAny_pure hr
  · refine wpAny_bind (wpAny_pure ?_)
    simp only [↓reduceIte]
    refine wpAny_mono (tail _ hfits hled _ ?_) (fun r s' hr => ?_) fun _ _ x => x
    · intro b s₁ Q' hq; cases b <;> first | exact wpAny_pure hq | exact wpAny_rule hq
    · obtain ⟨rfl, hr⟩ := hr; exact wpAny_pure hr

theorem setAdd_again {a : Addr} {v : Int} {t : Tok} {Q : Bool → Shared → Prop} (hS : SetOne prog w s.heap a v) (h : Q false { s with toks := s.toks + 1 }) : wpAny (model prog w) A (setAdd a (.int v t)) Q E s := by
  unfold setAdd
  refine wpAny_holding ?_
  refine wpAny_bind ((intKind prog w).pyHash (k := v) (intKind_is _ _ _ _) ?_)
  obtain ⟨tok, ep, tb, ho, hf, hl⟩ := hS
  have hkey : (intKind prog w).is v (.int v t) = true := intKind_is _ _ _ _
  have hsc : (Value.int v t).scannable = true := rfl
  have hel : ElemsOf (intKind prog w) (#[((intKind prog w).hash v, Value.int v tok)] : Array (Int × Value)).toList := fun e he => by
    have : e = ((intKind prog w).hash v, Value.int v tok) := by simpa using he
    subst this
    exact ⟨⟨v, intKind_is _ _ _ _, rfl⟩, rfl⟩
  unfold setAddHashed setAddHashedIn
  refine wpAny_holding (wpAny_bind (wpAny_setState_of (s := { s with toks := s.toks + 1 }) ho rfl hf ?_))
  dsimp only
  rw [byScan_of hsc (by show 1 < scanBound; decide) hel]
  simp only [↓reduceIte]
  unfold setAddByScan
  refine wpAny_bind ?_
  refine wpAny_bind (wpAny_rule ?_)
  refine wpAny_bind (wpAny_setScan_of (s := { s with toks := s.toks + 1 }) hkey ho rfl hf hel ?_)
  have hi : (intKind prog w).is v (Value.int v tok) = true := intKind_is _ _ _ _
  have e : List.findIdx? (fun e => (intKind prog w).is v e.2) (#[((intKind prog w).hash v, Value.int v tok)] : Array (Int × Value)).toList = some 0 := by
    simp [hi]
  rw [e]
  exact wpAny_pure (wpAny_pure h)
end
end Mine

/-! G1 -/
set_option maxRecDepth 100000
namespace Mine
open PySem PySem.W PyProof.Rows
open Sem (wp)

section
variable {M : Model} {A : Around} {R : GenEnd} {Y : Protocol} {n : Nat} {s₀ : Shared} {c : Code} {fs : List Frame} {s : Shared} {env : Env}
  {K : Flow → Sem PySem.Fin} {H : Value → Sem PySem.Fin} {gd : Bool → Bool} {lv : List Value → List Value}

theorem segD_nil (h : SegD M A R Y n s₀ c (K .next) fs s) : SegD M A R Y n s₀ c ((execs [] env).wrap K H gd lv) fs s := h

theorem segD_stmt {st : Stmt} {rest : List Stmt} (hd : isDec c = false) (hf : FsOk fs)
    (h : wpD M (A.over c fs) (exec st env) (fun f s' => f = .next ∧ SegD M A R Y n s₀ c ((execs rest env).wrap K H gd lv) fs s') s) :
    SegD M A R Y n s₀ c ((execs (st :: rest) env).wrap K H gd lv) fs s := by
  rw [execs_cons_wrap]
  refine segD_wrap hd hf (wpD_mono h fun f s' h' => ?_)
  obtain ⟨rfl, h'⟩ := h'
  exact h'

theorem segD_cons {st : Stmt} {rest : List Stmt}
    (h : SegD M A R Y n s₀ c ((exec st env).wrap (fun f => match f with | .next => (execs rest env).wrap K H gd lv | f => K f) H gd lv) fs s) :
    SegD M A R Y n s₀ c ((execs (st :: rest) env).wrap K H gd lv) fs s := by rw [execs_cons_wrap]; exact h

theorem segD_Expr_Yield {e : Expr} {ypos pos : Pos} (hd : isDec c = false) (hf : FsOk fs) (hfs : splitAtGen fs = none) (hgd : gd false = false) (hfg : fs.any Frame.guarded = false)
    (h : wpD M (A.over c fs) (eval e env) (fun v s' => ∀ kap : Resume → Shared → Prop,
        (∀ x s'', (match x with | .ref _ => False | _ => SegD M A R Y n s'' c (K .next) fs s'') → kap (.send x) s'') → Y n s₀ v s' kap) s)
    (hco : env.scope.isCoroutine = false) (hi : interactive env = false) :
    SegD M A R Y (n + 1) s₀ c ((exec (.Expr (.Yield (some e) ypos) pos) env).wrap K H gd lv) fs s := by
  rw [exec_Expr env _ pos hi rfl]
  show SegD M A R Y (n + 1) s₀ c (.at pos fun _ => ((eval e env >>= fun v => (standAt ypos >>= fun _ => yieldOut env v)) >>= fun x =>
    dropValue (.Yield (some e) ypos) pos x).wrap K H gd lv) fs s
  have hy : ∀ v, yieldOut env v = yieldValue v := fun v => by simp only [yieldOut, hco, Bool.false_eq_true, if_false]
  simp only [hy]
  refine segD_at hd hf ?_
  rw [Sem.bind_eq_wrap', Sem.bind_eq_wrap', Sem.wrap_wrap, Sem.wrap_wrap]
  refine segD_wrap hd hf (wpD_mono h fun v s' h' => ?_)
  refine segD_at hd hf (segD_yield hfs hgd hfg ?_)
  refine h' _ fun x s'' hx => ?_
  cases x <;> first | exact hx | exact hx.elim
end

section
variable {prog : Program} {w : World} {A : Around} {R : GenEnd} {Y : Protocol} {n : Nat} {s₀ : Shared} {c : Code} {fs : List Frame} {s : Shared} {env : Env}
  {K : Flow → Sem PySem.Fin} {H : Value → Sem PySem.Fin} {gd : Bool → Bool} {lv : List Value → List Value}

/-- a for statement in a generator -/
theorem segD_For {target iter : Expr} {body : List Stmt} {pos : Pos} (hd : isDec c = false) (hf : FsOk fs)
    (h : wpD (model prog w) (A.over c fs) (eval iter env) (fun x s₁ => wpD (model prog w) (A.over c fs) (pyIter x) (fun it s₂ =>
      ∀ p k₀, (∃ H' : Value → Sem PySem.Fin, k₀ = (fun r => match r with | .ok f => K f | .error e => H' e)) → SegD (model prog w) A R Y n s₀ (.forLoop target it body [] env) ((model prog w).den (.forLoop target it body [] env)) (.ret k₀ none (gd false) (lv []) c p [] :: fs) s₂) s₁) s)
    (hs : ∀ x, foldedSetIterable iter env x = pure x := by intro _; rfl) :
    SegD (model prog w) A R Y n s₀ c ((exec (.For target iter body [] pos) env).wrap K H gd lv) fs s := by
  rw [exec_For]
  refine segD_bind_wrap hd hf (wpD_standAt ?_)
  refine segD_bind_wrap hd hf (wpD_mono h fun x s₁ h₁ => ?_)
  refine segD_bind_wrap hd hf (wpD_of_eq (hs x) ?_)
  refine segD_bind_wrap hd hf (wpD_standAt ?_)
  refine segD_bind_wrap hd hf (wpD_holding (wpD_mono h₁ fun it s₂ h₂ => ?_))
  show SegD _ A R Y n s₀ c ((runOwn (.forLoop target it body [] env) env).wrap K H gd lv) fs s₂
  exact segD_call fun p => h₂ p _ ⟨_, funext fun r => by
    cases r with
    | ok f => rfl
    | error e => rfl⟩

theorem segD_forTurn {target : Expr} {it : Value} {body : List Stmt} (hf : FsOk fs)
    (h : wpD (model prog w) (A.over (.forLoop target it body [] env) fs) (pyNext it) (fun r s₁ => match r with
      | none => SegD (model prog w) A R Y n s₀ (.block [] env) (leafOf (.ok .next)) fs s₁
      | some v => wpD (model prog w) (A.over (.forLoop target it body [] env) fs) (letOwnedTupleGo target it v) (fun _ s₁ => wpD (model prog w) (A.over (.forLoop target it body [] env) fs) (assign target env v)
          (fun _ s₂ => ∀ K' H', K' .next = .pure (.again (.forLoop target it body [] env)) → SegD (model prog w) A R Y n s₀ (.forLoop target it body [] env) ((execs body env).wrap K' H' id id) fs s₂) s₁) s₁) s) :
    SegD (model prog w) A R Y n s₀ (.forLoop target it body [] env) ((model prog w).den (.forLoop target it body [] env)) fs s := by
  show SegD _ A R Y n s₀ _ ((forTurn target it body [] env).onRaise (fun x => do noteFrame x env; theTreesLotGoes x)) fs s
  unfold forTurn
  rw [Sem.onRaise_eq_wrap]
  refine segD_bind_wrap rfl hf (wpD_standAt ?_)
  refine segD_bind_wrap rfl hf (wpD_onRaise (wpD_mono h fun r s₁ h₁ => ?_))
  cases r with
  | none => exact segD_again rfl h₁
  | some v =>
    refine segD_bind_wrap rfl hf (wpD_mono h₁ fun _ s₂ h₂ => ?_)
    refine segD_bind_wrap rfl hf (wpD_mono h₂ fun _ s₃ h₃ => ?_)
    rw [Sem.bind_eq_wrap', Sem.wrap_wrap]
    exact h₃ _ _ rfl

theorem segD_func {body : List Stmt} (hf : FsOk fs)
    (h : ∀ K' H', K' .next = .pure (.done (.ret .none)) → SegD (model prog w) A R Y n s₀ (.func body env) ((execs body env).wrap K' H' id id) fs s) :
    SegD (model prog w) A R Y n s₀ (.func body env) ((model prog w).den (.func body env)) fs s := by
  show SegD _ A R Y n s₀ _ (.point [] fun _ => ((execs body env).onRaise (leaving env)) >>= _) fs s
  refine segD_point rfl hf ?_
  rw [Sem.onRaise_eq_wrap, Sem.bind_eq_wrap', Sem.wrap_wrap]
  exact h _ _ rfl
end
end Mine

/-! G2 -/
set_option maxRecDepth 100000
namespace Mine
open PySem PySem.W PyProof.Rows
open Sem (wp)

/-! a new frame for a call -/
def updAll : List (Str × Value) → (Str → Option Value) → Str → Option Value
  | [], m => m
  | (n, v) :: r, m => updAll r (upd m n v)

structure FnSc (sc : Scope) : Prop where
  kind : sc.kind = .function
  once : ∀ y ∈ sc.names, sc.names.lookup y.1 = some y.2
  nofree : ∀ y ∈ sc.names, y.2 ≠ .free

theorem cellsFrom_mem : ∀ (names : List (Str × NameKind)) (n : Nat) (acc : List (Str × Addr)) (x : Str) (c : Addr), (x, c) ∈ cellsFrom n names acc → (x, c) ∈ acc ∨ (x, NameKind.cell) ∈ names
  | [], _, _, _, _, h => .inl h
  | (name, kind) :: r, n, acc, x, c, h => by
    unfold cellsFrom at h
    split at h
    · rename_i hk
      rcases cellsFrom_mem r _ _ x c h with h | h
      · rcases List.mem_cons.mp h with e | h
        · cases e; exact .inr (by rw [beq_iff_eq.mp hk]; exact List.mem_cons_self)
        · exact .inl h
      · exact .inr (List.mem_cons_of_mem _ h)
    · rcases cellsFrom_mem r _ _ x c h with h | h
      · exact .inl h
      · exact .inr (List.mem_cons_of_mem _ h)
theorem cellsFrom_old : ∀ (names : List (Str × NameKind)) (n : Nat) (acc : List (Str × Addr)) (x : Str) (c : Addr), (x, c) ∈ acc → ∃ c', (x, c') ∈ cellsFrom n names acc
  | [], _, _, _, c, h => ⟨c, h⟩
  | (name, kind) :: r, n, acc, x, c, h => by
    unfold cellsFrom
    split
    · exact cellsFrom_old r _ _ x c (List.mem_cons_of_mem _ h)
    · exact cellsFrom_old r _ _ x c h
theorem cellsFrom_has : ∀ (names : List (Str × NameKind)) (n : Nat) (acc : List (Str × Addr)) (x : Str), (x, NameKind.cell) ∈ names → ∃ c, (x, c) ∈ cellsFrom n names acc
  | [], _, _, _, h => nomatch h
  | (name, kind) :: r, n, acc, x, h => by
    rcases List.mem_cons.mp h with e | h
    · cases e
      unfold cellsFrom
      rw [if_pos (by rfl)]
      exact cellsFrom_old r _ _ _ n List.mem_cons_self
    · unfold cellsFrom
      split
      · exact cellsFrom_has r _ _ x h
      · exact cellsFrom_has r _ _ x h
theorem lookup_of_mem {α : Type} : ∀ {l : List (Str × α)} {x : Str} {c : α}, (x, c) ∈ l → (l.lookup x).isSome = true
  | (k, v) :: r, x, c, h => by
    rw [List.lookup_cons]
    cases hb : x == k with
    | true => rfl
    | false =>
      rcases List.mem_cons.mp h with e | h
      · cases e; simp at hb
      · exact lookup_of_mem h

theorem bindL_upd {kindOf : Str → Option NameKind} {y : Str} (hy : kindOf y = some .local) : ∀ (binds : List (Str × Value)) (m m' : Str → Option Value), m y = m' y → bindL kindOf binds m y = updAll binds m' y
  | [], _, _, e => e
  | (n, v) :: r, m, m', e => by
    unfold bindL updAll
    refine bindL_upd hy r _ _ ?_
    unfold upd
    by_cases hn : y = n
    · subst hn; rw [if_pos hy]
      try simp
    · split <;> simp [hn, e]
theorem bindC_upd {kindOf : Str → Option NameKind} {y : Str} (hy : kindOf y ≠ some .local) : ∀ (binds : List (Str × Value)) (m m' : Str → Option Value), m y = m' y → bindC kindOf binds m y = updAll binds m' y
  | [], _, _, e => e
  | (n, v) :: r, m, m', e => by
    unfold bindC updAll
    refine bindC_upd hy r _ _ ?_
    unfold upd
    by_cases hn : y = n
    · subst hn; rw [if_neg hy]
      try simp
    · split <;> simp [hn, e]

theorem frm_new {sc : Scope} {s s' : Shared} {L n : Addr} {binds : List (Str × Value)} {qual : Str} {func : Option Addr} {code : Value} {env : Env} (ok : FnSc sc)
    (he : env = newEnv sc L mainGlobals (cellsFrom n sc.names []) qual func code none builtinsNs)
    (x : InCallC s env.locals (bindL env.kindOf binds fun _ => none) env.cells (bindC env.kindOf binds fun _ => none) s') : Frm sc env s'.heap (updAll binds fun _ => none) := by
  have e1 : env.scope = sc := by rw [he]; rfl
  have e2 : env.cells = cellsFrom n sc.names [] := by rw [he]; rfl
  have inC : ∀ {x : Str} {c : Addr}, env.cells.lookup x = some c → sc.names.lookup x = some .cell := fun {y c} h => by
    rw [e2] at h
    rcases cellsFrom_mem _ _ _ _ _ (mem_of_lookup h) with h | h
    · cases h
    · exact ok.once _ h
  have ek : ∀ y, env.kindOf y = sc.names.lookup y := fun y => by unfold Env.kindOf; rw [e1]
  exact {
    scp := e1
    kind := ok.kind
    glob := by rw [he]; rfl
    blt := by rw [he]; rfl
    ns := ⟨_, x.toInCall.ns, fun y hy => bindL_upd ((ek y).trans hy) _ _ _ rfl⟩
    cell := fun y c h => by
      have := x.cell y c h
      rwa [bindC_upd (by rw [ek, inC h]; decide) binds _ (fun _ => none) rfl] at this
    has := fun y hy => by
      rcases hy with hy | hy
      · obtain ⟨c, hc⟩ := cellsFrom_has sc.names n [] y (mem_of_lookup hy)
        rw [e2]; exact lookup_of_mem hc
      · exact absurd rfl (ok.nofree _ (mem_of_lookup hy))
    apart := fun y z c h1 h2 => name_of_addr x.apart (mem_of_lookup h1) (mem_of_lookup h2)
    off := fun y c h => Nat.ne_of_gt (x.above y c (mem_of_lookup h))
    plain := fun y c h => by rw [inC h]; decide }

section
variable {prog : Program} {w : World} {A : Around} {s : Shared}

theorem inCallC_rel {L : Addr} {m cm : Str → Option Value} {cs : List (Str × Addr)} {s' : Shared} (x : InCallC s L m cs cm s') : Rel noX noV s s' ∧ s.heap.objs.size ≤ L ∧ ∀ y c, (y, c) ∈ cs → s.heap.objs.size ≤ c := by
  obtain ⟨h', tk, rfl⟩ := x.toInCall.same
  obtain ⟨o, es, n, ho, _⟩ := x.toInCall.ns
  have hlt : L < h'.objs.size := Heap.lt_size ho
  have hfr := x.toInCall.fresh
  exact ⟨Rel.only (fun b o e _ => x.toInCall.keep b o e) (Nat.le_of_lt (Nat.lt_of_le_of_lt hfr hlt)), hfr, fun y c hm => Nat.le_of_lt (Nat.lt_of_le_of_lt hfr (x.above y c hm))⟩

/-- a call of a function written in the text, up to its body -/
theorem wpD_call_user {a : Addr} {o : Obj} {fd : FuncData} {body : List Stmt} {vals : List Value} {binds : List (Str × Value)} {Q : Value → Shared → Prop} (sc : Scope) (ns : List Str)
    (hroom : A.depth < recursionLimit) (ho : s.heap.get? a = some o) (hdata : o.data = .func fd) (hlim : s.heap.NoLimit) (hcd : s.heap.CodeRec fd.code fd.qualname)
    (hbody : fd.body = .stmts body) (hbind : BindsTo s fd ⟨vals, []⟩ binds) (hclo : fd.closure = []) (hgl : fd.globals = mainGlobals) (hbl : fd.builtins = builtinsNs) (hsc : fd.scope = sc) (ok : FnSc sc)
    (hn : binds.map (·.1) = ns) (hkind : ∀ x ∈ ns, sc.names.lookup x = some .local ∨ sc.names.lookup x = some .cell)
    (h : ∀ env s₁, (∃ L, env = newEnv sc L mainGlobals (cellsFrom (L + 1) sc.names []) (fd.qualname ++ ".<locals>.") (some a) fd.code none builtinsNs) → Rel noX noV s s₁ → (∀ b, Own env b → s.heap.objs.size ≤ b) →
      Frm sc env s₁.heap (updAll binds fun _ => none) →
      wpD (model prog w) (A.deeper env) (execs body env) (fun f s' => Q (match f with | .ret v => v | _ => .none) s') s₁)
    (hco : sc.isCoroutine = false) (hgen : sc.isGenerator = false) :
    wpD (model prog w) A (call (.ref a) vals) Q s := by
  subst hsc
  refine wpD_call (codeD_call_function hroom ho hdata hco hgen hbody hcd (wpD_of (hbind _ _ _ _ ?_)))
  rw [hclo, hgl, hbl]
  refine wpD_of (wpAny_newFunctionEnv_cells ok.kind (fun x hx => ?_) fun env he s' x => ?_)
  · rcases hkind x.1 (hn ▸ List.mem_map_of_mem hx) with h | h
    · exact .inl h
    · obtain ⟨c, hc⟩ := cellsFrom_has fd.scope.names (s.heap.objs.size + 1) [] x.1 (mem_of_lookup h)
      exact .inr ⟨h, lookup_of_mem hc⟩
  · obtain ⟨r, h1, h2⟩ := inCallC_rel x
    exact ⟨hlim.keeps x.toInCall.keep, codeD_func (h env s' ⟨_, he⟩ r (fun b hb => by
      rcases hb with rfl | ⟨y, hy⟩
      · exact h1
      · exact h2 y b (mem_of_lookup hy)) (frm_new ok he x))⟩
end
end Mine

/-! G3 -/
set_option maxRecDepth 100000
namespace Mine
open PySem PySem.W PyProof.Rows
open Sem (wp)

/-! the text's parts -/
def stAt (i : Nat) : Stmt := PySem.Challenge.pw_fi0019_01.main.body.getD i (.Pass default)
def dBody : Stmt → List Stmt
  | .FunctionDef (body := b) .. => b
  | _ => []
def dParams : Stmt → Arguments
  | .FunctionDef (args := a) .. => a
  | _ => default
def dScope : Stmt → Scope
  | .FunctionDef (scope := a) .. => a
  | _ => default

structure OkA (A : Around) (d u : Nat) : Prop where
  handled : A.handled = none
  guards : A.guards = some []
  depth : A.depth ≤ d
  units : A.units ≤ u
namespace OkA
variable {A : Around} {d u : Nat}
theorem in1 (h : OkA A d u) : OkA A.in1 d (u + 1) := ⟨h.handled, h.guards, h.depth, Nat.succ_le_succ h.units⟩
theorem deeper (h : OkA A d u) (env : Env) : OkA (A.deeper env) (d + 1) (u + 3) := ⟨h.handled, h.guards, Nat.succ_le_succ h.depth, Nat.add_le_add_right h.units 3⟩
theorem mono (h : OkA A d u) {d' u' : Nat} (hd : d ≤ d') (hu : u ≤ u') : OkA A d' u' := ⟨h.handled, h.guards, Nat.le_trans h.depth hd, Nat.le_trans h.units hu⟩
theorem caller : OkA callerA 900 10 := ⟨by first | rfl | decide, by first | rfl | decide, by decide, by decide⟩
theorem over_func (h : OkA A d u) (body : List Stmt) (env : Env) : OkA (A.over (.func body env) []) (d + 1) (u + 3) := by
  refine ⟨?_, ?_, ?_, ?_⟩
  · exact h.handled
  · show pushGuards (Code.func body env).guards (pushGuards [] A.guards) = _
    rw [h.guards]; rfl
  · show A.depth + 0 + 1 ≤ d + 1
    have := h.depth; omega
  · show A.units + 0 + 3 ≤ u + 3
    have := h.units; omega
theorem over_for (h : OkA A d u) (body : List Stmt) (env : Env) {t : Expr} {it : Value} {b : List Stmt} {k : Result → Sem PySem.Fin} {g : Bool} {l : List Value} {p : Pos} :
    OkA (A.over (.forLoop t it b [] env) [.ret k none g l (.func body env) p []]) (d + 1) (u + 8) := by
  refine ⟨?_, ?_, ?_, ?_⟩
  · show (marksOver [.ret k none g l (.func body env) p []] (A.handled, A.handled)).1 = none
    rw [h.handled]; rfl
  · simp only [Around.over, h.guards]; rfl
  · show A.depth + 1 + 0 ≤ d + 1
    have := h.depth; omega
  · show A.units + (3 + 0) + _ ≤ u + 8
    have := h.units
    have e : (Code.forLoop t it b [] env).cUnits ≤ 5 := by simp only [Code.cUnits]; first | (show 3 * 0 ≤ 5; decide) | (show 3 * 1 ≤ 5; decide)
    omega
end OkA

def Kd.code : Kd → Str
  | .B => Str.ofString "B"
  | .H => Str.ofString "H"

/-- a function of the text, its object -/
structure FnAt (h : Heap) (name : Str) (i : Nat) (a : Addr) (c : Value) : Prop where
  obj : ∃ o pm doc dV kV, h.get? a = some o ∧ o.data = .func { Calls.docDef name (dParams (stAt i)) (dBody (stAt i)) (dScope (stAt i)) pm c doc with defaults := dV, kwdefaults := kV } ∧
    (i = 1 → ∃ T oT d n, dV = .ref T ∧ h.get? T = some oT ∧ oT.data = .seq #[d] n) ∧ (i ≠ 1 → dV = .none)
  code : h.CodeRec c name

/-- all but empty tables is as it was -/
def KeepB (hB h : Heap) : Prop := ∀ b o, o.data ≠ .fields #[] → hB.get? b = some o → h.get? b = some o

theorem FnAt.keeps {h h' : Heap} {name : Str} {i : Nat} {a : Addr} {c : Value} (x : FnAt h name i a c) (hk : KeepB h h') : FnAt h' name i a c := by
  obtain ⟨⟨o, pm, doc, dV, kV, h1, h2, h3, h4⟩, c', oc, vs, tq, e, hoc, hdc, hq⟩ := x
  refine ⟨⟨o, pm, doc, dV, kV, hk _ _ (by rw [h2]; simp) h1, h2, fun hi => ?_, h4⟩, c', oc, vs, tq, e, hk _ _ ?_ hoc, hdc, hq⟩
  · obtain ⟨T, oT, d, n, e1, e2, e3⟩ := h3 hi
    exact ⟨T, oT, d, n, e1, hk _ _ (by rw [e3]; simp) e2, e3⟩
  · rw [hdc]
    intro e
    injection e with e
    subst e
    simp at hq

theorem Ns.keepB {h h' : Heap} {L : Addr} {m : Str → Option Value} (x : h.Ns L m) (hk : KeepB h h') : h'.Ns L m := by
  obtain ⟨o, es, ep, e, d, r⟩ := x
  exact ⟨o, es, ep, hk _ _ (by rw [d]; simp) e, d, r⟩

theorem Glb.keepB {mg mb : Str → Option Value} {h h' : Heap} (x : Glb mg mb h) (hk : KeepB h h') : Glb mg mb h' where
  g := Ns.keepB x.g hk
  b := Ns.keepB x.b hk
  lim := by
    obtain ⟨mc, h1, h2⟩ := x.lim
    exact ⟨mc, Ns.keepB h1 hk, h2⟩
  boot := x.boot
  bm := let ⟨bm, ob, h1, h2, h3, h4, h5, h6⟩ := x.bm; ⟨bm, ob, h1, h2, hk _ _ (by rw [h6]; simp) h3, h4, h5, h6⟩

/-- what is known of the text's own objects -/
structure Txt (mg mb : Str → Option Value) (hB : Heap) (aA aR c P : Addr) (cA : Value) : Prop where
  glb : Glb mg mb hB
  arr : FnAt hB (Str.ofString "array") 1 aA cA
  arrG : mg (Str.ofString "array") = some (.ref aA)
  rsc : FnAt hB (Str.ofString "rescale_rows") 3 aR (.ref c)
  rscG : mg (Str.ofString "rescale_rows") = some (.ref aR)
  none : ∀ x ∈ [Str.ofString "bytearray", Str.ofString "list", Str.ofString "set", Str.ofString "len", Str.ofString "range", Str.ofString "iter", Str.ofString "zip", Str.ofString "max"], mg x = none
  tabB : hB.IsCode c P #[] ∧ hB.TableAt c P #[]

theorem Txt.cP {mg mb : Str → Option Value} {hB : Heap} {aA aR c P : Addr} {cA : Value} (T : Txt mg mb hB aA aR c P cA) : c < hB.objs.size ∧ P < hB.objs.size := T.tabB.1.lt

/-- what stays known of them -/
structure GS (hB : Heap) (c P : Addr) (h : Heap) : Prop where
  keep : KeepB hB h
  tab : ∃ ps, h.IsCode c P ps ∧ h.TableAt c P ps

theorem GS.rel {mg mb : Str → Option Value} {hB : Heap} {aA aR c P : Addr} {cA : Value} {X : Addr → Obj → Prop} {V : Nat → Prop} {s s' : Shared} (T : Txt mg mb hB aA aR c P cA) (g : GS hB c P s.heap) (r : Rel X V s s') (hX : ∀ b o, X b o → hB.objs.size ≤ b) :
    GS hB c P s'.heap := by
  have ne : ∀ b, b < hB.objs.size → ∀ o, ¬ X b o := fun b hb o hx => Nat.lt_irrefl _ (Nat.lt_of_lt_of_le hb (hX b o hx))
  refine ⟨fun b o ho e => r.heap b o (g.keep b o ho e) (ne b (Heap.lt_size e) o), ?_⟩
  obtain ⟨ps, h1, h2⟩ := g.tab
  refine ⟨ps, ?_, ?_⟩
  · obtain ⟨o, vs, file, tf, flags, tg, inF, text, tt, op, ho, hd, h11, e2, e7, e9, e10, hop, hpd, htr, hne⟩ := h1
    exact ⟨o, vs, file, tf, flags, tg, inF, text, tt, op, r.heap _ _ ho (ne _ T.cP.1 _), hd, h11, e2, e7, e9, e10, r.heap _ _ hop (ne _ T.cP.2 _), hpd, htr, hne⟩
  · obtain ⟨⟨o, vs, e, q⟩, t⟩ := h2
    exact ⟨⟨o, vs, r.heap _ _ e (ne _ T.cP.1 _), q⟩, r.heap _ _ t (ne _ T.cP.2 _)⟩
theorem GS.table {mg mb : Str → Option Value} {hB : Heap} {aA aR c P : Addr} {cA : Value} {h h' : Heap} {ps : Array Value} (T : Txt mg mb hB aA aR c P cA) (g : GS hB c P h) (hx : Heap.ExtBut P h h') (h1 : h'.IsCode c P ps) (h2 : h'.TableAt c P ps) : GS hB c P h' :=
  ⟨fun b o ho e => hx b o (fun q => by
    subst q
    rw [T.tabB.2.2] at e
    cases e
    exact ho rfl) (g.keep b o ho e), ps, h1, h2⟩
theorem GS.glb {mg mb : Str → Option Value} {hB : Heap} {aA aR c P : Addr} {cA : Value} {h : Heap} (T : Txt mg mb hB aA aR c P cA) (g : GS hB c P h) : Glb mg mb h := T.glb.keepB g.keep

theorem arr_sc : FnSc (dScope (stAt 1)) := ⟨rfl, by decide +kernel, by decide +kernel⟩
theorem rsc_sc : FnSc (dScope (stAt 3)) := ⟨rfl, by decide +kernel, by decide +kernel⟩
theorem law_sc : FnSc (dScope (stAt 5)) := ⟨rfl, by decide +kernel, by decide +kernel⟩
end Mine

/-! G4 -/
set_option maxRecDepth 100000
namespace Mine
open PySem PySem.W PyProof.Rows
open Sem (wp)

/-- the widest surroundings within the bounds -/
def big (d u : Nat) : Around := { handled := none, depth := d, frames := none, guards := some [], units := u }
theorem okA_big (d u : Nat) : OkA (big d u) d u := ⟨rfl, rfl, Nat.le_refl _, Nat.le_refl _⟩

theorem okA_ins {A : Around} {d u : Nat} (h : OkA A d u) {Γ : Ctx} (hΓ : Γ.In A) : Γ.In (big d u) := by
  obtain ⟨h1, h2, h3, h4, h5⟩ := hΓ
  exact ⟨h1.trans h.handled, Nat.le_trans h2 h.depth, (fun l hl => by cases hl), (fun g hg => h4 g (h.guards.trans hg)), Nat.le_trans h5 h.units⟩

section
variable {α : Type} {M : Model} {A : Around} {d u : Nat} {s : Shared}
theorem wpAny_big {t : Sem α} {Q : α → Shared → Prop} {E : Value → Shared → Prop} (hA : OkA A d u) (h : wpAny M (big d u) t Q E s) : wpAny M A t Q E s := fun Γ p hΓ => h Γ p (okA_ins hA hΓ)
theorem wpD_big {t : Sem α} {Q : α → Shared → Prop} (hA : OkA A d u) (h : wpD M (big d u) t Q s) : wpD M A t Q s := fun Γ p hΓ hc => h Γ p (okA_ins hA hΓ) hc
end

theorem walksS_big {prog : Program} {w : World} {A : Around} {d u : Nat} {I : Addr} {fp wr : List Addr} {G : Array GenState → Array GenState → Prop} {n : Nat} {P : Nat → Value → Prop} {St : Nat → Shared → Prop}
    (hA : OkA A d u) (W : WalksS prog w (big d u) I fp wr G n P St) : WalksS prog w A I fp wr G n P St where
  sub := W.sub
  grefl := W.grefl
  gtrans := W.gtrans
  frame := W.frame
  item := fun i s Q E hi hst hQ => wpAny_big hA (W.item i s Q E hi hst hQ)
  done := fun s Q E hst hQ => wpAny_big hA (W.done s Q E hst hQ)
  self := fun i s Q E hst hQ => wpAny_big hA (W.self i s Q E hst hQ)

section
variable {prog : Program} {w : World} {A : Around} {E : Value → Shared → Prop} {s : Shared} {d u : Nat}

theorem wpAny_call_iter {v : Value} {Q : Value → Shared → Prop} (h : wpAny (model prog w) A.in1 (pyIter v) Q E s) : wpAny (model prog w) A (call (.builtin "iter") [v]) Q E s := by
  refine Calls.call_function_entry (by decide +kernel) (by decide +kernel) PySem.W.kdk_entry_iter (PySem.W.kdk_args_iter _) ?_
  unfold Builtin.«iter»
  refine wpAny_bind (wpAny_of_eq (a := [v]) rfl ?_)
  refine wpAny_bind (wpAny_mono h (fun it s' h' => wpAny_pure ⟨_, rfl, h'⟩) fun _ _ x => x)

theorem wpAny_eq_str {x y : Str} {t u : Tok} {Q : Value → Shared → Prop} (h : Q (.bool (x.cps.toList == y.cps.toList)) s) : wpAny (model prog w) A (compareOp .Eq (.str x t) (.str y u)) Q E s := PySem.P.eq_str h

/-- array(typecode, it) up to the constructor -/
theorem wpD_array {mg mb : Str → Option Value} {hB : Heap} {aA aR c P : Addr} {cA : Value} {kt : Kd} {t : Tok} {it : Value} {Q : Value → Shared → Prop}
    (T : Txt mg mb hB aA aR c P cA) (g : GS hB c P s.heap) (hA : OkA A d u) (hd : d < 990)
    (hcall : ∀ A' s₁, OkA A' (d + 1) (u + 3) → Rel noX noV s s₁ → wpD (model prog w) A' (call (.type kt.type) [it]) Q s₁) :
    wpD (model prog w) A (call (.ref aA) [.str kt.code t, it]) Q s := by
  have F := T.arr.keeps g.keep
  obtain ⟨o, pm, doc, dV, kV, h1, h2, h3, _⟩ := F.obj
  obtain ⟨Td, oT, dd, n, e1, e2, e3⟩ := h3 rfl
  subst e1
  refine wpD_call_user (dScope (stAt 1)) [Str.ofString "typecode", Str.ofString "values"] (Nat.lt_of_le_of_lt hA.depth (Nat.lt_trans hd (by decide))) h1 h2 (g.glb T).lim F.code rfl (BindsTo.of_defaults (binds := [(Str.ofString "typecode", .str kt.code t), (Str.ofString "values", it)]) rfl e2 e3 rfl rfl) rfl rfl rfl rfl arr_sc rfl (by decide +kernel) (fun env s₁ _ r ho F₁ => ?_) (by rfl) (by rfl)
  have g₁ : GS hB c P s₁.heap := g.rel T r fun _ _ q => q.elim
  have G₁ := g₁.glb T
  have hA' := hA.deeper env
  have go : ∀ (T : String) (hT : Value.type T = .type kt.type) (id : Str) (p p' p'' : Pos), mg id = none → bootBuiltins id = some (.type T) → (dScope (stAt 1)).names.lookup id = some .globalImplicit → (id == ("__debug__" : Str)) = false → id ≠ "__name__" → ∀ s₂, Rel noX noV s₁ s₂ →
      wpD (model prog w) (A.deeper env) (eval (.Call (.Name id p) [.Name (Str.ofString "values") p'] [] p'') env) (fun v s' => Q v s') s₂ := fun T' hT id p p' p'' hn hb hk hdb hne s₂ r₂ => by
    have g₂ : GS hB c P s₂.heap := g₁.rel T r₂ fun _ _ q => q.elim
    have F₂ := F₁.keep r₂
    refine wpD_Call (wpD_of (ev_builtin F₂ (g₂.glb T) hn hb hne ?_ hk hdb))
    refine wpD_callWith_type rfl (wpD_of (evalArgs_one rfl (ev_local F₂ rfl ?_ rfl)))
    rw [hT]
    exact hcall _ _ hA' (r.trans r₂)
  refine wpD_Return (wpD_IfExp (wpD_isTrue_Compare (wpD_of (ev_local F₁ rfl ?_ (by rfl)))))
  refine wpD_of (wpAny_Constant_str (wpD_of (wpAny_eq_str ?_)))
  refine wpD_of_eq (a := (kt.code.cps.toList == (Str.ofString "B").cps.toList)) rfl ⟨fun hb => ?_, fun hb => ?_⟩
  · cases kt with
    | B => exact go "bytearray" rfl _ _ _ _ (T.none _ (by simp)) (by with_unfolding_all rfl) (by rfl) (by decide) (by decide) _ Rel.tok
    | H => exact absurd hb (by decide)
  · cases kt with
    | B => exact absurd hb (by decide)
    | H => exact go "list" rfl _ _ _ _ (T.none _ (by simp)) (by with_unfolding_all rfl) (by rfl) (by decide) (by decide) _ Rel.tok
end
end Mine

/-! G5 -/
set_option linter.unusedVariables false
set_option maxRecDepth 100000
namespace Mine
open PySem PySem.W PyProof.Rows
open Sem (wp)

/-! expressions that only read -/
def EvV (M : Model) (A : Around) (env : Env) (h : Heap) (e : Expr) (v : Value) : Prop :=
  ∀ (s : Shared) (Q : Value → Shared → Prop) (E : Value → Shared → Prop), s.heap = h → (∀ tk, Q v { s with toks := tk }) → wpAny M A (eval e env) Q E s
def EvI (M : Model) (A : Around) (env : Env) (h : Heap) (e : Expr) (i : Int) : Prop :=
  ∀ (s : Shared) (Q : Value → Shared → Prop) (E : Value → Shared → Prop), s.heap = h → (∀ t tk, Q (.int i t) { s with toks := tk }) → wpAny M A (eval e env) Q E s

theorem intBits_le {x : Int} {n : Nat} (h : x.natAbs < 2 ^ n) : Builtin.Int.intBits x ≤ n := by
  unfold Builtin.Int.intBits
  split
  · exact Nat.zero_le _
  · rename_i hx
    have hx : x.natAbs ≠ 0 := by simp at hx; omega
    exact (Nat.log2_lt hx).mpr h
theorem mulOk_right {a b : Int} (h : b.natAbs < 2 ^ 64) : IntMulOk a b := by
  unfold IntMulOk
  have := intBits_le h
  have e : decide (Builtin.Int.intBits b > shortFactorBits) = false := by simp [shortFactorBits]; omega
  simp [e]
theorem mulOk_left {a b : Int} (h : a.natAbs < 2 ^ 64) : IntMulOk a b := IntMulOk.of_left (intBits_le h)

section
variable {prog : Program} {w : World} {A : Around} {env : Env} {h : Heap} {l r : Expr} {pos : Pos} {a b : Int}

theorem EvI.of {M : Model} {e : Expr} {i : Int} {t : Tok} (x : EvV M A env h e (.int i t)) : EvI M A env h e i := fun s Q E hs hq => x s Q E hs fun tk => hq t tk
theorem EvI.const {M : Model} {i : Int} {k : Nat} : EvI M A env h (.Constant (.int i) k pos) i := fun s Q E hs hq => wpAny_Constant_int (hq _ _)

theorem EvI.bin {op : Operator} {c : Int} (x : EvI (model prog w) A env h l a) (y : EvI (model prog w) A env h r b)
    (hop : ∀ (s : Shared) (t u : Tok) (Q : Value → Shared → Prop) (E : Value → Shared → Prop), Q (.int c s.toks) { s with toks := s.toks + 1 } → wpAny (model prog w) A (binaryOp op (.int a t) (.int b u)) Q E s) :
    EvI (model prog w) A env h (.BinOp l op r pos) c := fun s Q E hs hq =>
  wpAny_BinOp (x s _ _ hs fun t tk => y _ _ _ hs fun u tk' => hop _ _ _ _ _ (hq _ _))

theorem EvI.add (x : EvI (model prog w) A env h l a) (y : EvI (model prog w) A env h r b) : EvI (model prog w) A env h (.BinOp l .Add r pos) (a + b) :=
  x.bin y fun s t u Q E hq => AutoIntOps.add_0 hq
theorem EvI.sub (x : EvI (model prog w) A env h l a) (y : EvI (model prog w) A env h r b) : EvI (model prog w) A env h (.BinOp l .Sub r pos) (a - b) :=
  x.bin y fun s t u Q E hq => AutoIntOps.sub_0 hq
theorem EvI.mul (x : EvI (model prog w) A env h l a) (y : EvI (model prog w) A env h r b) (hm : IntMulOk a b) : EvI (model prog w) A env h (.BinOp l .Mult r pos) (a * b) :=
  x.bin y fun s t u Q E hq => AutoIntOps.mul_0 hq hm
theorem EvI.div (x : EvI (model prog w) A env h l a) (y : EvI (model prog w) A env h r b) (h0 : b ≠ 0) (hb : b.natAbs < 1073741824) : EvI (model prog w) A env h (.BinOp l .FloorDiv r pos) (a.fdiv b) :=
  x.bin y fun s t u Q E hq => AutoIntOps.floordiv_1 (by simpa using h0) (by rw [PyProof.noPylong_small hb]; simp) hq
theorem EvI.mod (x : EvI (model prog w) A env h l a) (y : EvI (model prog w) A env h r b) (h0 : b ≠ 0) : EvI (model prog w) A env h (.BinOp l .Mod r pos) (a.fmod b) :=
  x.bin y fun s t u Q E hq => AutoIntOps.mod_1 (by simpa using h0) hq
theorem EvI.pow {n : Nat} (x : EvI (model prog w) A env h l a) (y : EvI (model prog w) A env h r (n : Int)) (ha : 2 ≤ a) (ha2 : a.natAbs < 2 ^ 64) (hn : n ≤ 1000) : EvI (model prog w) A env h (.BinOp l .Pow r pos) (a ^ n) :=
  x.bin y fun s t u Q E hq => by
    by_cases h0 : n = 0
    · subst h0
      rw [Int.pow_zero] at hq
      exact AutoIntOps.pow_0 (by omega) (by rfl) hq
    · refine AutoIntOps.pow_4 (by omega) (by simpa using h0) (by simp; omega) (by simp; omega) ?_ ?_
      · have hb := intBits_le ha2
        have h1 : ((Builtin.Int.intBits a : Nat) : Int) * (n : Int) = ((Builtin.Int.intBits a * n : Nat) : Int) := by simp
        have h2 : Builtin.Int.intBits a * n ≤ 64 * 1000 := Nat.mul_le_mul hb hn
        have h3 : ((Builtin.Int.intBits a * n : Nat) : Int) ≤ ((64 * 1000 : Nat) : Int) := Int.ofNat_le.mpr h2
        rw [h1]
        unfold Builtin.Int.intTooBig
        simp only [decide_eq_true_eq]
        exact Int.not_lt.mpr (Int.le_trans h3 (by decide))
      · rw [Int.toNat_natCast]; exact hq

/-! subscripts -/
theorem wpAny_Subscript_of {E : Value → Shared → Prop} {s : Shared} {value e : Expr} {T id : String} {Q : Value → Shared → Prop}
    (hl : typeLookup (.type T) "__getitem__" = pure (some (.builtin id)))
    (h : wpAny (model prog w) A (eval value env) (fun o s₁ => wpAny (model prog w) A (eval e env) (fun i s₂ => s₂.TypeIs o T ∧ wpAny (model prog w) A (getItem o i) Q E s₂) E s₁) E s)
    (hsub : ∀ o i, subscripted e false o i = operate [o, i] (getItem o i) := by intro _ _; rfl) :
    wpAny (model prog w) A (eval (.Subscript value e pos) env) Q E s := by
  rw [eval_Subscript]
  refine wpAny_bind (wpAny_mono h (fun o s₁ h₁ => wpAny_bind (wpAny_holding (wpAny_mono h₁ (fun i s₂ h₂ => wpAny_bind (wpAny_standAt ?_)) fun _ _ x => x)))
    fun _ _ x => x)
  refine wpAny_bind ?_
  rw [getitemInPython_of_ne h₂.1.not_modules]
  refine wpAny_bind (wpAny_specialOf h₂.1 hl ?_)
  have fin : wpAny (model prog w) A (subscripted e false o i) (fun r s₃ => wpAny (model prog w) A (letTemporaryGo value o r >>= fun _ => pure r) Q E s₃) E s₂ := by
    rw [hsub]
    exact wpAny_operating (wpAny_mono h₂.2 (fun r s₃ h₃ => wpAny_bind (wpAny_letTemporaryGo (wpAny_pure h₃))) fun _ _ x => x)
  first
    | exact wpAny_pure (wpAny_bind fin)
    | exact wpAny_bind (wpAny_pure (wpAny_bind fin))
    | exact wpAny_bind fin

/-- l[i] of a list -/
theorem EvV.item {value e : Expr} {la : Addr} {items : Array Value} {i : Int} {x : Value} (xv : EvV (model prog w) A env h value (.ref la)) (hl : h.IsList la items) (y : EvI (model prog w) A env h e i)
    (h0 : 0 ≤ i) (hi : items[i.toNat]? = some x) (hz : i < 2 ^ 63)
    (hsub : ∀ o i, subscripted e false o i = operate [o, i] (getItem o i) := by intro _ _; rfl) :
    EvV (model prog w) A env h (.Subscript value e pos) x := fun s Q E hs hq => by
  subst hs
  refine wpAny_Subscript_of F.slot_list_getitem.lookup (xv s _ _ rfl fun tk => y _ _ _ rfl fun t tk' => ⟨?_, ?_⟩) hsub
  · exact hl.typeIs
  · exact wpAny_getItem_list hl h0 hz hi (hq _)
/-- l[-1] of a list -/
theorem EvV.itemNeg {value e : Expr} {la : Addr} {items : Array Value} {i : Int} {x : Value} (xv : EvV (model prog w) A env h value (.ref la)) (hl : h.IsList la items) (y : EvI (model prog w) A env h e i)
    (h0 : i < 0) (h1 : -(items.size : Int) ≤ i) (hi : items[(i + items.size).toNat]? = some x) (hz : -(2 ^ 63) ≤ i)
    (hsub : ∀ o i, subscripted e false o i = operate [o, i] (getItem o i) := by intro _ _; rfl) :
    EvV (model prog w) A env h (.Subscript value e pos) x := fun s Q E hs hq => by
  subst hs
  refine wpAny_Subscript_of F.slot_list_getitem.lookup (xv s _ _ rfl fun tk => y _ _ _ rfl fun t tk' => ⟨?_, ?_⟩) hsub
  · exact hl.typeIs
  · exact wpAny_getItem_list_neg hl h0 h1 hz hi (hq _)
/-- t[i] of a tuple -/
theorem EvV.tup {value e : Expr} {la : Addr} {items : Array Value} {i : Int} {j : Nat} {x : Value} (xv : EvV (model prog w) A env h value (.ref la)) (hl : PyProof.Rows.IsTup h la items) (y : EvI (model prog w) A env h e i)
    (h0 : -(2 ^ 63) ≤ i) (hz : i < 2 ^ 63) (hj : seqIndex? i items.size = some j) (hi : items[j]? = some x)
    (hsub : ∀ o i, subscripted e false o i = operate [o, i] (getItem o i) := by intro _ _; rfl) :
    EvV (model prog w) A env h (.Subscript value e pos) x := fun s Q E hs hq => by
  subst hs
  refine wpAny_Subscript_of F.slot_tuple_getitem.lookup (xv s _ _ rfl fun tk => y _ _ _ rfl fun t tk' => ⟨?_, ?_⟩) hsub
  · exact hl.typeIs
  · exact PyProof.Rows.getItem_tuple hl h0 hz hj hi (hq _)
end

section
variable {M : Model} {A : Around} {sc : Scope} {env : Env} {m mg mb : Str → Option Value} {h : Heap}
theorem EvV.local {x : Str} {pos : Pos} {v : Value} (F : Frm sc env h m) (hv : m x = some v) (hk : sc.names.lookup x = some .local := by rfl) (hd : (x == ("__debug__" : Str)) = false := by decide) : EvV M A env h (.Name x pos) v :=
  fun s Q E hs hq => by subst hs; exact ev_local F hv (hq s.toks) hk hd
theorem EvV.cell {x : Str} {pos : Pos} {v : Value} (F : Frm sc env h m) (hv : m x = some v) (hk : sc.names.lookup x = some .cell := by rfl) (hd : (x == ("__debug__" : Str)) = false := by decide) : EvV M A env h (.Name x pos) v :=
  fun s Q E hs hq => by subst hs; exact ev_cell F hv (hq s.toks) hk hd
theorem EvV.free {x : Str} {pos : Pos} {v : Value} (F : Frm sc env h m) (hv : m x = some v) (hk : sc.names.lookup x = some .free := by rfl) (hd : (x == ("__debug__" : Str)) = false := by decide) (hn : (x == ("__classdict__" : Str)) = false := by decide) : EvV M A env h (.Name x pos) v :=
  fun s Q E hs hq => by subst hs; exact ev_free F hv (hq s.toks) hk hd hn
end
end Mine

/-! G6 -/
set_option linter.unusedVariables false
set_option maxRecDepth 100000
namespace Mine
open PySem PySem.W PyProof.Rows
open Sem (wp)

theorem Walks.weakP {prog : Program} {w : World} {A : Around} {I : Addr} {fp wr : List Addr} {n : Nat} {P P' : Nat → Value → Prop} {St : Nat → Heap → Prop} {St' : Nat → Heap → Prop}
    (W : Walks prog w A I fp wr n P St) (hS : ∀ i h, St' i h → St i h) (hP : ∀ i h v, i < n → St' i h → P i v → P' i v) (hf : ∀ i h h', St' i h → (∀ b ∈ fp, ∀ o, h.get? b = some o → h'.get? b = some o) → St' i h')
    (hn : ∀ i h h', St' i h → St (i + 1) h' → (∀ b o, b ∉ wr → h.get? b = some o → h'.get? b = some o) → St' (i + 1) h') : Walks prog w A I fp wr n P' St' where
  sub := W.sub
  frame := hf
  item := fun i s Q E hi hst hQ => W.item i s Q E hi (hS _ _ hst) fun v h' tk hp hst' hk => hQ v h' tk (hP i _ v hi hst hp) (hn i _ _ hst hst' hk) hk
  done := fun s Q E hst hQ => W.done s Q E (hS _ _ hst) hQ
  self := fun i s Q E hst hQ => W.self i s Q E (hS _ _ hst) hQ

def Kd.itType : Kd → String
  | .B => "bytearray_iterator"
  | .H => "list_iterator"
theorem Kd.itOk (k : Kd) : ItType k.itType := by cases k; exact itType_ba; exact itType_list

/-- the ints of a list, place by place -/
def IntP (xs : List Int) (i : Nat) (v : Value) : Prop := ∃ t, v = .int (xs.getD i 0) t

section
variable {prog : Program} {w : World} {A : Around} {E : Value → Shared → Prop} {s : Shared}

/-- the iterator over a row of either kind -/
theorem row_iter {k : Kd} {a : Addr} {xs : List Int} {Q : Value → Shared → Prop} (r : RowAt k s.heap a xs)
    (h : ∀ (vsI : Array Value) (St : Nat → Heap → Prop), St 0 (s.heap.push { cls := .type k.itType, data := .fields vsI }) →
      (∀ i h', St i h' → ∃ o vs, h'.get? s.heap.objs.size = some o ∧ o.cls = .type k.itType ∧ o.data = .fields vs) →
      (∀ A' : Around, A'.handled = none → Walks prog w A' s.heap.objs.size [s.heap.objs.size, a] [s.heap.objs.size] xs.length (IntP xs) St) →
      Q (.ref s.heap.objs.size) { s with heap := s.heap.push { cls := .type k.itType, data := .fields vsI } }) :
    wpAny (model prog w) A (pyIter (.ref a)) Q E s := by
  have hne : a ≠ s.heap.objs.size := Nat.ne_of_lt r.lt
  cases k with
  | B =>
    obtain ⟨bs, hb, hx⟩ := r
    refine wpAny_pyIter_BA hb ?_
    refine h _ (fun i h => IsBAIter h s.heap.objs.size a i ∧ BA h a bs) ⟨⟨_, Heap.get?_push_size _ rfl, rfl, rfl⟩, Heap.get?_push_of_some _ hb⟩ (fun i h' st => let ⟨o, ho, hc, hd⟩ := st.1; ⟨o, _, ho, hc, hd⟩) fun A' hA => ?_
    have W := Walks_BA (prog := prog) (w := w) (A := A') hA s.heap.objs.size a hne bs
    have hn : xs.length = bs.size := by rw [← hx, bytesInts_length]
    rw [hn]
    exact Walks.weakP W (fun _ _ st => st) (fun i h v hi st ⟨t, e⟩ => ⟨t, by rw [e, ← hx, bytesInts_getD]⟩) (fun i h h' st hk => W.frame i h h' st hk) fun i h h' _ st _ => st
  | H =>
    obtain ⟨vs, hl, hv⟩ := r
    refine wpAny_pyIter_list hl.isList ?_
    refine h _ (fun i h => h.IsListIter s.heap.objs.size a i ∧ h.IsList a vs.toArray) ⟨⟨_, Heap.get?_push_size _ rfl, rfl, rfl⟩, hl.isList.at fun o e => Heap.get?_push_of_some _ e⟩ (fun i h' st => let ⟨o, ho, hc, hd⟩ := st.1; ⟨o, _, ho, hc, hd⟩) fun A' hA => ?_
    have W := Walks.list (prog := prog) (w := w) (A := A') hA s.heap.objs.size a hne vs.toArray
    obtain ⟨l1, l2⟩ := intsAre_at hv
    have hn : xs.length = vs.toArray.size := by rw [List.size_toArray, l1]
    rw [hn]
    refine Walks.weakP W (fun _ _ st => st) (fun i h v hi st e => ?_) (fun i h h' st hk => W.frame i h h' st hk) fun i h h' _ st _ => st
    obtain ⟨t, ht⟩ := l2 i (by rw [hn]; exact hi)
    refine ⟨t, ?_⟩
    rw [← ht]
    rw [List.size_toArray] at hi
    simp [hi] at e
    simp [List.getD, hi, e]

/-- what a walk that only touches wr and one generator leaves -/
theorem moved_rel {wr : List Addr} {s s' : Shared} (m : Moved wr (fun a b => b = a) s s') (z : Mono s s') : Rel (fun b _ => b ∈ wr) noV s s' :=
  ⟨fun b o e n => m.heap b o n e, z, fun k x _ e => by rw [m.gens]; exact e, fun b => by rw [m.gens]; exact b, m.os⟩
theorem movedQ_rel {wr : List Addr} {g : Nat} {s s' : Shared} (m : Moved wr (GenOnlyQ g) s s') (z : Mono s s') : Rel (fun b _ => b ∈ wr) (· = g) s s' := by
  refine ⟨fun b o e n => m.heap b o n e, z, fun k x hk e => ?_, fun hb => ?_, m.os⟩
  · rcases m.gens with h | ⟨h, _⟩
    · rw [h]; exact e
    · rw [h.2 k hk]; exact e
  · rcases m.gens with h | ⟨h, hg⟩
    · rw [h]; exact hb
    · intro x hx
      obtain ⟨i, hx⟩ := Array.mem_iff_getElem?.mp hx
      by_cases e : i = g
      · subst e; exact hg x hx
      · rw [h.2 i e] at hx; exact hb x (Array.mem_iff_getElem?.mpr ⟨i, hx⟩)
end

/-- an iterator that walks through n values -/
def Wk (prog : Program) (w : World) (d u : Nat) (I : Addr) (T : String) (n : Nat) (P : Nat → Value → Prop) (wr : List Addr) (G : Array GenState → Array GenState → Prop) (s : Shared) : Prop :=
  ∃ fp St, WalksS prog w (big d u) I fp wr G n P St ∧ St 0 s ∧ (∀ i s, St i s → ∃ o vs, s.heap.get? I = some o ∧ o.cls = .type T ∧ o.data = .fields vs) ∧ (∀ b ∈ fp, b < s.heap.objs.size) ∧ I ∈ fp ∧
    (∀ i s s', St i s → Rel noX noV s s' → St i s')
theorem Wk.keep {prog : Program} {w : World} {d u : Nat} {I : Addr} {T : String} {n : Nat} {P : Nat → Value → Prop} {wr : List Addr} {G : Array GenState → Array GenState → Prop} {s s' : Shared}
    (h : Wk prog w d u I T n P wr G s) (r : Rel noX noV s s') : Wk prog w d u I T n P wr G s' :=
  let ⟨fp, St, h1, h2, h3, h4, h5, h6⟩ := h
  ⟨fp, St, h1, h6 _ _ _ h2 r, h3, fun b hb => Nat.lt_of_lt_of_le (h4 b hb) r.mono.1, h5, h6⟩

/-! array(typecode, iter(row)) -/
section
variable {prog : Program} {w : World} {A : Around} {s : Shared} {d u : Nat}

theorem byteRun_ints {f : Nat → Int} {n : Nat} {ys : List Int} (hl : ys.length = n) (he : ∀ i, i < n → f i = ys.getD i 0) (hb : ∀ i, i < n → 0 ≤ f i ∧ f i < 256) : bytesInts (byteRun f n) = ys := by
  refine list_ext_getD (by rw [bytesInts_length, byteRun_size, hl]) fun j hj => ?_
  rw [bytesInts_length, byteRun_size] at hj
  rw [bytesInts_getD]
  obtain ⟨h0, h1⟩ := hb j hj
  rw [← he j hj]
  have e : (byteRun f n).getD j 0 = (f j).toNat.toUInt8 := by
    unfold byteRun
    simp [Array.getD_eq_getD_getElem?, hj]
  rw [e]
  have : (f j).toNat < 256 := by omega
  simp [Nat.mod_eq_of_lt this]
  omega

/-- the constructor of either kind over a walk of ints -/
theorem wpD_make {kt : Kd} {T : String} {I : Addr} {wr : List Addr} {G : Array GenState → Array GenState → Prop} {n d' u' : Nat} {ys : List Int} {Q : Value → Shared → Prop}
    (hA : OkA A d u) (hd' : d ≤ d') (hu' : u + 2 ≤ u') (hT : T = "generator" ∨ T = "list_iterator" ∨ (T = "bytearray_iterator" ∧ kt = .B)) (W : Wk prog w d' u' I T n (IntP ys) wr G s) (hl : ys.length = n) (hn : n ≤ sizeLine)
    (hb : kt = .B → ∀ i, i < n → 0 ≤ ys.getD i 0 ∧ ys.getD i 0 < 256)
    (hQ : ∀ s₁ s', Rel noX noV s s₁ → s₁.gens = s.gens → Moved (s.heap.objs.size :: wr) G s₁ s' → Mono s₁ s' → RowAt kt s'.heap s.heap.objs.size ys → Q (.ref s.heap.objs.size) s') :
    wpD (model prog w) A (call (.type kt.type) [.ref I]) Q s := by
  obtain ⟨fp, St, W, hst, hTy, hfp, hI, _⟩ := W
  have hA2 : OkA A.in1.in1 d' u' := hA.in1.in1.mono hd' hu'
  have W' := walksS_big hA2 W
  obtain ⟨oI, vsI, hI1, hI2, hI3⟩ := hTy 0 s hst
  refine wpD_grow ?_
  cases kt with
  | B =>
    have tT : ItType T := by
      rcases hT with h | h | ⟨h, _⟩
      · rw [h]; exact itType_gen
      · rw [h]; exact itType_list
      · rw [h]; exact itType_ba
    refine wpD_bytearray (f := fun i => ys.getD i 0) hA.guards tT hI1 hI2 hI3 W' hst (fun i v hi ⟨t, e⟩ => ⟨⟨t, e⟩, hb rfl i hi⟩) hfp hn fun s' hm hS' mz => ?_
    exact hQ _ s' (Rel.push (tk := s.toks)) rfl hm ⟨by rw [Heap.size_push]; exact (Heap.lt_size hS' : _ < _), by first | exact mz.2 | exact hm.2⟩ ⟨_, hS', byteRun_ints hl (fun i hi => rfl) (hb rfl)⟩
  | H =>
    have fin : ∀ s' acc' c', Moved (s.heap.objs.size :: wr) G { s with heap := s.heap.push { cls := .type "list", data := .seq #[] } } s' →
      s'.heap.get? s.heap.objs.size = some { cls := .type "list", dict := none, data := .seq acc' c', slots := #[] } → ItemsOf (IntP ys) acc' n → Mono s s' → Q (.ref s.heap.objs.size) s' := fun s' acc' c' hm hS' hacc mz => by
      refine hQ _ s' (Rel.push (tk := s.toks)) rfl hm ⟨by rw [Heap.size_push]; exact (Heap.lt_size hS' : _ < _), mz.2⟩ ⟨acc'.toList, ⟨c', hS'⟩, ?_⟩
      obtain ⟨z1, z2⟩ := hacc
      refine intsAre_of (by rw [Array.length_toList, z1, hl]) fun j hj => ?_
      have hj' : j < acc'.size := by rw [z1, ← hl]; exact hj
      obtain ⟨t, e⟩ := z2 j acc'[j] (by simp [hj'])
      exact ⟨t, by simpa [List.getD, hj'] using e⟩
    rcases hT with h | h | ⟨_, h⟩
    · subst h
      exact wpD_of (call_list_gen (A := A) W' (fun i s st => let ⟨o, _, h1, h2, _⟩ := hTy i s st; ⟨o, h1, h2⟩) hst hfp hI fin hn)
    · subst h
      exact wpD_of (call_list_li (A := A) W' (fun i s st => let ⟨o, _, h1, h2, _⟩ := hTy i s st; ⟨o, h1, h2⟩) hst hfp hI fin hn)
    · cases h
end
end Mine

/-! S2 -/
set_option linter.unusedVariables false
set_option maxRecDepth 100000
namespace Mine
open PySem PySem.W PyProof.Rows
open Sem (wp)

theorem sub_gen_set : isSubtype (.type "generator") (.type "set") = pure false := by rw [isSubtype_type]; kernel_rfl
theorem sub_gen_frozenset : isSubtype (.type "generator") (.type "frozenset") = pure false := by rw [isSubtype_type]; kernel_rfl
theorem slot_set_iter : Slot "set" "__iter__" "set.__iter__" :=
  .of (owner := "set") (n := "__iter__") (by rw [typeLookup_type, builtinLookup_eq_fast]; kernel_rfl) (by decide +kernel) (by decide +kernel) (by decide +kernel)
    (by first | exact .inl (by decide +kernel) | exact .inr (by decide +kernel)) (by rw [isSubtype_type]; kernel_rfl)
theorem slot_si_next : Slot "set_iterator" "__next__" "set_iterator.__next__" :=
  .of (owner := "set_iterator") (n := "__next__") (by rw [typeLookup_type, builtinLookup_eq_fast]; kernel_rfl) (by decide +kernel) (by decide +kernel) (by decide +kernel)
    (by first | exact .inl (by decide +kernel) | exact .inr (by decide +kernel)) (by rw [isSubtype_type]; kernel_rfl)
theorem entry_set_iter : entryFor table "set.__iter__" = some Builtin.«frozenset.__iter__» := entryFor_alias (id' := "frozenset.__iter__") (by kernel_rfl) rfl (by decide +kernel) (by kernel_rfl)
theorem entry_si_next : entryFor table "set_iterator.__next__" = some Builtin.«set_iterator.__next__» := by first | exact entryFor_of_tree (by kernel_rfl) | exact entryFor_of_fast (by kernel_rfl)
theorem args_set_iter (a : Value) : argsOk "set.__iter__" ⟨[a], []⟩ := by unfold argsOk; kernel_rfl
theorem args_si_next (a : Value) : argsOk "set_iterator.__next__" ⟨[a], []⟩ := by unfold argsOk; kernel_rfl

section
variable {prog : Program} {w : World} {A : Around} {E : Value → Shared → Prop} {s : Shared}

/-- what has been put in after i turns -/
def SetAfter (prog : Program) (w : World) (v : Int) (i : Nat) (h : Heap) (a : Addr) : Prop := (i = 0 → SetEmpty w h a) ∧ (i ≠ 0 → SetOne prog w h a v)

theorem set_update_loop {R : Result → Shared → Prop} {I : Addr} {fp wr : List Addr} {G : Array GenState → Array GenState → Prop} {n : Nat} {P : Nat → Value → Prop} {St : Nat → Shared → Prop} {v : Int}
    (W : WalksS prog w A.in1 I fp wr G n P St) (S : Addr) (hSf : S ∉ fp) (hval : ∀ i x, P i x → i < n → ∃ t, x = .int v t) :
    ∀ (k i : Nat) (s : Shared), n - i = k → i ≤ n → St i s → SetAfter prog w v i s.heap S →
      (∀ s', Moved (S :: wr) G s s' → SetAfter prog w v n s'.heap S → R (.ok (.ret .none)) s') → codeAny (model prog w) A (.builtin "set.update.loop" ⟨[.ref S, .ref I], []⟩) R s := by
  have hSw : S ∉ wr := fun h => hSf (W.sub _ h)
  have hsub : ∀ b ∈ wr, b ∈ S :: wr := fun b hb => List.mem_cons_of_mem _ hb
  have mv : ∀ i (s s' : Shared), Moved wr G s s' → SetAfter prog w v i s.heap S → SetAfter prog w v i s'.heap S := fun i s s' hm hS => by
    refine ⟨fun h => hm.heap S _ hSw (hS.1 h), fun h => ?_⟩
    obtain ⟨tok, ep, t, ho, r⟩ := hS.2 h
    exact ⟨tok, ep, t, hm.heap S _ hSw ho, r⟩
  intro k
  induction k with
  | zero =>
    intro i s hk hi hst hS hR
    have hin : i = n := by omega
    subst hin
    refine codeAny_builtin F.entry_set_update_loop ?_
    rw [Around.under_plainId F.plain_set_update_loop _]
    show wpAny _ A.in1 (pyNext (.ref I) >>= _) _ _ s
    refine wpAny_bind (W.done s _ _ hst fun s' hm => ?_)
    show wpAny _ A.in1 (ret Value.none) _ _ s'
    exact wpAny_pure (hR s' (hm.mono hsub) (mv _ _ _ hm hS))
  | succ k ih =>
    intro i s hk hi hst hS hR
    have hlt : i < n := by omega
    refine codeAny_builtin F.entry_set_update_loop ?_
    rw [Around.under_plainId F.plain_set_update_loop _]
    show wpAny _ A.in1 (pyNext (.ref I) >>= _) _ _ s
    refine wpAny_bind (W.item i s _ _ hlt hst fun x s' hP hst' hm => ?_)
    obtain ⟨t, rfl⟩ := hval i x hP hlt
    have hS' := mv _ _ _ hm hS
    show wpAny _ A.in1 (holding [Value.int v t] (setAdd S (.int v t)) >>= _) _ _ s'
    have next : ∀ h', Heap.SameBut S s'.heap h' → SetAfter prog w v (i + 1) h' S → codeAny (model prog w) A (.builtin "set.update.loop" ⟨[.ref S, .ref I], []⟩) R { s' with heap := h', toks := s'.toks + 1 } := fun h' hsb hSi => by
      refine ih (i + 1) _ (by omega) hlt (W.frame _ s' _ _ hst' (Nat.le_succ _) fun b hb o e => ?_) hSi fun s'' hm'' hS'' => ?_
      · rw [hsb.2 b (fun h : b = S => hSf (by rw [← h]; exact hb))]; exact e
      · refine hR s'' (Moved.trans W.gtrans ((hm.mono hsub).then_heap (Nat.le_succ _) fun b o hb e => ?_) hm'') hS''
        rw [hsb.2 b (fun h : b = S => hb (by rw [h]; exact List.mem_cons_self))]; exact e
    refine wpAny_bind (wpAny_holding ?_)
    by_cases h0 : i = 0
    · exact setAdd_first (hS'.1 h0) fun h' hsb hone => wpAny_pure ⟨plainId_quiet F.plain_set_update_loop _, next h' hsb ⟨fun q => absurd q (Nat.succ_ne_zero _), fun _ => hone⟩⟩
    · exact setAdd_again (hS'.2 h0) (wpAny_pure ⟨plainId_quiet F.plain_set_update_loop _, next s'.heap (Heap.SameBut.refl _ _) ⟨fun q => absurd q (Nat.succ_ne_zero _), fun _ => hS'.2 h0⟩⟩)

theorem code_set_new_led (a : Value) {Q₁ : Value → Shared → Prop}
    (h : Q₁ (.ref s.heap.objs.size) { s with heap := s.heap.push { cls := .type "set", dict := none, data := .set #[] 0 (.fresh 0 0 (!byText w)) } }) :
    codeAny (model prog w) A (.call (.builtin "set.__new__") ⟨[.type "set", a], []⟩) (wants Q₁ E) s := by
  refine codeAny_of_tree ?_
  show wpAny _ A.in1 (do checkBuiltinCall "set.__new__" ⟨[.type "set", a], []⟩; again (.builtin "set.__new__" ⟨[.type "set", a], []⟩)) _ _ s
  refine wpAny_bind (wpAny_of_eq (F.newCall_set_1 a) (wpAny_pure ⟨plainId_quiet F.plain_set_new _, codeAny_builtin F.entry_set_new ?_⟩))
  rw [Around.under_plainId F.plain_set_new _]
  unfold Builtin.«set.__new__» Builtin.Frozenset.newClass
  have hsub := sub_set_self
  obtain ⟨hp, g, d, tk, os⟩ := s
  dsimp only
  wp_walk
  refine wpAny_askSetting (wpAny_pure ?_)
  dsimp only
  simp only [newObj]
  refine wpAny_bind (wpAny_alloc (wpAny_pure ?_))
  exact wpAny_pure h

set_option maxHeartbeats 3200000 in
/-- set(gen), the generator's values all one int -/
theorem call_set_gen {I : Addr} {wr : List Addr} {G : Array GenState → Array GenState → Prop} {n d u : Nat} {v : Int} {Q : Value → Shared → Prop} (hA : OkA A d u)
    (W : Wk prog w d (u + 5) I "generator" n (fun i x => ∃ t, x = .int v t) wr G s) (hn : 0 < n)
    (h : ∀ s₁ s', Rel noX noV s s₁ → s₁.gens = s.gens → Moved (s.heap.objs.size :: wr) G s₁ s' → Mono s₁ s' → SetOne prog w s'.heap s.heap.objs.size v → Q (.ref s.heap.objs.size) s') :
    wpAny (model prog w) A (call (.type "set") [.ref I]) Q E s := by
  obtain ⟨fp, St, W, hst, hTy, hfp, hI, _⟩ := W
  refine wpAny_grow ?_
  obtain ⟨c, tl, hmro⟩ := F.called_set.mro
  have hmade := F.called_set.made
  have hsub := F.called_set.sub
  refine wpAny_call (codeAny_of_tree ?_)
  show wpAny _ _ (callAny (.type "set") _) _ _ _
  refine wpAny_pure ⟨Code.quiet_builtin _ (by decide +kernel), codeAny_builtin F.entry_type_call ?_⟩
  rw [Around.under_plain (weight_type_call_type "set" [.ref I] []) rfl]
  have h1 := F.called_set.notType
  have h2 := F.called_set.canCreate
  have hct := F.typeCall_set_1 (.ref I)
  repeat (any_goals (first | assumption | wp_step))

  refine codeAny_mono (code_set_new_led (.ref I) (E := E) (Q₁ := fun obj s₁ => obj = .ref s.heap.objs.size ∧ s₁ = { s with heap := s.heap.push { cls := .type "set", dict := none, data := .set #[] 0 (.fresh 0 0 (!byText w)) } }) ⟨rfl, rfl⟩) fun r s₁ hr => ?_
  cases r with
  | error e => exact hr
  | ok fl =>
    cases fl with
    | ret obj =>
      obtain ⟨rfl, rfl⟩ := hr
      generalize hled : (!byText w) = led
      have hS : (s.heap.push { cls := .type "set", dict := none, data := .set #[] 0 (.fresh 0 0 led) }).get? s.heap.objs.size = some { cls := .type "set", dict := none, data := .set #[] 0 (.fresh 0 0 led) } := Heap.get?_push_size _ rfl
      have hk : ∀ b o, s.heap.get? b = some o → (s.heap.push { cls := .type "set", dict := none, data := .set #[] 0 (.fresh 0 0 led) }).get? b = some o := fun b o e => Heap.get?_push_of_some _ e
      have hT : Shared.TypeIs { s with heap := s.heap.push { cls := .type "set", dict := none, data := .set #[] 0 (.fresh 0 0 led) } } (.ref s.heap.objs.size) "set" := ⟨_, hS, rfl⟩
      have hli := F.called_set.init.lookup
      have hbi := F.called_set.init.bind (.ref s.heap.objs.size)
      repeat (any_goals (first | assumption | wp_step))

      refine codeAny_mono (codeAny_call_builtin (R := wants (fun r s₂ => r = .none ∧ Moved (s.heap.objs.size :: wr) G { s with heap := s.heap.push { cls := .type "set", dict := none, data := .set #[] 0 (.fresh 0 0 led) } } s₂ ∧ SetOne prog w s₂.heap s.heap.objs.size v) E) F.called_set.init.plain F.entry_set_init (check_set_init_1 hT ?_)) fun r₂ s₂ hr₂ => ?_
      · have st₁ : St 0 { s with heap := s.heap.push { cls := .type "set", dict := none, data := .set #[] 0 (.fresh 0 0 led) } } := W.frame 0 s _ s.toks hst (Nat.le_refl _) fun b _ o e => hk b o e
        obtain ⟨oI, vsI, hI1, hI2, hI3⟩ := hTy 0 _ st₁
        obtain ⟨ocls, odict, odata, oslots⟩ := oI
        simp only at hI2 hI3
        subst hI2; subst hI3
        have hsls := sub_gen_set
        have hslf := sub_gen_frozenset
        have hne : (Value.type "generator" == Value.type "dict") = false := by decide
        unfold Builtin.«set.__init__» noKeywords Builtin.Frozenset.updateFrom
        generalize hPI : pyIter = PI
        wp_walk
        subst hPI
        have hA2 : OkA A.in1.in1 d (u + 5) := hA.in1.in1.mono (Nat.le_refl _) (by omega)
        have hA3 : OkA A.in1.in1.in1 d (u + 5) := hA.in1.in1.in1.mono (Nat.le_refl _) (by omega)
        have hSf : s.heap.objs.size ∉ fp := fun hm => Nat.lt_irrefl _ (hfp _ hm)
        refine (walksS_big hA2 W).self 0 _ _ _ st₁ ?_
        refine wpAny_bind (wpAny_runValue ?_)
        refine set_update_loop (v := v) (walksS_big hA3 W) s.heap.objs.size hSf (fun i x hx _ => hx) n 0 _ (Nat.sub_zero _) (Nat.zero_le _) st₁ ⟨fun _ => by rw [SetEmpty, hled]; exact hS, fun q => absurd rfl q⟩ fun s' hm hS' => ?_
        show wpAny _ _ _ _ _ _
        refine wpAny_pure ?_
        show wpAny _ _ (ret Value.none) _ _ _
        exact wpAny_pure ⟨rfl, hm, hS'.2 (Nat.ne_of_gt hn)⟩
      · cases r₂ with
        | error e => exact hr₂
        | ok fl₂ =>
          cases fl₂ with
          | ret r =>
            obtain ⟨rfl, hm, hone⟩ := hr₂
            repeat (any_goals (first | assumption | wp_step))
            intro mz
            refine h _ _ (Rel.push (tk := s.toks)) rfl hm ⟨?_, ?_⟩ hone
            · obtain ⟨_, _, _, ho, _⟩ := hone
              rw [Heap.size_push]; exact (Heap.lt_size ho : _ < _)
            · exact mz.2
          | _ => exact hr₂.elim
    | _ => exact hr.elim
end
end Mine

/-! S3 -/
set_option linter.unusedVariables false
set_option maxRecDepth 100000
namespace Mine
open PySem PySem.W PyProof.Rows
open Sem (wp)

section
variable {prog : Program} {w : World} {A : Around} {E : Value → Shared → Prop} {s : Shared}

theorem SetOne.typeIs {a : Addr} {v : Int} (x : SetOne prog w s.heap a v) : s.TypeIs (.ref a) "set" := let ⟨_, _, _, ho, _⟩ := x; ⟨_, ho, rfl⟩
theorem SetOne.at {h h' : Heap} {a : Addr} {v : Int} (x : SetOne prog w h a v) (hk : ∀ o, h.get? a = some o → h'.get? a = some o) : SetOne prog w h' a v := let ⟨tok, ep, t, ho, r⟩ := x; ⟨tok, ep, t, hk _ ho, r⟩

theorem len_one {a : Addr} {v : Int} {Q : Value → Shared → Prop} (x : SetOne prog w s.heap a v) (h : ∀ t tk, Q (.int 1 t) { s with toks := tk }) : wpAny (model prog w) A (call (.builtin "len") [.ref a]) Q E s := by
  obtain ⟨tok, ep, t, ho, hf, _⟩ := x
  exact call_len_set ho ⟨rfl, rfl, rfl⟩ rfl hf (by show ((1 : Nat) : Int) < 2 ^ 63; decide) (h _ _)

theorem below_zero (xs : Array Nat) (h : xs.size = 1) : SetTable.below xs 0 = 0 := by
  unfold SetTable.below
  rw [h]
  simp [SetTable.below.go]
theorem below_next (xs : Array Nat) (h : xs.size = 1) (j : Nat) (hj : xs[0]? = some j) : SetTable.below xs (j + 1) = 1 := by
  unfold SetTable.below
  rw [h]
  have : xs.getD 0 (j + 1) = j := by simp [Array.getD_eq_getD_getElem?, hj]
  simp [SetTable.below.go, this]

/-- what a set iterator is: at the first or after the last -/
def SetIt (h : Heap) (I S : Addr) (fst i ep : Nat) : Prop := ∃ o, h.get? I = some o ∧ o.cls = .type "set_iterator" ∧ o.data = .fields #[.int fst 0, .int i 0, .ref S, .int 1 0, .int ep 0]

theorem pick_one (f : Nat → Nat) (e : Int × Value) : pickOrder f #[e] = #[e] := by
  unfold pickOrder
  have h : f 0 % [e].length = 0 := by simp [Nat.mod_one]
  show pickOrder.go f 1 0 [e] #[] = _
  unfold pickOrder.go
  rw [h]
  simp [pickOrder.go]

theorem SetOne.open_ {h : Heap} {a : Addr} {v : Int} (x : SetOne prog w h a v) : ∃ es tok ep t, es = #[((intKind prog w).hash v, Value.int v tok)] ∧ h.get? a = some { cls := .type "set", data := .set es ep t } ∧ t.fits es.size = true ∧ t.led = !byText w :=
  let ⟨tok, ep, t, h1, h2, h3⟩ := x; ⟨_, tok, ep, t, rfl, h1, h2, h3⟩

section
variable {a : Addr} {es : Array (Int × Value)} {ep : Nat} {t : SetTable}

theorem iter_one {Q : Value → Shared → Prop} (ho : s.heap.get? a = some { cls := .type "set", data := .set es ep t }) (hf : t.fits es.size = true) (h1 : es.size = 1)
    (h : Q (.ref s.heap.objs.size) { s with heap := s.heap.push { cls := .type "set_iterator", data := .fields #[.int 0 0, .int 0 0, .ref a, .int 1 0, .int ep 0] } }) : wpAny (model prog w) A (pyIter (.ref a)) Q E s := by
  have hT : s.TypeIs (.ref a) "set" := ⟨_, ho, rfl⟩
  refine wpAny_pyIter_slot hT slot_set_iter (wpAny_call_entry slot_set_iter hT entry_set_iter ?_ (args_set_iter _))
  unfold Builtin.«frozenset.__iter__» Builtin.Frozenset.slot0
  refine wpAny_bind (wpAny_bind (wpAny_of_eq (a := (.ref a, [])) rfl ?_))
  refine wpAny_of_eq (a := a) rfl ?_
  unfold Builtin.Frozenset.sizeOf setEntries
  refine wpAny_bind (wpAny_bind (wpAny_bind (wpAny_setState_of ho rfl hf ?_)))
  refine wpAny_pure (wpAny_pure ?_)
  unfold setDrawn
  refine wpAny_bind (wpAny_bind (wpAny_setState_of ho rfl hf ?_))
  unfold setsByText
  refine wpAny_bind (wpAny_bind (wpAny_askSetting (wpAny_pure ?_)))
  refine wpAny_pure ?_
  refine wpAny_if_false (by show (!_ && (!t.plain && decide (es.size > 1))) = false; simp [h1]) ?_
  refine wpAny_bind (wpAny_pure ?_)
  unfold setEpoch
  refine wpAny_bind (wpAny_bind (wpAny_setState_of ho rfl hf (wpAny_pure ?_)))
  show wpAny _ _ (newFields "set_iterator" [rawInt 0, rawInt 0, .ref a, rawInt es.size, rawInt ep] >>= _) _ _ _
  rw [h1]
  exact wpAny_bind (wpAny_newObj_type (wpAny_pure ⟨_, rfl, "set_iterator", _, ⟨_, Heap.get?_push_size _ rfl, rfl⟩, slot_si_next.lookup, h⟩))

theorem setNext_first {e : Int × Value} {Q : Option (Value × Nat) → Shared → Prop} (ho : s.heap.get? a = some { cls := .type "set", data := .set #[e] ep t }) (hf : t.fits 1 = true) (hl : t.led = !byText w) (h : ∀ j, (byText w = false → t.place[0]? = some (j - 1) ∧ 0 < j) → (byText w = true → j = 0) → Q (some (e.2, j)) s) :
    wpAny (model prog w) A (setNext a 0 0 ep) Q E s := by
  unfold setNext
  refine wpAny_bind (wpAny_setState_of ho rfl hf ?_)
  unfold setsByText
  refine wpAny_bind (wpAny_bind (wpAny_askSetting (wpAny_pure ?_)))
  show wpAny _ _ (if byText w = true then _ else _) _ _ _
  cases hb : byText w with
  | true =>
    refine wpAny_if_true rfl ?_
    refine wpAny_if_false (by simp) ?_
    unfold setWalk setsByText
    refine wpAny_bind (wpAny_bind (wpAny_setState_of ho rfl hf ?_))
    refine wpAny_bind (wpAny_bind (wpAny_askSetting (wpAny_pure ?_)))
    show wpAny _ _ (if byText w = true then _ else _) _ _ _
    rw [hb]
    refine wpAny_if_true rfl ?_
    refine wpAny_bind (wpAny_askSetting (wpAny_pure ?_))
    dsimp only
    rw [pick_one]
    exact wpAny_pure (h 0 (fun q => by rw [hb] at q; cases q) fun _ => rfl)
  | false =>
    refine wpAny_if_false rfl ?_
    have hs : t.place.size = 1 := by
      unfold SetTable.fits at hf
      simp only [Bool.and_eq_true, beq_iff_eq] at hf
      exact hf.1
    refine wpAny_if_false (by show (!t.plain && decide ((#[e] : Array (Int × Value)).size > 1)) = false; simp) ?_
    rw [hb] at hl
    have hled : t.led = true := by simpa using hl
    refine wpAny_bind (m := if (!t.led && !(#[e] : Array (Int × Value)).isEmpty) = true then unsupported "set:maker-not-led" else pure ()) ?_
    refine wpAny_if_false (by rw [hled]; rfl) (wpAny_pure ?_)
    rw [below_zero _ hs]
    have hp : t.place[0]? = some t.place[0] := by simp [hs]
    dsimp only
    rw [hp]
    exact wpAny_pure (h _ (fun _ => ⟨by simp [hs], Nat.succ_pos _⟩) fun q => by rw [hb] at q; cases q)

theorem setNext_end {e : Int × Value} {j : Nat} {Q : Option (Value × Nat) → Shared → Prop} (ho : s.heap.get? a = some { cls := .type "set", data := .set #[e] ep t }) (hf : t.fits 1 = true) (hl : t.led = !byText w)
    (hj : byText w = false → t.place[0]? = some (j - 1) ∧ 0 < j) (h : Q none s) :
    wpAny (model prog w) A (setNext a j 1 ep) Q E s := by
  unfold setNext
  refine wpAny_bind (wpAny_setState_of ho rfl hf ?_)
  unfold setsByText
  refine wpAny_bind (wpAny_bind (wpAny_askSetting (wpAny_pure ?_)))
  show wpAny _ _ (if byText w = true then _ else _) _ _ _
  cases hb : byText w with
  | true =>
    refine wpAny_if_true rfl ?_
    refine wpAny_if_false (by simp) ?_
    unfold setWalk setsByText
    refine wpAny_bind (wpAny_bind (wpAny_setState_of ho rfl hf ?_))
    refine wpAny_bind (wpAny_bind (wpAny_askSetting (wpAny_pure ?_)))
    show wpAny _ _ (if byText w = true then _ else _) _ _ _
    rw [hb]
    refine wpAny_if_true rfl ?_
    refine wpAny_bind (wpAny_askSetting (wpAny_pure ?_))
    dsimp only
    rw [pick_one]
    exact wpAny_pure h
  | false =>
    refine wpAny_if_false rfl ?_
    have hs : t.place.size = 1 := by
      unfold SetTable.fits at hf
      simp only [Bool.and_eq_true, beq_iff_eq] at hf
      exact hf.1
    refine wpAny_if_false (by show (!t.plain && decide ((#[e] : Array (Int × Value)).size > 1)) = false; simp) ?_
    rw [hb] at hl
    have hled : t.led = true := by simpa using hl
    refine wpAny_bind (m := if (!t.led && !(#[e] : Array (Int × Value)).isEmpty) = true then unsupported "set:maker-not-led" else pure ()) ?_
    refine wpAny_if_false (by rw [hled]; rfl) (wpAny_pure ?_)
    obtain ⟨j1, j2⟩ := hj hb
    have : SetTable.below t.place j = 1 := by
      have := below_next t.place hs (j - 1) j1
      rwa [Nat.sub_add_cancel j2] at this
    rw [this]
    exact wpAny_pure h
end

theorem next_first {I a : Addr} {e : Int × Value} {ep : Nat} {t : SetTable} {Q : Option Value → Shared → Prop} (hI : s.heap.get? I = some { cls := .type "set_iterator", data := .fields #[.int 0 0, .int 0 0, .ref a, .int 1 0, .int ep 0] })
    (ho : s.heap.get? a = some { cls := .type "set", data := .set #[e] ep t }) (hf : t.fits 1 = true) (hl : t.led = !byText w) (hne : I ≠ a)
    (h : ∀ h' (j : Nat), (byText w = false → t.place[0]? = some (j - 1) ∧ 0 < j) → (∀ b, b ≠ I → h'.get? b = s.heap.get? b) → h'.objs.size = s.heap.objs.size → h'.get? I = some { cls := .type "set_iterator", data := .fields #[.int (j : Int) 0, .int 1 0, .ref a, .int 1 0, .int ep 0] } → Q (some e.2) { s with heap := h' }) :
    wpAny (model prog w) A (pyNext (.ref I)) Q E s := by
  have hTI : s.TypeIs (.ref I) "set_iterator" := ⟨_, hI, rfl⟩
  unfold pyNext
  refine wpAny_bind (wpAny_attempt (wpAny_callSpecial?_slot (name := Str.ofString "__next__") hTI slot_si_next
    (wpAny_call_entry slot_si_next hTI entry_si_next ?_ (args_si_next _))))
  unfold Builtin.«set_iterator.__next__»
  refine wpAny_bind (wpAny_of_eq (a := (.ref I, [])) rfl ?_)
  refine wpAny_bind (wpAny_fieldsOf hI rfl ?_)
  dsimp only
  unfold setEntries
  refine wpAny_bind (wpAny_bind (wpAny_setState_of ho rfl hf (wpAny_pure ?_)))
  refine wpAny_if_false (by simp) ?_
  have e0 : (0 : Int).toNat = 0 := rfl
  have e1 : ((ep : Int)).toNat = ep := Int.toNat_natCast ep
  rw [e0, e1]
  refine wpAny_bind (setNext_first ho hf hl fun j hj1 hj2 => ?_)
  refine wpAny_bind (wpAny_setField hI rfl (by simp) ?_)
  have hI' := Heap.get?_update_self (Obj.mapFields fun vs => vs.setIfInBounds 0 (rawInt (j : Int))) hI (by rfl)
  refine wpAny_bind (wpAny_setField (o := { cls := .type "set_iterator", data := .fields #[.int (j : Int) 0, .int 0 0, .ref a, .int 1 0, .int ep 0] }) hI' rfl (by simp) ?_)
  refine wpAny_pure ⟨_, rfl, wpAny_pure (h _ j hj1 (fun b hb => ?_) ?_ ?_)⟩
  · rw [Heap.get?_update_other _ _ (Ne.symm hb), Heap.get?_update_other _ _ (Ne.symm hb)]
  · rw [size_update, size_update]
  · exact Heap.get?_update_self (Obj.mapFields fun vs => vs.setIfInBounds 1 (rawInt (0 + 1))) hI' (by rfl)

theorem next_end {I a : Addr} {e : Int × Value} {ep j : Nat} {t : SetTable} {Q : Option Value → Shared → Prop} (hh : A.handled = none) (hI : s.heap.get? I = some { cls := .type "set_iterator", data := .fields #[.int (j : Int) 0, .int 1 0, .ref a, .int 1 0, .int ep 0] })
    (ho : s.heap.get? a = some { cls := .type "set", data := .set #[e] ep t }) (hf : t.fits 1 = true) (hl : t.led = !byText w) (hj : byText w = false → t.place[0]? = some (j - 1) ∧ 0 < j)
    (hQ : ∀ h', Heap.ExtBut I s.heap h' → Q none { s with heap := h' }) :
    wpAny (model prog w) A (pyNext (.ref I)) Q E s := by
  have hTI : s.TypeIs (.ref I) "set_iterator" := ⟨_, hI, rfl⟩
  unfold pyNext
  refine wpAny_bind (wpAny_attempt (wpAny_callSpecial?_slot (name := Str.ofString "__next__") hTI slot_si_next
    (wpAny_call_entry slot_si_next hTI entry_si_next ?_ (args_si_next _))))
  unfold Builtin.«set_iterator.__next__»
  refine wpAny_bind (wpAny_of_eq (a := (.ref I, [])) rfl ?_)
  refine wpAny_bind (wpAny_fieldsOf hI rfl ?_)
  dsimp only
  unfold setEntries
  refine wpAny_bind (wpAny_bind (wpAny_setState_of ho rfl hf (wpAny_pure ?_)))
  refine wpAny_if_false (by simp) ?_
  have e0 : (1 : Int).toNat = 1 := rfl
  have e1 : ((ep : Int)).toNat = ep := Int.toNat_natCast ep
  have e2 : ((j : Int)).toNat = j := Int.toNat_natCast j
  rw [e0, e1, e2]
  refine wpAny_bind (setNext_end ho hf hl hj ?_)
  refine wpAny_bind (wpAny_setField hI rfl (by simp) ?_)
  show wpAny _ _ (newExc (.type "StopIteration") [] >>= _) _ _ _
  refine wpAny_bind ?_
  simp only [newExc, newTuple]
  refine wpAny_bind (wpAny_newObj_type ?_ (by size_fits))
  refine wpAny_bind (m := firstArgMember _ _) (wpAny_of_eq (a := Value.none) (by first | rfl | (simp only [firstArgMember]; rfl)) ?_)
  refine wpAny_newObj_type ?_ (by size_fits)
  simp only [raiseNew]
  refine wpAny_bind (wpAny_handled ?_)
  rw [show A.in1.handled = none from hh]
  refine wpAny_bind (wpAny_pure (wpAny_throw ?_))
  refine wpAny_bind (wpAny_isInstance (T := "StopIteration") (b := true) ⟨_, Heap.get?_push_size _ rfl, rfl⟩ isSubtype_stop ?_)
  exact wpAny_pure (hQ _ (((Heap.SameBut.update ..).extBut.push _).push _))

/-- unpacking a set of one -/
theorem unpack_one {a : Addr} {v : Int} {f : Value → Sem Unit} {Q : Unit → Shared → Prop} (hh : A.handled = none) (x : SetOne prog w s.heap a v)
    (h : ∀ t s', Rel noX noV s s' → s'.gens = s.gens → wpAny (model prog w) A (f (.int v t)) Q E s') : wpAny (model prog w) A (unpack (.ref a) [(false, f)]) Q E s := by
  have hT := x.typeIs
  obtain ⟨tok, ep, t, ho, hf, hl⟩ := x
  unfold unpack
  refine wpAny_bind (wpAny_holding ?_)
  show wpAny _ _ (unpackItems (.ref a) 1 none) _ _ s
  unfold unpackItems notIterableAtAll
  refine wpAny_bind (wpAny_bind (wpAny_specialOf hT slot_set_iter.lookup ?_))
  refine wpAny_if_true rfl (wpAny_pure ?_)
  refine wpAny_if_false (by decide) ?_
  refine wpAny_bind (wpAny_holding (iter_one ho hf rfl ?_))
  generalize hH : s.heap.push { cls := .type "set_iterator", data := .fields #[.int 0 0, .int 0 0, .ref a, .int 1 0, .int ep 0] } = H
  have hI : H.get? s.heap.objs.size = some { cls := .type "set_iterator", data := .fields #[.int 0 0, .int 0 0, .ref a, .int 1 0, .int ep 0] } := by rw [← hH]; exact Heap.get?_push_size _ rfl
  have hk : ∀ b o, s.heap.get? b = some o → H.get? b = some o := fun b o e => by rw [← hH]; exact Heap.get?_push_of_some _ e
  have hz : H.objs.size = s.heap.objs.size + 1 := by rw [← hH, Heap.size_push]
  have hne : s.heap.objs.size ≠ a := fun q => Nat.lt_irrefl _ (q ▸ Heap.lt_size ho)
  refine wpAny_bind (wpAny_holding ?_)
  show wpAny _ _ (pyNext (.ref s.heap.objs.size) >>= _) _ _ _
  refine wpAny_bind (next_first (s := { s with heap := H }) hI (hk _ _ ho) hf hl hne fun h₁ j hj hsame hsz hI₁ => ?_)
  show wpAny _ _ (holding [Value.int v tok] (pure []) >>= _) _ _ _
  refine wpAny_bind (wpAny_holding (wpAny_pure (wpAny_pure ?_)))
  show wpAny _ _ (if ([Value.int v tok].length < 1) then _ else _) _ _ _
  rw [if_neg (by simp)]
  have ho₁ : h₁.get? a = some { cls := .type "set", data := .set #[((intKind prog w).hash v, .int v tok)] ep t } := (hsame a (Ne.symm hne)).trans (hk _ _ ho)
  refine wpAny_grow (wpAny_bind (wpAny_holding (next_end (s := { s with heap := h₁ }) hh hI₁ ho₁ hf hl hj fun h₂ he₂ => ?_)))
  refine wpAny_if_false rfl (wpAny_pure ?_)
  intro mz
  have hz₂ : s.heap.objs.size ≤ h₂.objs.size := by
    have h3 : h₁.objs.size ≤ h₂.objs.size := mz.1
    have h4 : h₁.objs.size = H.objs.size := hsz
    omega
  have r : Rel noX noV s { s with heap := h₂ } := Rel.only (tk := s.toks) (fun b o e _ => by
    have hb : b ≠ s.heap.objs.size := Nat.ne_of_lt (Heap.lt_size e)
    exact he₂ b o hb ((hsame b hb).trans (hk b o e))) hz₂
  show wpAny _ _ (assignInOrder [f] [Value.int v tok]) _ _ _
  unfold assignInOrder
  refine wpAny_bind (wpAny_holding (wpAny_mono (h tok _ r rfl) (fun u s' hq => ?_) fun _ _ x => x))
  exact wpAny_pure hq
end
end Mine

/-! G7 -/
set_option linter.unusedVariables false
set_option maxRecDepth 100000
namespace Mine
open PySem PySem.W PyProof.Rows
open Sem (wp)

/-- the map that a generator expression's frame sees -/
def genMap (scope : Scope) (m : Str → Option Value) (x : Str) (v : Value) : Str → Option Value := fun y => if y ∈ (scope.names.filter (·.2 == .free)).map (·.1) then m y else if y = x then some v else none

theorem gen_frm {sc scope : Scope} {env genv : Env} {h₀ h : Heap} {m m₂ : Str → Option Value} {x : Str} {v : Value} (F : Frm sc env h₀ m) (ok : ScOk sc scope) (hx : scope.names.lookup x = some .local)
    (once2 : ∀ y, scope.names.lookup y = some .local → y = x ∨ y = (".0" : Str))
    (ecs : genv.scope = scope) (ecg : genv.globals = env.globals) (ecb : genv.builtins = builtinsNs) (ecc : genv.cells = clOf scope env)
    (hn : h.Ns genv.locals m₂) (hm : m₂ x = some v) (hk : ∀ y c, env.cells.lookup y = some c → ∀ o, h₀.get? c = some o → h.get? c = some o) (hL : ∀ y c, env.cells.lookup y = some c → c ≠ genv.locals) :
    ∃ m', Frm scope genv h m' ∧ m' x = some v ∧ ∀ y, (y, NameKind.free) ∈ scope.names → m' y = m y := by
  have cellLook : ∀ x c, genv.cells.lookup x = some c → (x, NameKind.free) ∈ scope.names ∧ env.cells.lookup x = some c := by
    intro x c h
    rw [ecc, clOf_lookup] at h
    split at h
    · rename_i hx
      have hx' := mem_free.mp hx
      have hs := F.has x (ok.free _ hx' rfl)
      obtain ⟨d, hd⟩ := Option.isSome_iff_exists.mp hs
      rw [hd] at h
      cases h
      exact ⟨hx', hd⟩
    · cases h
  have nf : ∀ y, scope.names.lookup y = some .local → ¬ y ∈ (scope.names.filter (·.2 == .free)).map (·.1) := fun y hy hm => by
    have := ok.once _ (mem_free.mp hm)
    rw [hy] at this; cases this
  refine ⟨fun y => if y ∈ (scope.names.filter (·.2 == .free)).map (·.1) then m y else m₂ y, ?_, (if_neg (nf x hx)).trans hm, fun y hy => if_pos (mem_free.mpr hy)⟩
  exact {
    scp := ecs
    kind := ok.kind
    glob := ecg.trans F.glob
    blt := ecb
    ns := ⟨m₂, hn, fun y hy => by rw [if_neg (nf y hy)]⟩
    cell := fun y c h => by
      obtain ⟨h1, h2⟩ := cellLook y c h
      rw [if_pos (mem_free.mpr h1)]
      obtain ⟨o, ho, d⟩ := F.cell y c h2
      exact ⟨o, hk y c h2 o ho, d⟩
    has := fun y hy => by
      rcases hy with hy | hy
      · exact absurd rfl (ok.nocell _ (mem_of_lookup hy))
      · rw [ecc, clOf_lookup, if_pos (mem_free.mpr (mem_of_lookup hy))]; rfl
    apart := fun y z c h1 h2 => F.apart y z c (cellLook y c h1).2 (cellLook z c h2).2
    off := fun y c h => hL y c (cellLook y c h).2
    plain := fun y c h e => by
      have := ok.once _ (cellLook y c h).1
      rw [e] at this; cases this }

theorem passing_all (n : Nat) : passing (fun _ => true) n 0 = List.range n := by unfold passing; simp

section
variable {prog : Program} {w : World} {A : Around} {E : Value → Shared → Prop} {s : Shared} {d u : Nat} {mg mb : Str → Option Value} {hB : Heap} {aA aR c P : Addr} {cA : Value} {sc : Scope} {env : Env} {m : Str → Option Value}

/-- a generator expression over an iterator, as a walk -/
theorem gen_walk {elt iter : Expr} {x : Str} {px pos : Pos} {scope : Scope} {Q : Value → Shared → Prop} (hA : OkA A d u) (hd : d + 2 < recursionLimit)
    (T : Txt mg mb hB aA aR c P cA) (hcode : env.code = .ref c) (ok : ScOk sc scope) (hco : scope.isCoroutine = false) (h0 : scope.names.lookup (".0" : Str) = some NameKind.local) (hx : scope.names.lookup x = some .local)
    (once2 : ∀ y, scope.names.lookup y = some .local → y = x ∨ y = (".0" : Str)) (hclos : ∀ y ∈ scope.names, y.2 = .free → (env.cells.lookup y.1).isSome = true)
    (h : wpAny (model prog w) (big (d + 2) (u + 40)) (eval iter env) (fun xv s₁ => wpAny (model prog w) (big (d + 2) (u + 40)) (pyIter xv) (fun it s₂ =>
      Frm sc env s₂.heap m ∧ GS hB c P s₂.heap ∧ (∀ b, Own env b → b ≠ P) ∧
      ∃ I fp n₀ P₀ St₀ Fv, it = .ref I ∧ I ≠ P ∧ P ∉ fp ∧ I < s₂.heap.objs.size ∧ (∀ b, Own env b → b ≠ I) ∧ cStatics ≠ I ∧ (∀ A' : Around, A'.handled = none → Walks prog w A' I fp [I] n₀ P₀ St₀) ∧ (∀ b ∈ fp, b < s₂.heap.objs.size) ∧ St₀ 0 s₂.heap ∧
        (∀ (A' : Around) E' i v (s' : Shared) genv m', P₀ i v → (∀ b o, b < s₂.heap.objs.size → b ≠ I → b ≠ P → s₂.heap.get? b = some o → s'.heap.get? b = some o) → Frm scope genv s'.heap m' → m' x = some v → (∀ y, (y, NameKind.free) ∈ scope.names → m' y = m y) →
          wpAny (model prog w) A' (eval elt genv) (fun y s₃ => Fv i y ∧ Keeps s' s₃) E' s') ∧
        (∀ a g s', g = s₂.gens.size → Rel (fun b _ => b = P) noV s₂ s' → GS hB c P s'.heap → (∃ wr, Wk prog w (d + 2) (u + 44) a "generator" n₀ Fv wr (GenOnlyQ g) s' ∧ (∀ b ∈ wr, s₂.heap.objs.size ≤ b ∨ b = I)) → Q (.ref a) s')) E s₁) E s)
    (hs : ∀ x, genFold iter env x = pure x := by intro _; rfl) :
    wpAny (model prog w) A (eval (.GeneratorExp elt [⟨.Name x px, iter, [], 0⟩] scope pos) env) Q E s := by
  refine wpAny_big hA (d := d) (u := u) ?_
  have hbig : OkA (big d u) (d + 2) (u + 40) := (okA_big d u).mono (by omega) (by omega)
  refine wpAny_big hbig ?_
  refine wpAny_GeneratorExp_walksQD (A := big (d + 2) (u + 40)) rfl hco (closureFor_eq hclos) ok.nocell h0 hx ok.kind hd (wpAny_mono h (fun xv s₁ h₁ => wpAny_mono h₁ (fun it s₂ h₂ => ?_) fun _ _ e => e) fun _ _ e => e) hs
  obtain ⟨F, g, hoP, I, fp, n₀, P₀, St₀, Fv, rfl, hIP, hPf, hIs, hoI, hcI, W, hfp, hst, helt, hQ⟩ := h₂
  have G := g.glb T
  refine ⟨G.lim, ?_⟩
  -- the code object, then the rest
  have rest : ∀ code s₃, Rel (fun b _ => b = P) noV s₂ s₃ → s₃.gens = s₂.gens → GS hB c P s₃.heap →
      wpAny (model prog w) (big (d + 2) (u + 40)) (builtinsFor env.globals env.builtins) (fun bi s₄ =>
        ∃ I' fp wr n₀ P' St₀ pz F, Value.ref I = .ref I' ∧ (∀ A' : Around, A'.handled = none → Walks prog w A' I' fp wr n₀ P' St₀) ∧ St₀ 0 s₄.heap ∧ (∀ b ∈ fp, b < s₄.heap.objs.size) ∧ s₄.heap.NoLimit ∧ cStatics ∉ wr ∧
          (∀ href : Heap, (∀ b o, s₄.heap.get? b = some o → href.get? b = some o) →
            QuietGenD prog w (genEnv scope (clOf scope env) s₄.heap.objs.size code bi env) x [] elt (List.range s₄.heap.objs.size) wr P' pz F href (d + 2 + 1) (u + 40 + 8)) ∧
          (∀ a h₅ tk gs, gs.bare = true → s₄.heap.objs.size < a → h₅.objs.size = a + 1 → (∀ b o, s₄.heap.get? b = some o → h₅.get? b = some o) →
            WalksS prog w (big (d + 2) (u + 40)).in4 a (a :: s₄.heap.objs.size :: List.range s₄.heap.objs.size) (s₄.heap.objs.size :: wr) (GenOnlyQ s₄.gens.size) (passing pz n₀ 0).length
              (fun j y => ∃ i, (passing pz n₀ 0)[j]? = some i ∧ F i y) (GenAt prog w (big (d + 2) (u + 40)).in4 a s₄.gens.size s₄.heap.objs.size (List.range s₄.heap.objs.size) wr pz n₀ F) →
            GenAt prog w (big (d + 2) (u + 40)).in4 a s₄.gens.size s₄.heap.objs.size (List.range s₄.heap.objs.size) wr pz n₀ F 0 { s₄ with gens := s₄.gens.push gs, toks := tk, heap := h₅ } →
            Q (.ref a) { s₄ with gens := s₄.gens.push gs, toks := tk, heap := h₅ })) E s₃ := fun code s₃ r₃ hg₃ g₃ => by
    have G₃ := g₃.glb T
    have F₃ := F.rel r₃ fun b o q hb _ => hoP b hb q
    obtain ⟨bm, ob, b1, b2, b3, b4, b5, b6⟩ := G₃.bm
    refine wpAny_builtinsFor (by rw [F.glob]; exact G₃.g) b1 b2 b3 b4 b5 b6 ?_
    refine ⟨I, fp, [I], n₀, P₀, St₀, fun _ => true, Fv, rfl, W, (W (big 0 0) rfl).frame 0 _ _ hst fun b hb o e => r₃.heap b o e fun q => hPf (q ▸ hb), fun b hb => Nat.lt_of_lt_of_le (hfp b hb) r₃.mono.1, G₃.lim, by simpa using hcI, fun href hre => ?_, fun a h₅ tk gs hgs hal hsz hk₅ hW hGA => ?_⟩
    · refine ⟨fun A' E' i v s₂' m₂ _ _ _ _ _ _ _ => wpAny_pure ⟨rfl, s₂'.heap, s₂'.toks, rfl, fun _ _ e => e⟩, fun A' E' i v s₂' m₂ _ _ _ hP _ hn hm hkp => ?_⟩
      have keep : ∀ b o, b < s₂.heap.objs.size → b ≠ I → b ≠ P → s₂.heap.get? b = some o → s₂'.heap.get? b = some o := fun b o hb hbI hbP e =>
        hkp b (List.mem_range.mpr (Nat.lt_of_lt_of_le hb r₃.mono.1)) (by simpa using hbI) o (hre b o (r₃.heap b o e hbP))
      obtain ⟨m', F', e1, e2⟩ := gen_frm (genv := genEnv scope (clOf scope env) s₃.heap.objs.size code builtinsNs env) F ok hx once2 rfl rfl rfl rfl hn hm
        (fun y c' hc o ho => keep c' o (Heap.lt_size ho) (hoI c' (.inr ⟨y, hc⟩)) (hoP c' (.inr ⟨y, hc⟩)) ho) (fun y c' hc => by
          obtain ⟨o, ho, _⟩ := F.cell y c' hc
          exact Nat.ne_of_lt (Nat.lt_of_lt_of_le (Heap.lt_size ho) r₃.mono.1))
      exact helt A' E' i v s₂' _ m' hP keep F' e1 e2
    · have r₅ : Rel (fun b _ => b = P) noV s₂ { s₃ with gens := s₃.gens.push gs, toks := tk, heap := h₅ } := by
        refine r₃.trans ⟨fun b o e _ => hk₅ b o e, ⟨?_, ?_⟩, fun k y _ e => ?_, fun hb => ?_, rfl⟩
        · show s₃.heap.objs.size ≤ h₅.objs.size
          rw [hsz]; exact Nat.le_succ_of_le (Nat.le_of_lt hal)
        · show s₃.gens.size ≤ (s₃.gens.push gs).size
          rw [Array.size_push]; exact Nat.le_succ _
        · show (s₃.gens.push gs)[k]? = some y
          rw [Array.getElem?_push]
          split
          · rename_i hk; rw [hk, Array.getElem?_eq_none (Nat.le_refl _)] at e; cases e
          · exact e
        · intro y hy
          rcases Array.mem_push.mp hy with hy | hy
          · exact hb y hy
          · rw [hy]; exact hgs
      refine hQ a s₃.gens.size _ (by rw [hg₃]) r₅ (g₃.rel T (X := noX) (V := noV) (s := s₃) (s' := { s₃ with toks := tk, heap := h₅ }) (Rel.only (tk := tk) (fun b o e _ => hk₅ b o e) (by rw [hsz]; exact Nat.le_succ_of_le (Nat.le_of_lt hal))) fun _ _ q => q.elim)
        ⟨s₃.heap.objs.size :: [I], ⟨a :: s₃.heap.objs.size :: List.range s₃.heap.objs.size, _, ?_, hGA, fun i s st => ?_, fun b hb => ?_, List.mem_cons_self, fun i s s' st r => ?_⟩, fun b hb => ?_⟩
      · have hlen : (passing (fun _ => true) n₀ 0).length = n₀ := by rw [passing_all]; simp
        rw [hlen] at hW
        refine { sub := hW.sub, grefl := hW.grefl, gtrans := hW.gtrans, frame := hW.frame, item := fun i s Q E hi hst' hq => hW.item i s Q E hi hst' fun v s' hP => hq v s' ?_, done := hW.done, self := hW.self }
        obtain ⟨j, hj, hF⟩ := hP
        rw [passing_all, List.getElem?_range hi] at hj
        cases hj; exact hF
      · obtain ⟨o, nm, qn, h1, h2, h3, _⟩ := st.1
        exact ⟨o, _, h1, h2, h3⟩
      · show b < h₅.objs.size
        rw [hsz]
        rcases List.mem_cons.mp hb with rfl | hb
        · exact Nat.lt_succ_self _
        · rcases List.mem_cons.mp hb with rfl | hb
          · exact Nat.lt_succ_of_lt hal
          · exact Nat.lt_succ_of_lt (Nat.lt_trans (List.mem_range.mp hb) hal)
      · obtain ⟨q1, q2, gs', q3, q4⟩ := st
        exact ⟨q1.keeps fun b o e => r.keeps b o e, q2.keeps fun b o e => r.keeps b o e, gs', r.gens _ _ (fun q => q) q3, fun s'' hk => q4 s'' fun b hb o e => hk b hb o (r.keeps b o e)⟩
      · rcases List.mem_cons.mp hb with rfl | hb
        · exact .inl r₃.mono.1
        · exact .inr (by simpa using hb)
  obtain ⟨ps, hok, htab⟩ := g.tab
  cases hf : codeAmong pos ps.toList with
  | some c' => exact wpAny_genexprCode_hit hcode hok hf (rest c' s₂ (Rel.refl _) rfl g)
  | none =>
    refine wpAny_grow (wpAny_genexprCodeX hcode hok htab hf fun c' h' tk hx' hc1 hc2 hok' _ htab' _ mz => ?_)
    exact rest _ _ (Rel.only (tk := tk) (fun b o e q => hx' b o q e) mz.1) rfl (g.table T hx' hok' htab')
end
end Mine

/-! G8 -/
set_option linter.unusedVariables false
set_option maxRecDepth 100000
namespace Mine
open PySem PySem.W PyProof.Rows
open Sem (wp)

/-! parts of statements and expressions -/
def asgVal : Stmt → Expr
  | .Assign _ v _ => v
  | _ => .Name "" default
def forBody : Stmt → List Stmt
  | .For _ _ b _ _ => b
  | _ => []
def callArg (i : Nat) : Expr → Expr
  | .Call _ as _ _ => as.getD i (.Name "" default)
  | e => e
def gxScope : Expr → Scope
  | .GeneratorExp _ _ sc _ => sc
  | .ListComp _ _ sc _ => sc
  | _ => default
def gxElt : Expr → Expr
  | .GeneratorExp e _ _ _ => e
  | .ListComp e _ _ _ => e
  | e => e

/-- the pairs of factors -/
def FsAt (h : Heap) (afs : Addr) (ps : List (Int × Int)) : Prop :=
  ∃ refs : List Value, h.PlainList afs refs.toArray ∧ refs.length = ps.length ∧ ∀ j, j < ps.length → ∃ ta t u n, refs[j]? = some (.ref ta) ∧ h.get? ta = some { cls := .type "tuple", data := .seq #[.int (ps.getD j (0, 1)).1 t, .int (ps.getD j (0, 1)).2 u] n }
theorem FsAt.at {h h' : Heap} {afs : Addr} {ps : List (Int × Int)} (x : FsAt h afs ps) (hk : ∀ b o, h.get? b = some o → Dk o → h'.get? b = some o) : FsAt h' afs ps := by
  obtain ⟨refs, ⟨n, e⟩, hl, hr⟩ := x
  exact ⟨refs, ⟨n, hk _ _ e trivial⟩, hl, fun j hj => let ⟨ta, t, u, n, e1, e2⟩ := hr j hj; ⟨ta, t, u, n, e1, hk _ _ e2 trivial⟩⟩

/-- one value brought to another depth -/
def scaled (f : Int × Int) (x : Int) : Int := ((2 * x * f.1).fdiv f.2 + 1).fdiv 2

abbrev rscFor : Stmt := (dBody (stAt 3)).getD 6 (.Pass default)
abbrev rscIn : Stmt := (forBody rscFor).getD 1 (.Pass default)
abbrev chanAsg : Stmt := (forBody rscIn).getD 0 (.Pass default)
abbrev chanGx : Expr := callArg 1 (asgVal chanAsg)

theorem chan_ok : ScOk (dScope (stAt 3)) (gxScope chanGx) := ⟨by with_unfolding_all rfl, by decide +kernel, by decide +kernel, by decide +kernel⟩

section
variable {prog : Program} {w : World} {A : Around} {E : Value → Shared → Prop} {s : Shared} {d u : Nat} {mg mb : Str → Option Value} {hB : Heap} {aA aR c P : Addr} {cA : Value} {env : Env} {m : Str → Option Value}

theorem ev_scaled {h : Heap} {genv : Env} {m' : Str → Option Value} {afs : Addr} {ps : List (Int × Int)} {i : Nat} {x : Int} {t ti : Tok} (F : Frm (gxScope chanGx) genv h m')
    (hx : m' (Str.ofString "x") = some (.int x t)) (hi : m' (Str.ofString "i") = some (.int (i : Int) ti)) (hfs : m' (Str.ofString "fs") = some (.ref afs)) (FS : FsAt h afs ps) (hip : i < ps.length) (hz : ps.length ≤ 1000)
    (h1 : 0 ≤ (ps.getD i (0, 1)).1 ∧ (ps.getD i (0, 1)).1 < 2 ^ 20) (h2 : 0 < (ps.getD i (0, 1)).2 ∧ (ps.getD i (0, 1)).2 < 2 ^ 20) : EvI (model prog w) A genv h (gxElt chanGx) (scaled (ps.getD i (0, 1)) x) := by
  obtain ⟨refs, hl, hlen, hr⟩ := FS
  obtain ⟨ta, t1, u1, n1, e1, e2⟩ := hr i hip
  have hT : PyProof.Rows.IsTup h ta #[.int (ps.getD i (0, 1)).1 t1, .int (ps.getD i (0, 1)).2 u1] := ⟨_, e2, rfl, n1, rfl⟩
  have ei : EvI (model prog w) A genv h (.Name (Str.ofString "i") _) (i : Int) := EvI.of (EvV.free (pos := default) F hi)
  have fsi : ∀ p1 p2 p3, EvV (model prog w) A genv h (.Subscript (.Name (Str.ofString "fs") p1) (.Name (Str.ofString "i") p2) p3) (.ref ta) := fun p1 p2 p3 =>
    EvV.item (EvV.free F hfs) hl.isList (EvI.of (EvV.free F hi)) (by omega) (by rw [Int.toNat_natCast]; simpa using e1) (by omega)
  refine EvI.div (EvI.add (EvI.div (EvI.mul (EvI.mul EvI.const (EvI.of (EvV.local F hx)) (mulOk_left (by decide))) (EvI.of (EvV.tup (fsi _ _ _) hT EvI.const (by decide) (by decide) (j := 0) (by rfl) (by rfl))) (mulOk_right ?_)) (EvI.of (EvV.tup (fsi _ _ _) hT EvI.const (by decide) (by decide) (j := 1) (by rfl) (by rfl))) ?_ ?_) EvI.const) EvI.const (by decide) (by decide)
  all_goals omega
end
end Mine

/-! G9 -/
set_option linter.unusedVariables false
set_option maxRecDepth 100000
namespace Mine
open PySem PySem.W PyProof.Rows
open Sem (wp)

/-- then a step that writes only what is new, or what may be written -/
theorem Rel.tf {X X' : Addr → Obj → Prop} {V V' : Nat → Prop} {s s' s'' : Shared} (y : Rel X' V' s s') (x : Rel X V s' s'') (hX : ∀ b o, X b o → s.heap.objs.size ≤ b ∨ X' b o) (hV : ∀ k, V k → s.gens.size ≤ k ∨ V' k) : Rel X' V' s s'' :=
  ⟨fun b o e n => x.heap b o (y.heap b o e n) fun q => by
      rcases hX b o q with h | h
      · exact Nat.lt_irrefl _ (Nat.lt_of_lt_of_le (Heap.lt_size e) h)
      · exact n h, y.mono.trans x.mono,
    fun k g n e => x.gens k g (fun q => by
      rcases hV k q with h | h
      · rw [Array.getElem?_eq_none h] at e; cases e
      · exact n h) (y.gens k g n e), fun b => x.bare (y.bare b), x.os.trans y.os⟩

section
variable {prog : Program} {w : World} {A : Around} {E : Value → Shared → Prop} {s : Shared} {d u : Nat} {mg mb : Str → Option Value} {hB : Heap} {aA aR c P : Addr} {cA : Value} {env : Env} {m : Str → Option Value}

theorem evalArgs_two {M : Model} {f : Value} {e₁ e₂ : Expr} {pos : Pos} {Q : Args → Shared → Prop} (hp : starEach [e₁, e₂] env = [(false, eval e₁ env), (false, eval e₂ env)])
    (h : wpAny M A (eval e₁ env) (fun v s' => wpAny M A (eval e₂ env) (fun v' s'' => Q ⟨[v, v'], []⟩ s'') E s') E s) : wpAny M A (evalArgs f true (backTo pos (starEach [e₁, e₂] env)) []) Q E s := by
  rw [hp]
  have : ∃ t t', backTo pos [(false, eval e₁ env), (false, eval e₂ env)] = [(false, t), (false, t')] ∧ (∀ Q' s, wpAny M A (eval e₁ env) Q' E s → wpAny M A t Q' E s) ∧ (∀ Q' s, wpAny M A (eval e₂ env) Q' E s → wpAny M A t' Q' E s) := by
    refine ⟨_, _, rfl, fun Q' s h' => ?_, fun Q' s h' => ?_⟩
    all_goals first
      | exact h'
      | exact wpAny_bind (wpAny_mono h' (fun v s' x => wpAny_bind (wpAny_standAt (wpAny_pure x))) fun _ _ x => x)
  obtain ⟨t, t', e1, ht, ht'⟩ := this
  rw [e1]
  exact Calls.evalArgs_plain (Calls.spliced_cons (ht _ _ (wpAny_mono h (fun v s' x => Calls.spliced_cons (ht' _ _ (wpAny_mono x (fun v' s'' y => Calls.spliced_nil y) fun _ _ x => x))) fun _ _ x => x)))

theorem row_iter_wk {k : Kd} {a : Addr} {xs : List Int} {d u : Nat} {Q : Value → Shared → Prop} (r : RowAt k s.heap a xs)
    (h : ∀ s', Rel noX noV s s' → s'.gens = s.gens → Wk prog w d u s.heap.objs.size k.itType xs.length (IntP xs) [s.heap.objs.size] (fun a b => b = a) s' → Q (.ref s.heap.objs.size) s') : wpAny (model prog w) A (pyIter (.ref a)) Q E s := by
  refine row_iter r fun vsI St st hT hW => ?_
  have r₁ : Rel noX noV s { s with heap := s.heap.push { cls := .type k.itType, data := .fields vsI } } := Rel.push (tk := s.toks)
  refine h _ r₁ rfl ?_
  have ne : a ≠ s.heap.objs.size := Nat.ne_of_lt r.lt
  have W := hW
  refine ⟨[s.heap.objs.size, a], fun i s => St i s.heap, (hW (big d u) rfl).toS, st, fun i s' st' => hT i _ st', fun b hb => ?_, by simp, fun i s₁ s₂ st₁ r => (hW (big d u) rfl).frame i _ _ st₁ fun b _ o e => r.keeps b o e⟩
  simp only [List.mem_cons, List.not_mem_nil, or_false] at hb
  show b < (s.heap.push _).objs.size
  rw [Heap.size_push]
  rcases hb with rfl | rfl
  · exact Nat.lt_succ_self _
  · exact Nat.lt_succ_of_lt r.lt

theorem row_slice {ks : Kd} {value lo st : Expr} {p pos : Pos} {ar : Addr} {xs : List Int} {i n L : Nat} {ti tn : Tok} {Q : Value → Shared → Prop}
    (xv : EvV (model prog w) A env s.heap value (.ref ar)) (hlo : EvV (model prog w) A env s.heap lo (.int (i : Int) ti)) (hst : EvV (model prog w) A env s.heap st (.int (n : Int) tn)) (r : RowAt ks s.heap ar xs)
    (hi : i < n) (hz : xs.length = L * n) (hle : xs.length ≤ sizeLine)
    (h : ∀ D s', Rel noX noV s s' → s'.gens = s.gens → s.heap.objs.size ≤ D → RowAt ks s'.heap D (pickL xs i n L) → Q (.ref D) s')
    (ht : ∀ o r, letTemporaryGo value o r = pure () := by intro _ _; rfl) :
    wpAny (model prog w) A (eval (.Subscript value (.Slice (some lo) none (some st) p) pos) env) Q E s := by
  obtain ⟨T, id, hT, hl⟩ : ∃ T id, T = ks.type ∧ typeLookup (.type T) "__getitem__" = pure (some (.builtin id)) := by
    cases ks
    · exact ⟨_, _, rfl, slot_ba_getitem.lookup⟩
    · exact ⟨_, _, rfl, F.slot_list_getitem.lookup⟩
  refine wpAny_Subscript_Slice_step hl (xv s _ _ rfl fun tk => wpAny_Slice ?_) ht
  refine hlo _ _ _ rfl fun tk₁ => ?_
  refine wpAny_pure ?_
  refine hst _ _ _ rfl fun tk₂ => ⟨?_, ?_⟩
  · obtain ⟨o, e, _, hc⟩ := r.obj
    exact ⟨o, Heap.get?_push_of_some _ e, by rw [hT]; exact hc⟩
  · have r' : RowAt ks (s.heap.push { cls := .type "slice", data := .fields #[.int (i : Int) ti, .none, .int (n : Int) tn] }) ar xs := r.at fun o e _ => Heap.get?_push_of_some _ e
    refine getItem_row (s := { s with toks := tk₂, heap := s.heap.push { cls := .type "slice", data := .fields #[.int (i : Int) ti, .none, .int (n : Int) tn] } }) r' ⟨_, Heap.get?_push_size _ rfl, rfl, rfl⟩ hi hz hle fun h' hk hz' hr => ?_
    refine h _ _ (Rel.only (tk := tk₂) (fun b o e _ => hk b o (Heap.get?_push_of_some _ e)) ?_) rfl ?_ hr
    · rw [hz']; simp only [Heap.size_push]; omega
    · simp only [Heap.size_push]; omega
end
end Mine

/-! G10 -/
set_option linter.unusedVariables false
set_option maxRecDepth 100000
namespace Mine
open PySem PySem.W PyProof.Rows
open Sem (wp)

abbrev rowAsg : Stmt := (forBody rscFor).getD 0 (.Pass default)
abbrev rscSc : Scope := dScope (stAt 3)

theorem scope_local {scope : Scope} {x : Str} (h : (scope.names.all fun y => y.2 != .local || y.1 == x || y.1 == (".0" : Str)) = true) : ∀ y, scope.names.lookup y = some .local → y = x ∨ y = (".0" : Str) := fun y hy => by
  have := List.all_eq_true.mp h _ (mem_of_lookup hy)
  simpa using this

section
variable {prog : Program} {w : World} {A : Around} {E : Value → Shared → Prop} {s : Shared} {d u : Nat} {mg mb : Str → Option Value} {hB : Heap} {aA aR c P : Addr} {cA : Value} {env : Env} {m : Str → Option Value}

theorem call_builtin1 {sc : Scope} {x : Str} {id : String} {p pos : Pos} {e : Expr} {Q : Value → Shared → Prop} (F : Frm sc env s.heap m) (G : Glb mg mb s.heap) (hn : mg x = none) (hb : bootBuiltins x = some (.builtin id)) (hne : x ≠ "__name__")
    (hk : sc.names.lookup x = some .globalImplicit) (hp : starEach [e] env = [(false, eval e env)])
    (h : wpAny (model prog w) A (eval e env) (fun v s' => wpAny (model prog w) A (call (.builtin id) [v]) Q E s') E s) (hd : (x == ("__debug__" : Str)) = false) : wpAny (model prog w) A (eval (.Call (.Name x p) [e] [] pos) env) Q E s := by
  rw [arm_eval_Call_Name']
  refine wpAny_bind (ev_builtin F G hn hb hne ?_ hk hd)
  exact Calls.callWith_builtin (by rw [hp]; rfl) (evalArgs_one hp h)

/-- what the frame of rescale_rows holds while it walks through the channels of a row -/
structure RFr (hB : Heap) (c P : Addr) (kt : Kd) (ps : List (Int × Int)) (afs : Addr) (tt tn : Tok) (s : Shared) (env : Env) (m : Str → Option Value) : Prop where
  F : Frm rscSc env s.heap m
  g : GS hB c P s.heap
  code : env.code = .ref c
  own : ∀ b, Own env b → hB.objs.size ≤ b
  tc : m (Str.ofString "typecode") = some (.str kt.code tt)
  n : m (Str.ofString "n_chans") = some (.int (ps.length : Int) tn)
  fs : m (Str.ofString "fs") = some (.ref afs)
  FS : FsAt s.heap afs ps
  few : ps.length ≤ 1000
  ok : ∀ j, j < ps.length → (0 ≤ (ps.getD j (0, 1)).1 ∧ (ps.getD j (0, 1)).1 < 2 ^ 20) ∧ (0 < (ps.getD j (0, 1)).2 ∧ (ps.getD j (0, 1)).2 < 2 ^ 20)

theorem RFr.ownP {kt : Kd} {ps : List (Int × Int)} {afs : Addr} {tt tn : Tok} (R : RFr hB c P kt ps afs tt tn s env m) (T : Txt mg mb hB aA aR c P cA) : ∀ b, Own env b → b ≠ P := fun b hb q => by
  have := R.own b hb; rw [q] at this; exact Nat.lt_irrefl _ (Nat.lt_of_lt_of_le T.cP.2 this)

/-- writes outside of the frame -/
theorem RFr.rel {kt : Kd} {ps : List (Int × Int)} {afs : Addr} {tt tn : Tok} {X : Addr → Obj → Prop} {V : Nat → Prop} {s' : Shared} (R : RFr hB c P kt ps afs tt tn s env m) (r : Rel X V s s') (g : GS hB c P s'.heap)
    (hX : ∀ b o, X b o → ¬ (Own env b ∧ Fk o) ∧ (Dk o → ¬ (s.heap.get? b = some o))) : RFr hB c P kt ps afs tt tn s' env m :=
  { R with F := R.F.rel r fun b o q h1 h2 => (hX b o q).1 ⟨h1, h2⟩, g := g, FS := R.FS.at fun b o e hd => r.heap b o e fun q => (hX b o q).2 hd e }

/-- array(typecode, ..) -/
theorem array_call {kt : Kd} {ps : List (Int × Int)} {afs : Addr} {tt tn : Tok} {e : Expr} {p1 p2 pos : Pos} (ys : List Int) {Q : Value → Shared → Prop}
    (hA : OkA A d u) (hd : d < 900) (T : Txt mg mb hB aA aR c P cA) (R : RFr hB c P kt ps afs tt tn s env m)
    (hp : starEach [.Name (Str.ofString "typecode") p2, e] env = [(false, eval (.Name (Str.ofString "typecode") p2) env), (false, eval e env)])
    (he : wpAny (model prog w) A (eval e env) (fun v s' => ∃ I T' wr G n d' u', v = .ref I ∧ d + 1 ≤ d' ∧ u + 5 ≤ u' ∧ GS hB c P s'.heap ∧ (T' = "generator" ∨ T' = "list_iterator" ∨ (T' = "bytearray_iterator" ∧ kt = .B)) ∧ Wk prog w d' u' I T' n (IntP ys) wr G s' ∧ ys.length = n ∧ n ≤ sizeLine ∧
      (kt = .B → ∀ i, i < n → 0 ≤ ys.getD i 0 ∧ ys.getD i 0 < 256) ∧
      (∀ s₁ s₂ D, Rel noX noV s' s₁ → D = s₁.heap.objs.size → (∃ s₁', Rel noX noV s₁ s₁' ∧ s₁'.gens = s₁.gens ∧ Moved (D :: wr) G s₁' s₂ ∧ Mono s₁' s₂) → RowAt kt s₂.heap D ys → Q (.ref D) s₂)) (fun _ _ => False) s) :
    wpD (model prog w) A (eval (.Call (.Name (Str.ofString "array") p1) [.Name (Str.ofString "typecode") p2, e] [] pos) env) Q s := by
  refine wpD_Call (wpD_of (ev_global R.F (R.g.glb T) T.arrG ?_ rfl))
  obtain ⟨o, pm, doc, dV, kV, h1, h2, _⟩ := (T.arr.keeps R.g.keep).obj
  have nf : ∀ vs : Array Value, o.data ≠ .fields vs := fun vs q => by rw [h2] at q; cases q
  obtain ⟨fdA, hfd⟩ : ∃ fd, o.data = .func fd := ⟨_, h2⟩
  refine wpD_callWith_fun (o := o) (fd := fdA) (by rw [hp]; rfl) (wpD_of (evalArgs_two hp (ev_local R.F R.tc (wpAny_mono he (fun v s' h' => ?_) fun _ _ x => x) rfl)))
  obtain ⟨I, T', wr, G, n, d', u', rfl, hd', hu', g', hT', W, hl, hn, hb, hq⟩ := h'
  refine ⟨⟨?_, hfd⟩, ?_⟩
  · have hbB : hB.get? aA = some o := by
      obtain ⟨o', _, _, _, _, h1', _⟩ := T.arr.obj
      have := R.g.keep aA o' (by obtain ⟨o'', pm', doc', dV', kV', e1, e2, _⟩ := T.arr.obj; rw [h1'] at e1; cases e1; rw [e2]; simp) h1'
      rw [h1] at this
      cases this; exact h1'
    exact g'.keep aA o (nf _) hbB
  · refine wpD_array T g' hA (by omega) fun A' s₁ hA' r₁ => ?_
    exact wpD_make hA' hd' (by omega) hT' (W.keep r₁) hl hn hb fun s₁' s₂ r₂ hg hm mz hr => hq s₁ s₂ _ r₁ rfl ⟨s₁', r₂, hg, hm, mz⟩ hr

/-- rescaled_row = array(typecode, iter(row)) -/
theorem row_value {ks kt : Kd} {ps : List (Int × Int)} {afs ar : Addr} {tt tn : Tok} {xs : List Int} {Q : Value → Shared → Prop}
    (hA : OkA A d u) (hd : d < 900) (T : Txt mg mb hB aA aR c P cA) (R : RFr hB c P kt ps afs tt tn s env m) (hrow : m (Str.ofString "row") = some (.ref ar)) (r : RowAt ks s.heap ar xs) (hkk : kt = .H → ks = .H) (hz : xs.length ≤ 1000)
    (hb : kt = .B → ∀ i, i < xs.length → 0 ≤ xs.getD i 0 ∧ xs.getD i 0 < 256)
    (hQ : ∀ D s', Rel noX noV s s' → GS hB c P s'.heap → s.heap.objs.size ≤ D → RowAt kt s'.heap D xs → Q (.ref D) s') :
    wpD (model prog w) A (eval (asgVal rowAsg) env) Q s := by
  refine array_call xs hA hd T R rfl ?_
  refine call_builtin1 R.F (R.g.glb T) (T.none _ (by simp)) (id := "iter") (by with_unfolding_all rfl) (by decide) rfl rfl (ev_local R.F hrow (wpAny_call_iter (row_iter_wk (d := d + 2) (u := u + 44) r fun s' r' hg' W => ?_)) rfl) (by decide)
  have hsl : sizeLine ≥ 1000 := by decide
  refine ⟨_, ks.itType, _, _, _, d + 2, u + 44, rfl, by omega, by omega, R.g.rel T r' fun _ _ q => q.elim, ?_, W, rfl, by omega, hb, fun s₁ s₂ D r₁ hD hx hr => ?_⟩
  · cases ks with
    | B =>
      cases kt with
      | B => exact .inr (.inr ⟨rfl, rfl⟩)
      | H => cases hkk rfl
    | H => exact .inr (.inl rfl)
  · obtain ⟨s₁', r₂, hg, hm, mz⟩ := hx
    have hsD : s.heap.objs.size ≤ D := by rw [hD]; exact (r'.mono.trans r₁.mono).1
    have rr : Rel noX noV s s₂ := ((r'.trans r₁).trans r₂).tf (moved_rel hm mz) (fun b o hb => .inl ?_) fun k q => q.elim
    · exact hQ D s₂ rr (R.g.rel T rr fun _ _ q => q.elim) hsD hr
    · rcases List.mem_cons.mp hb with rfl | hb
      · exact hsD
      · have : b = s.heap.objs.size := by simpa using hb
        rw [this]; exact Nat.le_refl _

/-- channel = array(typecode, (.. for x in row[i::n_chans])) -/
theorem channel_value {ks kt : Kd} {ps : List (Int × Int)} {afs ar : Addr} {tt tn ti : Tok} {xs : List Int} {i L : Nat} {Q : Value → Shared → Prop}
    (hA : OkA A d u) (hd : d < 900) (T : Txt mg mb hB aA aR c P cA) (R : RFr hB c P kt ps afs tt tn s env m) (hrow : m (Str.ofString "row") = some (.ref ar)) (r : RowAt ks s.heap ar xs) (hz : xs.length ≤ 1000)
    (hi : m (Str.ofString "i") = some (.int (i : Int) ti)) (hin : i < ps.length) (hL : xs.length = L * ps.length)
    (hb : kt = .B → ∀ j, j < L → 0 ≤ scaled (ps.getD i (0, 1)) (xs.getD (i + ps.length * j) 0) ∧ scaled (ps.getD i (0, 1)) (xs.getD (i + ps.length * j) 0) < 256)
    (hQ : ∀ D s', Rel (fun b _ => b = P) noV s s' → GS hB c P s'.heap → s.heap.objs.size ≤ D → RowAt kt s'.heap D ((pickL xs i ps.length L).map (scaled (ps.getD i (0, 1)))) → Q (.ref D) s') :
    wpD (model prog w) A (eval (asgVal chanAsg) env) Q s := by
  have hsl : sizeLine ≥ 1000 := by decide
  refine array_call ((pickL xs i ps.length L).map (scaled (ps.getD i (0, 1)))) hA hd T R rfl ?_
  refine gen_walk (m := m) (sc := rscSc) hA (by have : recursionLimit = 1000 := rfl; omega) T R.code chan_ok rfl rfl rfl (scope_local (by decide +kernel)) (fun y hy hf => R.F.has y.1 (chan_ok.free y hy hf)) ?_
  refine row_slice (EvV.local R.F hrow) (EvV.cell R.F hi) (EvV.local R.F R.n) r hin hL (by omega) fun D s₁ r₁ hg₁ hD r₁' => ?_
  refine row_iter r₁' fun vsI St st hT hW => ?_
  have r₂ : Rel noX noV s { s₁ with heap := s₁.heap.push { cls := .type ks.itType, data := .fields vsI } } := r₁.trans (Rel.push (tk := s₁.toks))
  have sz : s.heap.objs.size ≤ s₁.heap.objs.size := r₁.mono.1
  have hsB : hB.objs.size ≤ s.heap.objs.size := by
    obtain ⟨o, ho, _⟩ := R.F.own_at (.inl rfl)
    exact Nat.le_trans (R.own _ (.inl rfl)) (Nat.le_of_lt (Heap.lt_size ho))
  have hP : P < s.heap.objs.size := Nat.lt_of_lt_of_le T.cP.2 hsB
  have F₂ := R.F.keep r₂
  have g₂ := R.g.rel T r₂ fun _ _ q => q.elim
  have clen : cStatics < s.heap.objs.size := by
    obtain ⟨mc, hm, _⟩ := (R.g.glb T).lim
    exact hm.lt
  refine ⟨F₂, g₂, R.ownP T, s₁.heap.objs.size, [s₁.heap.objs.size, D], L, IntP (pickL xs i ps.length L), St, IntP ((pickL xs i ps.length L).map (scaled (ps.getD i (0, 1)))), rfl, ?_, ?_, ?_, fun b hb => ?_, ?_, ?_, ?_, st, ?_, ?_⟩
  · exact Nat.ne_of_gt (Nat.lt_of_lt_of_le hP sz)
  · simp only [List.mem_cons, List.not_mem_nil, or_false]
    rintro (e | e)
    · exact Nat.ne_of_lt (Nat.lt_of_lt_of_le hP sz) e
    · exact Nat.ne_of_lt (Nat.lt_of_lt_of_le hP hD) e
  · show _ < (s₁.heap.push _).objs.size
    rw [Heap.size_push]; exact Nat.lt_succ_self _
  · exact Nat.ne_of_lt (Nat.lt_of_lt_of_le (R.F.own_lt hb) sz)
  · exact Nat.ne_of_lt (Nat.lt_of_lt_of_le clen sz)
  · intro A' hA'
    have := hW A' hA'
    rw [pickL_length] at this
    exact this
  · intro b hb
    show b < (s₁.heap.push _).objs.size
    rw [Heap.size_push]
    simp only [List.mem_cons, List.not_mem_nil, or_false] at hb
    rcases hb with rfl | rfl
    · exact Nat.lt_succ_self _
    · exact Nat.lt_succ_of_lt r₁'.lt
  · intro A' E' k v s' genv m' hv hk F' hx hfree
    obtain ⟨t, rfl⟩ := hv
    have FS' : FsAt s'.heap afs ps := R.FS.at fun b o e hd => by
      have hlt := Heap.lt_size e
      refine hk b o (Nat.lt_of_lt_of_le hlt r₂.mono.1) (Nat.ne_of_lt (Nat.lt_of_lt_of_le hlt sz)) (fun q => ?_) (r₂.keeps b o e)
      subst q
      obtain ⟨ps', _, h2⟩ := R.g.tab
      rw [h2.2] at e; cases e; exact hd
    refine ev_scaled F' hx ((hfree _ (by decide +kernel)).trans hi) ((hfree _ (by decide +kernel)).trans R.fs) FS' hin R.few (R.ok i hin).1 (R.ok i hin).2 s' _ _ rfl fun t' tk => ⟨⟨t', ?_⟩, s'.heap, tk, rfl, fun _ _ e => e⟩
    have e0 : scaled (ps.getD i (0, 1)) 0 = 0 := by
      have hq := (R.ok i hin).2.1
      unfold scaled
      simp
    by_cases hkL : k < (pickL xs i ps.length L).length
    · simp [List.getD, hkL]
    · simp only [List.getD, List.getElem?_map]
      rw [List.getElem?_eq_none (Nat.le_of_not_lt hkL)]
      simp [scaled]
  · intro a g' s' hg' r₃ g₃ hW'
    obtain ⟨wr, W', hwr⟩ := hW'
    have hlen : ((pickL xs i ps.length L).map (scaled (ps.getD i (0, 1)))).length = L := by rw [List.length_map, pickL_length]
    refine ⟨a, "generator", wr, GenOnlyQ g', L, d + 2, u + 44, rfl, by omega, by omega, g₃, .inl rfl, W', hlen, ?_, fun hk j hj => ?_, fun s₁' s₂ D' q₁ hD' hx hr => ?_⟩
    · have : L ≤ L * ps.length := Nat.le_mul_of_pos_right L (by omega)
      omega
    · have e : ((pickL xs i ps.length L).map (scaled (ps.getD i (0, 1)))).getD j 0 = scaled (ps.getD i (0, 1)) (xs.getD (i + ps.length * j) 0) := by
        unfold pickL
        simp [List.getD, hj]
      rw [e]; exact hb hk j hj
    · obtain ⟨s₁'', q₂, hgg, hm, mz⟩ := hx
      have rB : Rel (fun b _ => b = P) noV s s' := (r₂.weak (fun _ _ q => q.elim) fun _ q => q.elim).trans r₃
      have rC : Rel (fun b _ => b = P) noV s s₁'' := (rB.trans (q₁.weak (fun _ _ q => q.elim) fun _ q => q.elim)).trans (q₂.weak (fun _ _ q => q.elim) fun _ q => q.elim)
      have hsD : s.heap.objs.size ≤ D' := by rw [hD']; exact (rB.mono.trans q₁.mono).1
      have hnew : ∀ b, b ∈ D' :: wr → s.heap.objs.size ≤ b := fun b hb => by
        rcases List.mem_cons.mp hb with rfl | hb
        · exact hsD
        · rcases hwr b hb with h | h
          · exact Nat.le_trans r₂.mono.1 h
          · rw [h]; exact sz
      have rD : Rel (fun b _ => b = P) noV s s₂ := rC.tf (movedQ_rel hm mz) (fun b o hb => .inl (hnew b hb)) fun k q => .inl (by rw [q, hg']; exact r₂.mono.2)
      have g₄ : GS hB c P s₂.heap := ((g₃.rel T q₁ fun _ _ q => q.elim).rel T q₂ fun _ _ q => q.elim).rel T (movedQ_rel hm mz) fun b o hb => Nat.le_trans hsB (hnew b hb)
      exact hQ D' s₂ rD g₄ hsD hr
end
end Mine

/-! G11 -/
set_option linter.unusedVariables false
set_option maxRecDepth 100000
namespace Mine
open PySem PySem.W PyProof.Rows
open Sem (wp)

/-- the channels below i brought to their new depth -/
def scaleTo (ps : List (Int × Int)) (xs : List Int) (L : Nat) : Nat → List Int
  | 0 => xs
  | i + 1 => putL (scaleTo ps xs L i) ((pickL xs i ps.length L).map (scaled (ps.getD i (0, 1)))) i ps.length L
def scaleRow (ps : List (Int × Int)) (xs : List Int) : List Int := (List.range xs.length).map fun j => scaled (ps.getD (j % ps.length) (0, 1)) (xs.getD j 0)
theorem scaleTo_length (ps : List (Int × Int)) (xs : List Int) (L : Nat) : ∀ i, (scaleTo ps xs L i).length = xs.length
  | 0 => rfl
  | i + 1 => by unfold scaleTo; rw [putL_length, scaleTo_length]
theorem scaleTo_getD (ps : List (Int × Int)) (xs : List Int) (L : Nat) (hL : xs.length = L * ps.length) (j : Nat) (hj : j < xs.length) : ∀ i, (scaleTo ps xs L i).getD j 0 = if j % ps.length < i then scaled (ps.getD (j % ps.length) (0, 1)) (xs.getD j 0) else xs.getD j 0
  | 0 => by simp [scaleTo]
  | i + 1 => by
    unfold scaleTo
    rw [putL_getD _ _ _ _ _ _ (by rw [scaleTo_length]; exact hj), scaleTo_getD ps xs L hL j hj i]
    have hq : j / ps.length < L := Nat.div_lt_of_lt_mul (by rw [Nat.mul_comm, ← hL]; exact hj)
    by_cases h : j % ps.length = i
    · rw [if_pos ⟨h, hq⟩, if_pos (by omega)]
      have e : i + ps.length * (j / ps.length) = j := by rw [← h, Nat.mod_add_div]
      unfold pickL
      simp [List.getD, hq, e, h]
    · rw [if_neg (fun x => h x.1)]
      by_cases h2 : j % ps.length < i
      · rw [if_pos h2, if_pos (by omega)]
      · rw [if_neg h2, if_neg (by omega)]
theorem scaleTo_all (ps : List (Int × Int)) (xs : List Int) (L : Nat) (hn : 0 < ps.length) (hL : xs.length = L * ps.length) : scaleTo ps xs L ps.length = scaleRow ps xs := by
  refine list_ext_getD (by rw [scaleTo_length]; simp [scaleRow]) fun j hj => ?_
  rw [scaleTo_length] at hj
  rw [scaleTo_getD ps xs L hL j hj, if_pos (Nat.mod_lt _ hn)]
  unfold scaleRow
  simp [List.getD, hj]

section
variable {prog : Program} {w : World} {A : Around} {s : Shared} {env : Env}

theorem range_of1 {E : Value → Shared → Prop} {n : Int} {t : Tok} {Q : Value → Shared → Prop} (h : ∀ r s', Rel noX noV s s' → s'.gens = s.gens → s.heap.objs.size ≤ r → (∃ t u v, IsRange s'.heap r 0 n 1 t u v) → Q (.ref r) s') :
    wpAny (model prog w) A (call (.type "range") [.int n t]) Q E s :=
  call_range_1 (h _ _ (Rel.push (tk := s.toks + 1 + 1)) rfl (Nat.le_refl _) ⟨_, _, _, IsRange.new _ _ _ _ _ _ _⟩)
theorem range_of2 {E : Value → Shared → Prop} {a b : Int} {t u : Tok} {Q : Value → Shared → Prop} (h : ∀ r s', Rel noX noV s s' → s'.gens = s.gens → s.heap.objs.size ≤ r → (∃ t u v, IsRange s'.heap r a b 1 t u v) → Q (.ref r) s') :
    wpAny (model prog w) A (call (.type "range") [.int a t, .int b u]) Q E s :=
  call_range_2 (h _ _ (Rel.push (tk := s.toks + 1)) rfl (Nat.le_refl _) ⟨_, _, _, IsRange.new _ _ _ _ _ _ _⟩)
theorem iter_of_range {E : Value → Shared → Prop} {r : Addr} {a b : Int} {n : Nat} {t u v : Tok} {Q : Value → Shared → Prop} (hr : IsRange s.heap r a b 1 t u v) (hn : b = a + n) (ha : -(2 ^ 61) ≤ a) (ha' : a < 2 ^ 61) (hn' : n < 2 ^ 61)
    (h : ∀ s', Rel noX noV s s' → s'.gens = s.gens → IsRangeIter s'.heap s.heap.objs.size a n 1 → Q (.ref s.heap.objs.size) s') : wpAny (model prog w) A (pyIter (.ref r)) Q E s := by
  have e : Builtin.Range.rangeSize a b 1 = (n : Int) := by
    rw [rangeSize_one, hn]
    split <;> omega
  refine wpAny_pyIter_range hr (small_one (by omega) (by omega) (by omega) (by omega)) ?_
  rw [e]
  exact h _ (Rel.push (tk := s.toks)) rfl (Heap.get?_push_size _ rfl)

theorem codeD_forRange {R : Flow → Shared → Prop} {x : Str} {px : Pos} {body : List Stmt} {it : Addr} {a : Int} {n : Nat} (hh : A.handled = none) (J : Nat → Shared → Prop)
    (h0 : J 0 s) (hit : ∀ i s, i ≤ n → J i s → IsRangeIter s.heap it (a + i) ((n : Int) - i) 1)
    (turn : ∀ i s, i < n → J i s → ∀ s₁ t, Rel (fun b _ => b = it) noV s s₁ → IsRangeIter s₁.heap it (a + (i + 1 : Nat)) ((n : Int) - (i + 1 : Nat)) 1 →
      wpD (model prog w) A (storeName env x (.int (a + i) t)) (fun _ s₂ => wpD (model prog w) A (execs body env) (fun f s₃ => f = .next ∧ J (i + 1) s₃) s₂) s₁)
    (fin : ∀ s s₁, J n s → Rel (fun b _ => b = it) noV s s₁ → R .next s₁) : codeD (model prog w) A (.forLoop (.Name x px) (.ref it) body [] env) R s := by
  refine codeD_forLoop (fun k s => ∃ i, i ≤ n ∧ k = n + 1 - i ∧ J i s) (fun k s hI => ?_) (n + 1) ⟨0, Nat.zero_le _, rfl, h0⟩
  obtain ⟨i, hi, rfl, hJ⟩ := hI
  have hI := hit i s hi hJ
  by_cases hlt : i < n
  · refine wpD_of (wpAny_pyNext_range_item hI (by omega) fun h' hi' hs' => ?_)
    refine wpD_of_eq (rfl : letOwnedTupleGo (.Name x px) (.ref it) _ = pure ()) (wpD_assign_Name ?_)
    refine wpD_mono (turn i s hlt hJ _ _ (Rel.only (tk := s.toks + 1) (fun b o e q => hs'.extBut b o q e) (Nat.le_of_eq hs'.1.symm)) ?_) fun _ s₂ h₂ => wpD_mono h₂ fun f s₃ h₃ => ⟨h₃.1, n + 1 - (i + 1), by omega, i + 1, hlt, rfl, h₃.2⟩
    have e1 : (a + (i : Int) + 1) = a + ((i + 1 : Nat) : Int) := by omega
    have e2 : ((n : Int) - i - 1) = (n : Int) - ((i + 1 : Nat) : Int) := by omega
    rw [← e1, ← e2]; exact hi'
  · have hin : i = n := by omega
    subst hin
    refine wpD_grow (wpD_of (wpAny_pyNext_range_end hh hI (by omega) fun h' he => ?_))
    intro mz
    exact fin s _ hJ (Rel.only (tk := s.toks) (fun b o e q => he b o q e) mz.1)
end
end Mine

/-! G12 -/
set_option linter.unusedVariables false
set_option maxRecDepth 100000
namespace Mine
open PySem PySem.W PyProof.Rows
open Sem (wp)

/-- what the walk through a row writes of old things -/
abbrev XR (P : Addr) (env : Env) : Addr → Obj → Prop := fun b o => b = P ∨ (Own env b ∧ Fk o)

theorem dk_fk {o : Obj} (h : Dk o) : ¬ Fk o := by
  unfold Dk at h; unfold Fk
  cases hd : o.data <;> simp_all
theorem Rel.own {X : Addr → Obj → Prop} {V : Nat → Prop} {s s' : Shared} {sc : Scope} {env : Env} {m : Str → Option Value} (r : Rel X V s s') (F : Frm sc env s.heap m) (hX : ∀ b o, X b o → Own env b) : Rel (OwnX env) V s s' :=
  ⟨fun b o e n => r.heap b o e fun q => by
    obtain ⟨o', e', f⟩ := F.own_at (hX b o q)
    rw [e] at e'; cases e'
    exact n ⟨hX b o q, f⟩, r.mono, r.gens, r.bare, r.os⟩

section
variable {prog : Program} {w : World} {A : Around} {s : Shared} {d u : Nat} {mg mb : Str → Option Value} {hB : Heap} {aA aR c P : Addr} {cA : Value} {env : Env} {m : Str → Option Value}

theorem GS.notDk {h : Heap} {o : Obj} (g : GS hB c P h) (e : h.get? P = some o) : ¬ Dk o := by
  obtain ⟨ps, _, h2⟩ := g.tab
  rw [h2.2] at e; cases e; exact id

/-- the values that the walk through a row looks at -/
structure Look (kt : Kd) (ps : List (Int × Int)) (afs ar ad : Addr) (tt tn : Tok) (m : Str → Option Value) : Prop where
  row : m (Str.ofString "row") = some (.ref ar)
  rr : m (Str.ofString "rescaled_row") = some (.ref ad)
  tc : m (Str.ofString "typecode") = some (.str kt.code tt)
  n : m (Str.ofString "n_chans") = some (.int (ps.length : Int) tn)
  fs : m (Str.ofString "fs") = some (.ref afs)
theorem Look.upd {kt : Kd} {ps : List (Int × Int)} {afs ar ad : Addr} {tt tn : Tok} {x : Str} {v : Value} (l : Look kt ps afs ar ad tt tn m)
    (hx : x ∉ [Str.ofString "row", Str.ofString "rescaled_row", Str.ofString "typecode", Str.ofString "n_chans", Str.ofString "fs"]) : Look kt ps afs ar ad tt tn (upd m x v) := by
  simp only [List.mem_cons, List.not_mem_nil, or_false, not_or] at hx
  obtain ⟨h1, h2, h3, h4, h5⟩ := hx
  exact ⟨(upd_ne (Ne.symm h1)).trans l.row, (upd_ne (Ne.symm h2)).trans l.rr, (upd_ne (Ne.symm h3)).trans l.tc, (upd_ne (Ne.symm h4)).trans l.n, (upd_ne (Ne.symm h5)).trans l.fs⟩

/-- for i in range(n_chans): .. -/
theorem inner_for {ks kt : Kd} {ps : List (Int × Int)} {afs ar ad : Addr} {tt tn : Tok} {xs : List Int} {L : Nat} {s₀ : Shared} {m₀ : Str → Option Value} {Q : Flow → Shared → Prop}
    (hA : OkA A d u) (hd : d < 800) (T : Txt mg mb hB aA aR c P cA) (R : RFr hB c P kt ps afs tt tn s₀ env m₀) (r : RowAt ks s₀.heap ar xs) (hz : xs.length ≤ 1000) (hL : xs.length = L * ps.length) (hL1 : 1 ≤ L) (hps : 0 < ps.length)
    (hb : kt = .B → ∀ i j, i < ps.length → j < L → 0 ≤ scaled (ps.getD i (0, 1)) (xs.getD (i + ps.length * j) 0) ∧ scaled (ps.getD i (0, 1)) (xs.getD (i + ps.length * j) 0) < 256)
    (rel : Rel (XR P env) noV s₀ s) (F : Frm rscSc env s.heap m) (g : GS hB c P s.heap) (lk : Look kt ps afs ar ad tt tn m) (hnew : s₀.heap.objs.size ≤ ad) (rd : RowAt kt s.heap ad xs)
    (hQ : ∀ s' m', Rel (XR P env) noV s₀ s' → Frm rscSc env s'.heap m' → GS hB c P s'.heap → Look kt ps afs ar ad tt tn m' → RowAt kt s'.heap ad (scaleRow ps xs) → Q .next s') :
    wpD (model prog w) A (exec rscIn env) Q s := by
  have hsB : hB.objs.size ≤ s₀.heap.objs.size := by
    obtain ⟨o, ho, _⟩ := R.F.own_at (.inl rfl)
    exact Nat.le_trans (R.own _ (.inl rfl)) (Nat.le_of_lt (Heap.lt_size ho))
  have hP0 : P < s₀.heap.objs.size := Nat.lt_of_lt_of_le T.cP.2 hsB
  have ownLt : ∀ b, Own env b → b < s₀.heap.objs.size := fun b hb => R.F.own_lt hb
  -- the facts at a later state
  have mk : ∀ s' m', Rel (XR P env) noV s₀ s' → Frm rscSc env s'.heap m' → GS hB c P s'.heap → Look kt ps afs ar ad tt tn m' → RFr hB c P kt ps afs tt tn s' env m' ∧ RowAt ks s'.heap ar xs := fun s' m' r' F' g' l' => by
    have dk : ∀ b o, s₀.heap.get? b = some o → Dk o → s'.heap.get? b = some o := fun b o e hd => r'.heap b o e fun q => by
      rcases q with q | q
      · subst q; exact R.g.notDk e hd
      · exact dk_fk hd q.2
    exact ⟨{ F := F', g := g', code := R.code, own := R.own, tc := l'.tc, n := l'.n, fs := l'.fs, FS := R.FS.at dk, few := R.few, ok := R.ok }, r.at fun o e hd => dk _ o e hd⟩
  have hne : ad ≠ ar := fun q => Nat.lt_irrefl _ (Nat.lt_of_lt_of_le (q ▸ r.lt) hnew)
  refine wpD_For (wpD_Call (wpD_of (ev_builtin F (g.glb T) (T.none _ (by simp)) (v := .type "range") (by with_unfolding_all rfl) (by decide) ?_ rfl (by decide))))
  refine wpD_callWith_type rfl (wpD_of (evalArgs_one rfl (ev_local F lk.n (wpD_of (range_of1 fun ra s₁ r₁ hg₁ hra hr₁ => ?_)) rfl)))
  obtain ⟨t1, u1, v1, hr₁⟩ := hr₁
  have hfew := R.few
  refine wpD_of (iter_of_range (n := ps.length) hr₁ (by omega) (by decide) (by decide) (by omega) fun s₂ r₂ hg₂ hI => ?_)
  generalize hIeq : s₁.heap.objs.size = I at *
  have hIn : s₀.heap.objs.size ≤ I := by rw [← hIeq]; exact Nat.le_trans rel.mono.1 r₁.mono.1
  have rel₂ : Rel (XR P env) noV s₀ s₂ := (rel.trans r₁.up).trans r₂.up
  have hIad : I ≠ ad := fun q => by
    have := (r₁.mono.1 : s.heap.objs.size ≤ s₁.heap.objs.size)
    rw [hIeq, q] at this
    exact Nat.lt_irrefl _ (Nat.lt_of_lt_of_le rd.lt this)
  refine codeD_forRange (a := 0) (n := ps.length) hA.handled (fun i s => ∃ m', Rel (XR P env) noV s₀ s ∧ Frm rscSc env s.heap m' ∧ GS hB c P s.heap ∧ Look kt ps afs ar ad tt tn m' ∧ RowAt kt s.heap ad (scaleTo ps xs L i) ∧ IsRangeIter s.heap I (0 + (i : Int)) ((ps.length : Int) - i) 1)
    ⟨m, rel₂, (F.keep r₁).keep r₂, (g.rel T r₁ fun _ _ q => q.elim).rel T r₂ fun _ _ q => q.elim, lk, (rd.at fun o e _ => r₁.keeps _ o e).at fun o e _ => r₂.keeps _ o e, ?_⟩ (fun i s hi hJ => ?_) (fun i s' hi hJ s₃ t r₃ hI₃ => ?_) fun s' s₃ hJ r₃ => ?_
  · have : IsRangeIter s₂.heap I 0 (ps.length : Int) 1 := hI
    simpa using this
  · obtain ⟨m', _, _, _, _, _, h⟩ := hJ; exact h
  · obtain ⟨m', q1, q2, q3, q4, q5, _⟩ := hJ
    have xI : ∀ b (o : Obj), b = I → s₀.heap.objs.size ≤ b := fun b o q => q ▸ hIn
    have ownI : ∀ b, Own env b → b ≠ I := fun b hb q => Nat.lt_irrefl _ (Nat.lt_of_lt_of_le (q ▸ ownLt b hb) hIn)
    have rel₃ : Rel (XR P env) noV s₀ s₃ := q1.tf r₃ (fun b o q => .inl (xI b o q)) fun k q => q.elim
    have F₃ := q2.rel r₃ fun b o q hb _ => ownI b hb q
    have g₃ := q3.rel T r₃ fun b o q => Nat.le_trans hsB (xI b o q)
    have d₃ : RowAt kt s₃.heap ad (scaleTo ps xs L i) := q5.at fun o e _ => r₃.heap _ o e fun q => hIad q.symm
    refine wpD_of (store_cell (V := noV) F₃ (fun s₄ r₄ F₄ => ?_) (by rfl))
    have r₄' := r₄.own F₃ fun b o q => Or.inr ⟨_, q⟩
    have rel₄ : Rel (XR P env) noV s₀ s₄ := rel₃.trans (r₄'.weak (fun b o q => .inr q) fun _ q => q)
    have g₄ := g₃.rel T r₄' fun b o q => R.own b q.1
    have d₄ : RowAt kt s₄.heap ad (scaleTo ps xs L i) := d₃.at fun o e hd => r₄'.heap _ o e fun q => dk_fk hd q.2
    have I₄ : IsRangeIter s₄.heap I (0 + ((i + 1 : Nat) : Int)) ((ps.length : Int) - ((i + 1 : Nat) : Int)) 1 := r₄'.heap _ _ hI₃ fun q => ownI _ q.1 rfl
    have l₄ := q4.upd (x := Str.ofString "i") (v := .int (0 + (i : Int)) t) (by decide)
    obtain ⟨R₄, row₄⟩ := mk s₄ _ rel₄ F₄ g₄ l₄
    refine wpD_seq (wpD_Assign (channel_value hA (by omega) T R₄ l₄.row row₄ hz (ti := t) (i := i) (by rw [Int.zero_add]; exact upd_self) hi hL (fun hk j hj => hb hk i j hi hj) fun D s₅ r₅ g₅ hD₅ row₅ => ?_))
    have F₅ := F₄.rel r₅ fun b o q hb _ => R₄.ownP T b hb q
    have rel₅ : Rel (XR P env) noV s₀ s₅ := rel₄.trans (r₅.weak (fun b o q => .inl q) fun _ q => q)
    have d₅ : RowAt kt s₅.heap ad (scaleTo ps xs L i) := d₄.at fun o e hd => r₅.heap _ o e fun q => by
      subst q; exact g₄.notDk e hd
    have I₅ : IsRangeIter s₅.heap I (0 + ((i + 1 : Nat) : Int)) ((ps.length : Int) - ((i + 1 : Nat) : Int)) 1 := r₅.heap _ _ I₄ fun q => Nat.lt_irrefl _ (Nat.lt_of_lt_of_le (q ▸ hP0) hIn)
    refine wpD_of (store_local (V := noV) F₅ (fun s₆ r₆ F₆ => ⟨rfl, ?_⟩) (by rfl))
    have r₆' := r₆.own F₅ fun b o q => Or.inl q
    have rel₆ : Rel (XR P env) noV s₀ s₆ := rel₅.trans (r₆'.weak (fun b o q => .inr q) fun _ q => q)
    have g₆ := g₅.rel T r₆' fun b o q => R.own b q.1
    have d₆ : RowAt kt s₆.heap ad (scaleTo ps xs L i) := d₅.at fun o e hd => r₆'.heap _ o e fun q => dk_fk hd q.2
    have I₆ : IsRangeIter s₆.heap I (0 + ((i + 1 : Nat) : Int)) ((ps.length : Int) - ((i + 1 : Nat) : Int)) 1 := r₆'.heap _ _ I₅ fun q => ownI _ q.1 rfl
    have row₆ : RowAt kt s₆.heap D ((pickL xs i ps.length L).map (scaled (ps.getD i (0, 1)))) := row₅.at fun o e hd => r₆'.heap _ o e fun q => dk_fk hd q.2
    have l₆ := l₄.upd (x := Str.ofString "channel") (v := .ref D) (by decide)
    have hDad : ad ≠ D := fun q => Nat.lt_irrefl _ (Nat.lt_of_lt_of_le (q ▸ d₄.lt) hD₅)
    have i₆ : upd (upd m' (Str.ofString "i") (.int (0 + (i : Int)) t)) (Str.ofString "channel") (.ref D) (Str.ofString "i") = some (.int (i : Int) t) := by
      rw [upd_ne (by decide), upd_self, Int.zero_add]
    refine wpD_seq (wpD_of (wpAny_Assign_Subscript (ev_local F₆ upd_self (ev_local F₆ l₆.rr (wpAny_Slice ?_) rfl) rfl)))
    refine ev_cell F₆ i₆ ?_ rfl
    refine wpAny_pure ?_
    refine ev_local F₆ l₆.n ?_ rfl
    have hk : ∀ b o, s₆.heap.get? b = some o → (s₆.heap.push { cls := .type "slice", data := .fields #[.int (i : Int) t, .none, .int (ps.length : Int) tn] }).get? b = some o := fun b o e => Heap.get?_push_of_some _ e
    refine setItem_row (s := { s₆ with heap := s₆.heap.push { cls := .type "slice", data := .fields #[.int (i : Int) t, .none, .int (ps.length : Int) tn] } }) (L := L) (d₆.at fun o e _ => hk _ o e) (row₆.at fun o e _ => hk _ o e) hDad ⟨_, Heap.get?_push_size _ rfl, rfl, rfl⟩ hi hL1
      (by rw [scaleTo_length, hL]) (by rw [List.length_map, pickL_length]) (by rw [scaleTo_length]; exact hz) fun h' hs' d₇ => ?_
    have r₇ : Rel (fun b _ => b = ad) noV s₆ { s₆ with heap := h' } := by
      refine ⟨fun b o e q => hs'.extBut b o q (hk b o e), ⟨?_, Nat.le_refl _⟩, fun _ _ _ e => e, fun x => x, rfl⟩
      show s₆.heap.objs.size ≤ h'.objs.size
      rw [hs'.1, Heap.size_push]; exact Nat.le_succ _
    refine ⟨rfl, wpD_nil ⟨rfl, _, rel₆.tf r₇ (fun b o q => .inl (q ▸ hnew)) fun k q => q.elim, F₆.rel r₇ fun b o q hb _ => Nat.lt_irrefl _ (Nat.lt_of_lt_of_le (q ▸ ownLt b hb) hnew), g₆.rel T r₇ fun b o q => Nat.le_trans hsB (q ▸ hnew), l₆, d₇, ?_⟩⟩
    exact r₇.heap _ _ I₆ fun q => hIad q
  · obtain ⟨m', q1, q2, q3, q4, q5, _⟩ := hJ
    rw [scaleTo_all ps xs L hps hL] at q5
    have ownI : ∀ b, Own env b → b ≠ I := fun b hb q => Nat.lt_irrefl _ (Nat.lt_of_lt_of_le (q ▸ ownLt b hb) hIn)
    exact hQ s₃ m' (q1.tf r₃ (fun b o q => .inl (q ▸ hIn)) fun k q => q.elim) (q2.rel r₃ fun b o q hb _ => ownI b hb q) (q3.rel T r₃ fun b o q => Nat.le_trans hsB (q ▸ hIn)) q4 (q5.at fun o e _ => r₃.heap _ o e fun q => hIad q.symm)
end
end Mine

/-! G13 -/
set_option linter.unusedVariables false
set_option maxRecDepth 100000
namespace Mine
open PySem PySem.W PyProof.Rows
open Sem (wp)

/-- the consumer's own stretch of addresses -/
abbrev XI (lo hi : Nat) : Addr → Obj → Prop := fun b _ => lo ≤ b ∧ b < hi
/-- what one turn of the generator may write -/
abbrev XG (c0 lo hi : Nat) (P : Addr) : Addr → Obj → Prop := fun b o => b = P ∨ (c0 ≤ b ∧ ¬ (lo ≤ b ∧ b < hi) ∧ ¬ Dk o)

/-- the pairs of factors, all made after hi -/
def FsHi (hi : Nat) (h : Heap) (afs : Addr) (ps : List (Int × Int)) : Prop :=
  ∃ refs : List Value, h.PlainList afs refs.toArray ∧ hi ≤ afs ∧ refs.length = ps.length ∧ ∀ j, j < ps.length → ∃ ta t u n, hi ≤ ta ∧ refs[j]? = some (.ref ta) ∧ h.get? ta = some { cls := .type "tuple", data := .seq #[.int (ps.getD j (0, 1)).1 t, .int (ps.getD j (0, 1)).2 u] n }
theorem FsHi.fs {hi : Nat} {h : Heap} {afs : Addr} {ps : List (Int × Int)} (x : FsHi hi h afs ps) : FsAt h afs ps :=
  let ⟨refs, h1, _, h2, h3⟩ := x; ⟨refs, h1, h2, fun j hj => let ⟨ta, t, u, n, _, e1, e2⟩ := h3 j hj; ⟨ta, t, u, n, e1, e2⟩⟩
theorem FsHi.at {hi : Nat} {h h' : Heap} {afs : Addr} {ps : List (Int × Int)} (x : FsHi hi h afs ps) (hk : ∀ b o, hi ≤ b → h.get? b = some o → Dk o → h'.get? b = some o) : FsHi hi h' afs ps := by
  obtain ⟨refs, ⟨n, e⟩, ha, hl, hr⟩ := x
  exact ⟨refs, ⟨n, hk _ _ ha e trivial⟩, ha, hl, fun j hj => let ⟨ta, t, u, n, h0, e1, e2⟩ := hr j hj; ⟨ta, t, u, n, h0, e1, hk _ _ h0 e2 trivial⟩⟩

/-- a list of rows -/
def RowsAt (ks : Kd) (h : Heap) (ax : Addr) (xss : List (List Int)) : Prop :=
  ∃ refs : List Value, h.PlainList ax refs.toArray ∧ refs.length = xss.length ∧ ∀ j, j < xss.length → ∃ a, refs[j]? = some (.ref a) ∧ RowAt ks h a (xss.getD j [])
theorem RowsAt.at {ks : Kd} {h h' : Heap} {ax : Addr} {xss : List (List Int)} (x : RowsAt ks h ax xss) (hk : ∀ b o, h.get? b = some o → Dk o → h'.get? b = some o) : RowsAt ks h' ax xss := by
  obtain ⟨refs, ⟨n, e⟩, hl, hr⟩ := x
  exact ⟨refs, ⟨n, hk _ _ e trivial⟩, hl, fun j hj => let ⟨a, e1, e2⟩ := hr j hj; ⟨a, e1, e2.at fun o e hd => hk _ o e hd⟩⟩

/-- what a row must be for the scaling -/
structure RowOk (kt : Kd) (ps : List (Int × Int)) (L : Nat) (xs : List Int) : Prop where
  len : xs.length = L * ps.length
  few : xs.length ≤ 1000
  b0 : kt = .B → ∀ i, i < xs.length → 0 ≤ xs.getD i 0 ∧ xs.getD i 0 < 256
  b1 : kt = .B → ∀ i j, i < ps.length → j < L → 0 ≤ scaled (ps.getD i (0, 1)) (xs.getD (i + ps.length * j) 0) ∧ scaled (ps.getD i (0, 1)) (xs.getD (i + ps.length * j) 0) < 256

/-- what a turn gives -/
def YR (hB : Heap) (c : Addr) (c0 lo hi g : Nat) (P : Addr) (kt : Kd) (out : List (List Int)) : Protocol := fun n s₀ v s kap =>
  Rel (XG c0 lo hi P) noV s₀ s ∧ GS hB c P s.heap ∧ (∃ a, v = .ref a ∧ hi ≤ a ∧ RowAt kt s.heap a (out.getD (out.length - 1 - n) [])) ∧ ∀ s'', Rel (XI lo hi) (· = g) s s'' → kap (.send .none) s''
def ER (hB : Heap) (c : Addr) (c0 lo hi : Nat) (P : Addr) : GenEnd := fun n s₀ r s => r = .ok (.ret .none) ∧ (n = 0 ∧ Rel (XG c0 lo hi P) noV s₀ s ∧ GS hB c P s.heap)

abbrev rscBody : List Stmt := dBody (stAt 3)

section
variable {prog : Program} {w : World} {A : Around} {d u : Nat} {mg mb : Str → Option Value} {hB hC : Heap} {aA aR c P : Addr} {cA : Value} {env : Env} {c0 lo hi g : Nat}
  {ks kt : Kd} {ps : List (Int × Int)} {ax : Addr} {xss : List (List Int)} {L : Nat}

/-- the state at the head of the loop over the rows -/
structure GI (hB hC : Heap) (c P : Addr) (env : Env) (hi : Nat) (kt : Kd) (ps : List (Int × Int)) (I ax afs : Addr) (tt tn : Tok) (j : Nat) (s : Shared) : Prop where
  frm : ∃ m, Frm rscSc env s.heap m ∧ m (Str.ofString "typecode") = some (.str kt.code tt) ∧ m (Str.ofString "n_chans") = some (.int (ps.length : Int) tn) ∧ m (Str.ofString "fs") = some (.ref afs)
  g : GS hB c P s.heap
  FS : FsHi hi s.heap afs ps
  keepC : ∀ b o, hC.get? b = some o → Dk o → s.heap.get? b = some o
  it : s.heap.IsListIter I ax j

/-- what does not change while the generator lives -/
structure GC (mg mb : Str → Option Value) (hB hC : Heap) (aA aR c P : Addr) (cA : Value) (env : Env) (c0 lo hi : Nat) (ks kt : Kd) (ps : List (Int × Int)) (ax : Addr) (xss : List (List Int)) (L : Nat) : Prop where
  T : Txt mg mb hB aA aR c P cA
  code : env.code = .ref c
  own : ∀ b, Own env b → c0 ≤ b ∧ b < lo
  base : hB.objs.size ≤ c0
  hCs : hC.objs.size ≤ c0
  lohi : c0 ≤ lo ∧ lo ≤ hi
  rows : RowsAt ks hC ax xss
  rok : ∀ j, j < xss.length → RowOk kt ps L (xss.getD j [])
  L1 : 1 ≤ L
  ps0 : 0 < ps.length
  few : ps.length ≤ 1000
  ok : ∀ j, j < ps.length → (0 ≤ (ps.getD j (0, 1)).1 ∧ (ps.getD j (0, 1)).1 < 2 ^ 20) ∧ (0 < (ps.getD j (0, 1)).2 ∧ (ps.getD j (0, 1)).2 < 2 ^ 20)
  kk : kt = .H → ks = .H
  inter : interactive env = false

theorem GI.stable {I afs : Addr} {tt tn : Tok} {j : Nat} {s s' : Shared} {V : Nat → Prop} (C : GC mg mb hB hC aA aR c P cA env c0 lo hi ks kt ps ax xss L) (hI : hi ≤ I) (G : GI hB hC c P env hi kt ps I ax afs tt tn j s) (r : Rel (XI lo hi) V s s') :
    GI hB hC c P env hi kt ps I ax afs tt tn j s' where
  frm := by
    obtain ⟨m, F, q⟩ := G.frm
    exact ⟨m, F.rel r fun b o q hb _ => Nat.lt_irrefl _ (Nat.lt_of_lt_of_le (C.own b hb).2 q.1), q⟩
  g := G.g.rel C.T r fun b o q => Nat.le_trans C.base (Nat.le_trans C.lohi.1 q.1)
  FS := G.FS.at fun b o hb e _ => r.heap b o e fun q => Nat.lt_irrefl _ (Nat.lt_of_lt_of_le q.2 hb)
  keepC := fun b o e hd => r.heap b o (G.keepC b o e hd) fun q => Nat.lt_irrefl _ (Nat.lt_of_lt_of_le (Heap.lt_size e) (Nat.le_trans C.hCs (Nat.le_trans C.lohi.1 q.1)))
  it := by
    obtain ⟨o, e, q⟩ := G.it
    exact ⟨o, r.heap _ o e fun q => Nat.lt_irrefl _ (Nat.lt_of_lt_of_le q.2 hI), q⟩

abbrev outOf (ps : List (Int × Int)) (xss : List (List Int)) : List (List Int) := xss.map (scaleRow ps)

theorem xg_own {b : Addr} {o : Obj} (C : GC mg mb hB hC aA aR c P cA env c0 lo hi ks kt ps ax xss L) (hb : Own env b) (hf : Fk o) : XG c0 lo hi P b o :=
  .inr ⟨(C.own b hb).1, fun q => Nat.lt_irrefl _ (Nat.lt_of_lt_of_le (C.own b hb).2 q.1), fun q => dk_fk q hf⟩

theorem gen_loop {I afs : Addr} {tt tn : Tok} {k₀ : Result → Sem PySem.Fin} {p px : Pos} (C : GC mg mb hB hC aA aR c P cA env c0 lo hi ks kt ps ax xss L) (hA : OkA A d u) (hd : d < 700) (hI : hi ≤ I) (hfew : xss.length ≤ 1000)
    (hk : k₀ (.ok .next) = leafOf (.ok (.ret .none))) :
    ∀ (n j : Nat) (s₀ s : Shared), j + n = xss.length → Rel (XG c0 lo hi P) noV s₀ s → hi ≤ s₀.heap.objs.size → GI hB hC c P env hi kt ps I ax afs tt tn j s →
      SegD (model prog w) A (ER hB c c0 lo hi P) (YR hB c c0 lo hi g P kt (outOf ps xss)) n s₀ (.forLoop (.Name (Str.ofString "row") px) (.ref I) (forBody rscFor) [] env)
        ((model prog w).den (.forLoop (.Name (Str.ofString "row") px) (.ref I) (forBody rscFor) [] env)) [.ret k₀ none false [] (.func rscBody env) p []] s := by
  have hA' : OkA (A.over (.forLoop (.Name (Str.ofString "row") px) (.ref I) (forBody rscFor) [] env) [.ret k₀ none false [] (.func rscBody env) p []]) (d + 1) (u + 8) := hA.over_for rscBody env
  have hfs : FsOk [.ret k₀ none false [] (.func rscBody env) p []] := fun f hf => by
    rw [List.mem_singleton.mp hf]; rfl
  have hc0I : c0 ≤ I := Nat.le_trans (Nat.le_trans C.lohi.1 C.lohi.2) hI
  have xI : ∀ b (o : Obj), b = I → Ik o → XG c0 lo hi P b o := fun b o q hk => .inr ⟨q ▸ hc0I, fun z => Nat.lt_irrefl _ (Nat.lt_of_lt_of_le (q ▸ z.2) hI), fun z => by
    unfold Dk at z; unfold Ik at hk
    cases hd' : o.data <;> simp_all⟩
  have ownI : ∀ b, Own env b → b ≠ I := fun b hb q => Nat.lt_irrefl _ (Nat.lt_of_lt_of_le (Nat.lt_of_lt_of_le (C.own b hb).2 (Nat.le_trans C.lohi.2 hI)) (Nat.le_of_eq q.symm))
  obtain ⟨refs, hrefs, hrl, hrr⟩ := C.rows
  have baseI : hB.objs.size ≤ I := Nat.le_trans C.base hc0I
  intro n
  induction n with
  | zero =>
    intro j s₀ s hj rel hi0 G
    have hjn : j = xss.length := by omega
    subst hjn
    refine segD_forTurn hfs ?_
    obtain ⟨nl, hlo⟩ := hrefs
    have hl : s.heap.IsList ax refs.toArray := ⟨_, G.keepC _ _ hlo trivial, rfl, nl, rfl⟩
    refine wpD_grow (wpD_of (wpAny_pyNext_list_end hA'.handled G.it hl (by simp [hrl]) fun h' he' => ?_))
    intro mz
    refine segD_leaf _ ?_
    rw [hk]
    have rI : Rel (fun b _ => b = I) noV s { s with heap := h' } := ⟨fun b o e q => he' b o q e, mz, fun _ _ _ e => e, fun x => x, rfl⟩
    refine segD_end _ ⟨rfl, rfl, ?_, G.g.rel C.T rI fun b o q => q ▸ baseI⟩
    obtain ⟨oI, eI, _, dI⟩ := G.it
    refine rel.trans ⟨fun b o e q => he' b o (fun z => q (xI b o z ?_)) e, mz, fun _ _ _ e => e, fun x => x, rfl⟩
    subst z
    rw [eI] at e; cases e
    unfold Ik; rw [dI]; trivial
  | succ n ih =>
    intro j s₀ s hj rel hi0 G
    have hjl : j < xss.length := by omega
    refine segD_forTurn hfs ?_
    obtain ⟨nl, hlo⟩ := hrefs
    have hl : s.heap.IsList ax refs.toArray := ⟨_, G.keepC _ _ hlo trivial, rfl, nl, rfl⟩
    obtain ⟨ar, har, hrow⟩ := hrr j hjl
    refine wpD_of (wpAny_pyNext_list_item (x := .ref ar) G.it hl (by simpa using har) fun h₁ hit₁ hs₁ => ?_)
    refine wpD_of_eq (rfl : letOwnedTupleGo (.Name (Str.ofString "row") px) (.ref I) _ = pure ()) (wpD_assign_Name ?_)
    obtain ⟨m, F, m1, m2, m3⟩ := G.frm
    have r₁ : Rel (fun b _ => b = I) noV s { s with heap := h₁ } := Rel.only (tk := s.toks) (fun b o e q => hs₁.extBut b o q e) (Nat.le_of_eq hs₁.1.symm)
    have F₁ := F.rel r₁ fun b o q hb _ => ownI b hb q
    obtain ⟨oI, eI, _, dI⟩ := G.it
    have r₁' : Rel (XG c0 lo hi P) noV s { s with heap := h₁ } := ⟨fun b o e q => r₁.heap b o e fun z => q (xI b o z (by
      subst z; rw [eI] at e; cases e; unfold Ik; rw [dI]; trivial)), r₁.mono, r₁.gens, r₁.bare, r₁.os⟩
    have g₁ := G.g.rel C.T r₁ fun b o q => q ▸ baseI
    refine wpD_of (store_local (V := noV) F₁ (fun s₂ r₂ F₂ => ?_) (by rfl))
    have r₂' := r₂.own F₁ fun b o q => Or.inl q
    have own0 : ∀ b o, OwnX env b o → hB.objs.size ≤ b := fun b o q => Nat.le_trans C.base (C.own b q.1).1
    have g₂ := g₁.rel C.T r₂' own0
    have rel₂ : Rel (XG c0 lo hi P) noV s₀ s₂ := (rel.trans r₁').trans (r₂'.weak (fun b o q => xg_own C q.1 q.2) fun _ q => q)
    have dk₂ : ∀ b o, s.heap.get? b = some o → Dk o → s₂.heap.get? b = some o := fun b o e hd => by
      refine r₂'.heap b o (r₁.heap b o e fun q => ?_) fun q => dk_fk hd q.2
      subst q; rw [eI] at e; cases e; unfold Dk at hd; rw [dI] at hd; exact hd
    have row₂ : RowAt ks s₂.heap ar (xss.getD j []) := hrow.at fun o e hd => dk₂ _ o (G.keepC _ o e hd) hd
    have it₂ : s₂.heap.IsListIter I ax (j + 1) := by
      obtain ⟨o, e, q⟩ := hit₁
      exact ⟨o, r₂'.heap _ o e fun q => ownI _ q.1 rfl, q⟩
    have m1' := (upd_ne (m := m) (x := Str.ofString "row") (v := .ref ar) (y := Str.ofString "typecode") (by decide)).trans m1
    have m2' := (upd_ne (m := m) (x := Str.ofString "row") (v := .ref ar) (y := Str.ofString "n_chans") (by decide)).trans m2
    have m3' := (upd_ne (m := m) (x := Str.ofString "row") (v := .ref ar) (y := Str.ofString "fs") (by decide)).trans m3
    have FS₂ := G.FS.at (h' := s₂.heap) fun b o _ e hd => dk₂ b o e hd
    have R₂ : RFr hB c P kt ps afs tt tn s₂ env (upd m (Str.ofString "row") (.ref ar)) :=
      { F := F₂, g := g₂, code := C.code, own := fun b hb => Nat.le_trans C.base (C.own b hb).1, tc := m1', n := m2', fs := m3', FS := FS₂.fs, few := C.few, ok := C.ok }
    have ro := C.rok j hjl
    intro K' H' hK'
    refine segD_stmt rfl hfs (wpD_Assign (row_value hA' (by omega) C.T R₂ upd_self row₂ C.kk ro.few ro.b0 fun D s₃ r₃ g₃ hD₃ row₃ => ?_))
    have F₃ := F₂.keep r₃
    refine wpD_of (store_local (V := noV) F₃ (fun s₄ r₄ F₄ => ⟨rfl, ?_⟩) (by rfl))
    have r₄' := r₄.own F₃ fun b o q => Or.inl q
    have g₄ := g₃.rel C.T r₄' own0
    have relX : Rel (XR P env) noV s₂ s₄ := (r₃.up).trans (r₄'.weak (fun b o q => .inr q) fun _ q => q)
    have row₄ : RowAt kt s₄.heap D (xss.getD j []) := row₃.at fun o e hd => r₄'.heap _ o e fun q => dk_fk hd q.2
    have l₄ : Look kt ps afs ar D tt tn (upd (upd m (Str.ofString "row") (.ref ar)) (Str.ofString "rescaled_row") (.ref D)) :=
      ⟨(upd_ne (by decide)).trans upd_self, upd_self, (upd_ne (by decide)).trans m1', (upd_ne (by decide)).trans m2', (upd_ne (by decide)).trans m3'⟩
    refine segD_stmt rfl hfs (inner_for hA' (by omega) C.T R₂ row₂ ro.few ro.len C.L1 C.ps0 ro.b1 relX F₄ g₄ l₄ hD₃ row₄ fun s₅ m₅ rel₅ F₅ g₅ l₅ row₅ => ⟨rfl, ?_⟩)
    refine segD_cons ?_
    have relG : Rel (XG c0 lo hi P) noV s₀ s₅ := rel₂.trans (rel₅.weak (fun b o q => by
      rcases q with q | q
      · exact .inl q
      · exact xg_own C q.1 q.2) fun _ q => q)
    have hiD : hi ≤ D := Nat.le_trans (Nat.le_trans hi0 rel₂.mono.1) hD₃
    have dk₅ : ∀ b o, s₂.heap.get? b = some o → Dk o → s₅.heap.get? b = some o := fun b o e hd => rel₅.heap b o e fun q => by
      rcases q with q | q
      · subst q; exact g₂.notDk e hd
      · exact dk_fk hd q.2
    have G₅ : GI hB hC c P env hi kt ps I ax afs tt tn (j + 1) s₅ :=
      { frm := ⟨m₅, F₅, l₅.tc, l₅.n, l₅.fs⟩, g := g₅, FS := FS₂.at fun b o _ e hd => dk₅ b o e hd, keepC := fun b o e hd => dk₅ b o (dk₂ b o (G.keepC b o e hd) hd) hd,
        it := by
          obtain ⟨o, e, q1, q2⟩ := it₂
          refine ⟨o, rel₅.heap _ o e fun q => ?_, q1, q2⟩
          rcases q with q | q
          · exact Nat.lt_irrefl _ (Nat.lt_of_lt_of_le (q ▸ C.T.cP.2) baseI)
          · exact ownI _ q.1 rfl }
    refine segD_Expr_Yield rfl hfs rfl rfl rfl (wpD_of (ev_local F₅ l₅.rr (fun kap hkap => ⟨relG, g₅, ⟨D, rfl, hiD, ?_⟩, fun s'' rI => ?_⟩) rfl)) (by rw [F₅.scp]; rfl) C.inter
    · have e1 : (outOf ps xss).length - 1 - n = j := by simp; omega
      rw [e1]
      have e2 : (outOf ps xss).getD j [] = scaleRow ps (xss.getD j []) := by simp [List.getD, hjl]
      rw [e2]; exact row₅
    · refine hkap .none s'' ?_
      show SegD _ A _ _ n s'' _ (K' .next) _ s''
      rw [hK']
      exact segD_again rfl (ih (j + 1) s'' s'' (by omega) (Rel.refl _) (Nat.le_trans hi0 (Nat.le_trans relG.mono.1 rI.mono.1)) (G₅.stable C hI rI))
end
end Mine

/-! G14 -/
set_option linter.unusedVariables false
set_option maxRecDepth 100000
namespace Mine
open PySem PySem.W PyProof.Rows
open Sem (wp)

theorem bool_index : typeLookup (.type "bool") "__index__" = pure (some (.builtin "int.__index__")) := by rw [typeLookup_type, builtinLookup_eq_fast]; kernel_rfl

/-- the argument rescale: pairs of a source depth and the target depth -/
def RescAt (h : Heap) (ax : Addr) (ds : List Nat) (t : Nat) : Prop :=
  ∃ refs : List Value, h.IsList ax refs.toArray ∧ refs.length = ds.length ∧ ∀ j, j < ds.length → ∃ ta u v, refs[j]? = some (.ref ta) ∧ IsTup h ta #[.int (ds.getD j 0 : Nat) u, .int (t : Int) v]
theorem RescAt.at {h h' : Heap} {ax : Addr} {ds : List Nat} {t : Nat} (x : RescAt h ax ds t) (hk : ∀ b o, h.get? b = some o → Dk o → h'.get? b = some o) : RescAt h' ax ds t := by
  obtain ⟨refs, ⟨o, e, c, n, hd⟩, hl, hr⟩ := x
  refine ⟨refs, ⟨o, hk _ _ e (by unfold Dk; rw [hd]; trivial), c, n, hd⟩, hl, fun j hj => ?_⟩
  obtain ⟨ta, u, v, e1, o', e2, c', n', hd'⟩ := hr j hj
  exact ⟨ta, u, v, e1, o', hk _ _ e2 (by unfold Dk; rw [hd']; trivial), c', n', hd'⟩
def psOf (ds : List Nat) (t : Nat) : List (Int × Int) := ds.map fun d => ((2 : Int) ^ t - 1, (2 : Int) ^ d - 1)
theorem psOf_getD {ds : List Nat} {t j : Nat} (hj : j < ds.length) : (psOf ds t).getD j (0, 1) = ((2 : Int) ^ t - 1, (2 : Int) ^ (ds.getD j 0) - 1) := by
  unfold psOf
  simp [List.getD, hj]

abbrev fsAsg : Stmt := rscBody.getD 0 (.Pass default)
abbrev setAsg : Stmt := rscBody.getD 1 (.Pass default)
abbrev setGx : Expr := callArg 0 (asgVal setAsg)
theorem fs_ok : ScOk rscSc (gxScope (asgVal fsAsg)) := ⟨by with_unfolding_all rfl, by decide +kernel, by decide +kernel, by decide +kernel⟩
theorem sg_ok : ScOk rscSc (gxScope setGx) := ⟨by with_unfolding_all rfl, by decide +kernel, by decide +kernel, by decide +kernel⟩

section
variable {prog : Program} {w : World} {A : Around} {E : Value → Shared → Prop} {s : Shared} {d u : Nat} {mg mb : Str → Option Value} {hB : Heap} {aA aR c P : Addr} {cA : Value} {env : Env} {m : Str → Option Value}

theorem str_at_bool {t : Tok} {b : Bool} {Q : Value → Shared → Prop} (h : ∀ t' tk, Q (.str (if b = true then Kd.H.code else Kd.B.code) t') { s with toks := tk }) :
    wpAny (model prog w) A (getItem (.str (Str.ofString "BH") t) (.bool b)) Q E s := by
  have hT := typeIs_str s (Str.ofString "BH") t
  unfold getItem
  try with_reducible refine wpAny_holding ?_
  first | refine wpAny_bind (wpAny_pure ?_) | skip
  refine wpAny_bind (wpAny_callSpecial?_slot (name := Str.ofString "__getitem__") hT F.slot_str_getitem
    (wpAny_call_entry F.slot_str_getitem hT F.entry_str_getitem ?_ (F.args_str_getitem_2 _ _)))
  unfold Builtin.«str.__getitem__» Builtin.Str.strSlot
  refine wpAny_bind (wpAny_of_eq (a := (.str (Str.ofString "BH") t, Str.ofString "BH", [.bool b])) rfl ?_)
  have hTb : s.TypeIs (.bool b) "bool" := PySem.typeIs_bool s b
  refine wpAny_bind (wpAny_typeOf hTb ?_)
  refine wpAny_if_false (by decide) ?_
  refine wpAny_bind (wpAny_specialOf hTb bool_index ?_)
  refine wpAny_if_false rfl ?_
  refine wpAny_bind (wpAny_of_eq (a := if b = true then (1 : Int) else 0) (by cases b <;> rfl) ?_)
  cases b with
  | true =>
    refine wpAny_if_false (by decide) ?_
    exact wpAny_bind (wpAny_mkStr (wpAny_pure ⟨_, rfl, wpAny_pure (h _ _)⟩) (by show 1 ≤ sizeLine; decide))
  | false =>
    refine wpAny_if_false (by decide) ?_
    exact wpAny_bind (wpAny_mkStr (wpAny_pure ⟨_, rfl, wpAny_pure (h _ _)⟩) (by show 1 ≤ sizeLine; decide))

theorem swaps_cell {elt : Expr} {gens : List Comprehension} {scope : Scope} {p pos : Pos} {x : Str} {line : Nat} {sc : Scope} {h : Heap} (F : Frm sc env h m) (hx : sc.names.lookup x = some .cell) :
    swapsWith (.ListComp elt gens scope p) (some (.Name x pos)) line env = pure false := by
  have hk : env.kindOf x = some .cell := by unfold Env.kindOf; rw [F.scp]; exact hx
  show (pure (env.blockKind == .function && env.kindOf x == some .local && _ && _) : Sem Bool) = pure false
  rw [hk]
  have e : (some NameKind.cell == some NameKind.local) = false := by decide
  rw [e, Bool.and_false, Bool.false_and, Bool.false_and]

/-- fs = [(2 ** s[1] - 1, 2 ** s[0] - 1) for s in rescale] -/
theorem fs_stmt {ar : Addr} {ds : List Nat} {t : Nat} {Q : Flow → Shared → Prop} (hA : OkA A d u) (F : Frm rscSc env s.heap m) (hr : m (Str.ofString "rescale") = some (.ref ar)) (R : RescAt s.heap ar ds t)
    (few : ds.length ≤ 1000) (ht : t ≤ 16) (hds : ∀ j, j < ds.length → ds.getD j 0 ≤ 16)
    (hQ : ∀ s' afs, Rel (OwnX env) noV s s' → Frm rscSc env s'.heap (upd m (Str.ofString "fs") (.ref afs)) → FsHi s.heap.objs.size s'.heap afs (psOf ds t) → Q .next s') :
    wpD (model prog w) A (exec fsAsg env) Q s := by
  have hsl : sizeLine ≥ 1000 := by decide
  obtain ⟨refs, hl, hlen, hrr⟩ := R
  refine wpD_Assign (wpD_LC_list (m := m) (sc := rscSc) fs_ok hA.handled (wpD_of (ev_local F hr ⟨ar, refs, rfl, hl, by omega, F, fun hi hhi => ?_⟩ rfl))) (swaps_cell F (by rfl))
  refine ⟨fun i ys s' => ys.length = i ∧ ∀ j, j < i → ∃ ta t' u' n, hi ≤ ta ∧ ys[j]? = some (.ref ta) ∧ s'.heap.get? ta = some { cls := .type "tuple", data := .seq #[.int ((psOf ds t).getD j (0, 1)).1 t', .int ((psOf ds t).getD j (0, 1)).2 u'] n },
    fun i ys s₁ s₂ hJ r => ⟨hJ.1, fun j hj => ?_⟩, fun s₁ r => ⟨rfl, fun j hj => absurd hj (Nat.not_lt_zero _)⟩, fun i ys v cenv s₁ hv hy hJ hz r F₁ => ?_, fun ys s₁ D hy hJ h1 h2 r hpl => ?_⟩
  · obtain ⟨ta, t', u', n, q0, q1, q2⟩ := hJ.2 j hj
    exact ⟨ta, t', u', n, q0, q1, r.heap _ _ q2 fun q => Nat.lt_irrefl _ (Nat.lt_of_lt_of_le q.2 q0)⟩
  · have hi' : i < refs.length := by
      rcases Nat.lt_or_ge i refs.length with h | h
      · exact h
      · rw [List.getElem?_eq_none h] at hv; cases hv
    obtain ⟨ta, u1, v1, e1, hT⟩ := hrr i (by omega)
    rw [e1] at hv; cases hv
    have hT₁ : IsTup s₁.heap ta #[.int (ds.getD i 0 : Nat) u1, .int (t : Int) v1] := hT.keeps fun b o e => r.keeps b o e
    have ev : ∀ p p', EvV (model prog w) A cenv s₁.heap (.Subscript (.Name (Str.ofString "s") p) (.Constant (.int 1) 0 p') _) (.int (t : Int) v1) := fun p p' =>
      EvV.tup (pos := default) (EvV.local F₁ upd_self) hT₁ EvI.const (by decide) (by decide) (j := 1) (by rfl) (by rfl)
    refine wpD_of (wpAny_Tuple (wpAny_items_cons ?_))
    refine EvI.sub (EvI.pow (n := t) EvI.const (EvI.of (EvV.tup (EvV.local F₁ upd_self) hT₁ EvI.const (by decide) (by decide) (j := 1) (by rfl) (by rfl))) (by decide) (by decide) (by omega)) EvI.const s₁ _ _ rfl fun t1 tk1 => ?_
    refine wpAny_items_cons ?_
    refine EvI.sub (EvI.pow (n := ds.getD i 0) EvI.const (EvI.of (EvV.tup (EvV.local F₁ upd_self) hT₁ EvI.const (by decide) (by decide) (j := 0) (by rfl) (by rfl))) (by decide) (by decide) (by have := hds i (by omega); omega)) EvI.const { s₁ with toks := tk1 } _ _ rfl fun t2 tk2 => ?_
    refine Calls.spliced_nil ⟨by show 2 ≤ sizeLine; decide, Rel.push (tk := tk2), by rw [List.length_append, hJ.1]; rfl, fun j hj => ?_⟩
    by_cases hji : j < i
    · obtain ⟨ta', t', u', n, q0, q1, q2⟩ := hJ.2 j hji
      exact ⟨ta', t', u', n, q0, by rw [List.getElem?_append_left (by omega)]; exact q1, Heap.get?_push_of_some _ q2⟩
    · have : j = i := by omega
      subst this
      refine ⟨_, t1, t2, 0, hz, by rw [List.getElem?_append_right (by omega), hJ.1]; simp, ?_⟩
      rw [psOf_getD (by omega)]
      exact Heap.get?_push_size _ rfl
  · have F₁ := F.keep r
    refine wpD_of (store_cell (V := noV) F₁ (fun s₂ r₂ F₂ => ?_) (by rfl))
    have r₂' := r₂.own F₁ fun b o q => Or.inr ⟨_, q⟩
    refine hQ s₂ D ((r.up).trans r₂') F₂ ⟨ys, hpl.at fun o e => r₂'.heap _ o e fun q => ?_, h1, by rw [hJ.1, hlen]; simp [psOf], fun j hj => ?_⟩
    · obtain ⟨n, hn⟩ := hpl
      rw [hn] at e; cases e
      exact q.2
    · obtain ⟨ta, t', u', n, q0, q1, q2⟩ := hJ.2 j (by rw [hlen]; simpa [psOf] using hj)
      exact ⟨ta, t', u', n, Nat.le_trans hhi q0, q1, r₂'.heap _ _ q2 fun q => q.2⟩
end
end Mine

/-! G15 -/
set_option linter.unusedVariables false
set_option maxRecDepth 100000
namespace Mine
open PySem PySem.W PyProof.Rows
open Sem (wp)

section
variable {prog : Program} {w : World} {A : Around} {E : Value → Shared → Prop} {s : Shared} {d u : Nat} {mg mb : Str → Option Value} {hB : Heap} {aA aR c P : Addr} {cA : Value} {env : Env} {m : Str → Option Value}

/-- target_bitdepths = set((s[1] for s in rescale)) -/
theorem set_stmt {ar : Addr} {ds : List Nat} {t : Nat} {Q : Flow → Shared → Prop} (hA : OkA A d u) (hd : d < 900) (T : Txt mg mb hB aA aR c P cA) (F : Frm rscSc env s.heap m) (g : GS hB c P s.heap) (hcode : env.code = .ref c)
    (hown : ∀ b, Own env b → hB.objs.size ≤ b) (hr : m (Str.ofString "rescale") = some (.ref ar)) (R : RescAt s.heap ar ds t) (few : ds.length ≤ 1000) (pos : 0 < ds.length)
    (hQ : ∀ s' S, Rel (XR P env) noV s s' → Frm rscSc env s'.heap (upd m (Str.ofString "target_bitdepths") (.ref S)) → GS hB c P s'.heap → s.heap.objs.size ≤ S → SetOne prog w s'.heap S t → Q .next s') :
    wpD (model prog w) A (exec setAsg env) Q s := by
  have hsB : hB.objs.size ≤ s.heap.objs.size := by
    obtain ⟨o, ho, _⟩ := F.own_at (.inl rfl)
    exact Nat.le_trans (hown _ (.inl rfl)) (Nat.le_of_lt (Heap.lt_size ho))
  have hP : P < s.heap.objs.size := Nat.lt_of_lt_of_le T.cP.2 hsB
  have hoP : ∀ b, Own env b → b ≠ P := fun b hb q => by
    have := hown b hb; rw [q] at this; exact Nat.lt_irrefl _ (Nat.lt_of_lt_of_le T.cP.2 this)
  have clen : cStatics < s.heap.objs.size := by
    obtain ⟨mc, hm, _⟩ := (g.glb T).lim
    exact hm.lt
  obtain ⟨refs, hl, hlen, hrr⟩ := R
  have hax : ar < s.heap.objs.size := by obtain ⟨o, e, _⟩ := hl; exact Heap.lt_size e
  refine wpD_Assign (wpD_Call (wpD_of (ev_builtin F (g.glb T) (T.none _ (by simp)) (v := .type "set") (by with_unfolding_all rfl) (by decide) ?_ rfl (by decide))))
  refine wpD_callWith_type rfl (wpD_of (evalArgs_one rfl ?_))
  refine gen_walk (m := m) (sc := rscSc) hA (by have : recursionLimit = 1000 := rfl; omega) T hcode sg_ok rfl rfl rfl (scope_local (by decide +kernel)) (fun y hy hf => F.has y.1 (sg_ok.free y hy hf)) (ev_local F hr (wpAny_pyIter_list hl ?_) rfl)
  have r₁ : Rel noX noV s { s with heap := s.heap.push { cls := .type "list_iterator", data := .fields #[.ref ar, .int 0 0] } } := Rel.push (tk := s.toks)
  have ltI : s.heap.objs.size < (s.heap.push { cls := .type "list_iterator", data := .fields #[.ref ar, .int 0 0] }).objs.size := by rw [Heap.size_push]; exact Nat.lt_succ_self _
  refine ⟨F.keep r₁, g.rel T r₁ fun _ _ q => q.elim, hoP, s.heap.objs.size, [s.heap.objs.size, ar], refs.toArray.size, fun i v => refs.toArray[i]? = some v, _, fun i x => ∃ t', x = .int (t : Int) t', rfl, Nat.ne_of_gt hP, ?_, ltI, fun b hb => Nat.ne_of_lt (F.own_lt hb), Nat.ne_of_lt clen,
    fun A' hA' => Walks.list hA' _ ar (Nat.ne_of_lt hax) refs.toArray, fun b hb => ?_, ⟨⟨_, Heap.get?_push_size _ rfl, rfl, rfl⟩, hl.at fun o e => Heap.get?_push_of_some _ e⟩, ?_, ?_⟩
  · simp only [List.mem_cons, List.not_mem_nil, or_false]
    rintro (e | e)
    · exact Nat.ne_of_lt hP e
    · obtain ⟨ps, _, h2⟩ := g.tab
      obtain ⟨o, e2, hc, _⟩ := hl
      rw [← e, h2.2] at e2; cases e2; cases hc
  · simp only [List.mem_cons, List.not_mem_nil, or_false] at hb
    rcases hb with rfl | rfl
    · exact ltI
    · exact Nat.lt_trans hax ltI
  · intro A' E' i v s' genv m' hv hk F' hx hfree
    have hi' : i < refs.length := by
      rcases Nat.lt_or_ge i refs.length with h | h
      · exact h
      · simp [h] at hv
    obtain ⟨ta, u1, v1, e1, o, e2, hc, n, hd'⟩ := hrr i (by omega)
    have hv' : v = .ref ta := by
      rw [List.getElem?_toArray, e1] at hv; cases hv; rfl
    subst hv'
    have hlt := Heap.lt_size e2
    have hT' : IsTup s'.heap ta #[.int (ds.getD i 0 : Nat) u1, .int (t : Int) v1] := by
      refine ⟨o, hk ta o (Nat.lt_trans hlt ltI) (Nat.ne_of_lt hlt) (fun q => ?_) (Heap.get?_push_of_some _ e2), hc, n, hd'⟩
      obtain ⟨ps, _, h2⟩ := g.tab
      rw [q, h2.2] at e2; cases e2; cases hc
    have ev : EvV (model prog w) A' genv s'.heap (gxElt setGx) (.int (t : Int) v1) := EvV.tup (EvV.local F' hx) hT' EvI.const (by decide) (by decide) (j := 1) (by rfl) (by rfl)
    exact ev s' _ _ rfl fun tk => ⟨⟨v1, rfl⟩, s'.heap, tk, rfl, fun _ _ e => e⟩
  · intro a g' s' hg' r₂ g₂ hW
    obtain ⟨wr, W, hwr⟩ := hW
    have hA' : OkA A (d + 2) (u + 39) := hA.mono (by omega) (by omega)
    refine wpD_of (call_set_gen hA' W (by simp; omega) fun s₃ s₄ r₃ hg₃ hm mz hone => ?_)
    have rB : Rel (fun b _ => b = P) noV s s' := (r₁.up).trans r₂
    have rC : Rel (fun b _ => b = P) noV s s₃ := rB.trans r₃.up
    have hnew : ∀ b, b ∈ s'.heap.objs.size :: wr → s.heap.objs.size ≤ b := fun b hb => by
      rcases List.mem_cons.mp hb with rfl | hb
      · exact rB.mono.1
      · rcases hwr b hb with h | h
        · exact Nat.le_trans r₁.mono.1 h
        · rw [h]; exact Nat.le_refl _
    have rD : Rel (fun b _ => b = P) noV s s₄ := rC.tf (movedQ_rel hm mz) (fun b o hb => .inl (hnew b hb)) fun k q => .inl (by rw [q, hg']; exact r₁.mono.2)
    have g₄ : GS hB c P s₄.heap := (g₂.rel T r₃ fun _ _ q => q.elim).rel T (movedQ_rel hm mz) fun b o hb => Nat.le_trans hsB (hnew b hb)
    have F₄ := F.rel rD fun b o q hb _ => hoP b hb q
    refine wpD_of (store_local (V := noV) F₄ (fun s₅ r₅ F₅ => ?_) (by rfl))
    have r₅' := r₅.own F₄ fun b o q => Or.inl q
    refine hQ s₅ s'.heap.objs.size ((rD.weak (fun b o q => .inl q) fun _ q => q).trans (r₅'.weak (fun b o q => .inr q) fun _ q => q)) F₅ (g₄.rel T r₅' fun b o q => hown b q.1) rB.mono.1 (hone.at fun o e => r₅'.heap _ o e fun q => ?_)
    obtain ⟨tok, ep, t', ho, _⟩ := hone
    rw [ho] at e; cases e
    exact q.2
end
end Mine

/-! G16 -/
set_option linter.unusedVariables false
set_option maxRecDepth 100000
namespace Mine
open PySem PySem.W PyProof.Rows
open Sem (wp)

section
variable {M : Model} {A : Around} {E : Value → Shared → Prop} {s : Shared} {env : Env}

theorem wpD_AssignTuple {ts : List Expr} {k : Nat} {p pos : Pos} {value : Expr} {Q : Flow → Shared → Prop}
    (h : wpD M A (eval value env) (fun v s₁ => wpD M A (unpack v (assignEach ts env)) (fun _ => Q .next) s₁) s)
    (hs : swapsWith value (some (.Tuple ts k p)) pos.line env = pure false := by rfl) (hsw : swappedStores [.Tuple ts k p] value env = pure none := by rfl) : wpD M A (exec (.Assign [.Tuple ts k p] value pos) env) Q s := by
  rw [arm_exec_Assign]
  refine wpD_bind (wpD_standAt ?_)
  refine wpD_bind (wpD_of_eq (a := false) hs ?_)
  refine wpD_if_false rfl ?_
  refine wpD_bind (wpD_mono h fun v s₁ h₁ => ?_)
  refine wpD_bind (wpD_of_eq (a := none) hsw ?_)
  show wpD M A (assignAll v [assign (.Tuple ts k p) env] >>= fun _ => pure .next) Q s₁
  refine wpD_bind ?_
  have : assignAll v [assign (.Tuple ts k p) env] = assign (.Tuple ts k p) env v := rfl
  rw [this, arm_assign_Tuple]
  exact wpD_bind (wpD_standAt (wpD_mono h₁ fun _ s₂ h₂ => wpD_pure h₂))
end

theorem FsHi.mono {hi hi' : Nat} {h : Heap} {afs : Addr} {ps : List (Int × Int)} (x : FsHi hi h afs ps) (hh : hi' ≤ hi) : FsHi hi' h afs ps := by
  obtain ⟨refs, h1, h2, h3, h4⟩ := x
  exact ⟨refs, h1, Nat.le_trans hh h2, h3, fun j hj => let ⟨ta, t, u, n, e0, e1, e2⟩ := h4 j hj; ⟨ta, t, u, n, Nat.le_trans hh e0, e1, e2⟩⟩

def kdOf (t : Nat) : Kd := if 8 < t then .H else .B

section
variable {prog : Program} {w : World} {A : Around} {d u : Nat} {mg mb : Str → Option Value} {hB hC : Heap} {aA aR c P : Addr} {cA : Value} {env : Env} {c0 lo hi g : Nat}
  {ks : Kd} {ax ar : Addr} {xss : List (List Int)} {L t : Nat} {ds : List Nat}

/-- the generator's body from its start -/
theorem gen_start {s : Shared} {m : Str → Option Value} (C : GC mg mb hB hC aA aR c P cA env c0 lo hi ks (kdOf t) (psOf ds t) ax xss L) (hA : OkA A d u) (hd : d < 600) (hfew : xss.length ≤ 1000)
    (F : Frm rscSc env s.heap m) (hG : GS hB c P s.heap) (hrows : m (Str.ofString "rows") = some (.ref ax)) (hresc : m (Str.ofString "rescale") = some (.ref ar))
    (keepC : ∀ b o, hC.get? b = some o → Dk o → s.heap.get? b = some o) (hR : RescAt hC ar ds t) (few : ds.length ≤ 1000) (ht : t ≤ 16) (hds : ∀ j, j < ds.length → ds.getD j 0 ≤ 16) (hhi : hi ≤ s.heap.objs.size) :
    SegD (model prog w) A (ER hB c c0 lo hi P) (YR hB c c0 lo hi g P (kdOf t) (outOf (psOf ds t) xss)) xss.length s (.func rscBody env) ((model prog w).den (.func rscBody env)) [] s := by
  have hA' : OkA (A.over (.func rscBody env) []) (d + 1) (u + 3) := hA.over_func rscBody env
  have hfs : FsOk [] := fun f hf => nomatch hf
  have pos : 0 < ds.length := by have := C.ps0; simpa [psOf] using this
  have ownB : ∀ b, Own env b → hB.objs.size ≤ b := fun b hb => Nat.le_trans C.base (C.own b hb).1
  have own0 : ∀ b o, OwnX env b o → hB.objs.size ≤ b := fun b o q => ownB b q.1
  refine segD_func hfs fun K' H' hK' => ?_
  -- fs
  refine segD_stmt rfl hfs (fs_stmt hA' F hresc (hR.at keepC) few ht hds fun s₁ afs r₁ F₁ FS₁ => ⟨rfl, ?_⟩)
  have FS₁' := FS₁.mono hhi
  have g₁ := hG.rel C.T r₁ own0
  have rel₁ : Rel (XG c0 lo hi P) noV s s₁ := r₁.weak (fun b o q => xg_own C q.1 q.2) fun _ q => q
  have dk₁ : ∀ b o, s.heap.get? b = some o → Dk o → s₁.heap.get? b = some o := fun b o e hd => r₁.heap b o e fun q => dk_fk hd q.2
  -- the set
  refine segD_stmt rfl hfs (set_stmt hA' (by omega) C.T F₁ g₁ C.code ownB ((upd_ne (by decide)).trans hresc) ((hR.at keepC).at dk₁) few pos fun s₂ S r₂ F₂ g₂ hS₂ one₂ => ⟨rfl, ?_⟩)
  have xrg : ∀ b o, XR P env b o → XG c0 lo hi P b o := fun b o q => by
    rcases q with q | q
    · exact .inl q
    · exact xg_own C q.1 q.2
  have rel₂ : Rel (XG c0 lo hi P) noV s s₂ := rel₁.trans (r₂.weak xrg fun _ q => q)
  have dk₂ : ∀ b o, s₁.heap.get? b = some o → Dk o → s₂.heap.get? b = some o := fun b o e hd => r₂.heap b o e fun q => by
    rcases q with q | q
    · subst q; exact g₁.notDk e hd
    · exact dk_fk hd q.2
  have tb₂ : upd (upd m (Str.ofString "fs") (.ref afs)) (Str.ofString "target_bitdepths") (.ref S) (Str.ofString "target_bitdepths") = some (.ref S) := upd_self
  -- assert
  refine segD_stmt rfl hfs (wpD_of (wpAny_Assert_holds (wpAny_isTrue_Compare1 (call_builtin1 F₂ (g₂.glb C.T) (C.T.none _ (by simp)) (id := "len") (by with_unfolding_all rfl) (by decide) rfl rfl (ev_local F₂ tb₂ (len_one one₂ fun t1 tk1 => ?_) rfl) (by decide)))))
  refine wpAny_Constant_int (PySem.P.eq_int ?_)
  refine wpAny_of_eq (a := true) rfl ⟨rfl, rfl, ?_⟩
  generalize hs₃ : ({ s₂ with toks := _ } : Shared) = s₃
  have r₃ : Rel noX noV s₂ s₃ := by rw [← hs₃]; exact Rel.tok
  have F₃ := F₂.keep r₃
  have g₃ := g₂.rel C.T r₃ fun _ _ q => q.elim
  have one₃ := one₂.at fun o e => r₃.keeps _ o e
  -- unpack
  refine segD_stmt rfl hfs (wpD_AssignTuple (wpD_of (ev_local F₃ tb₂ (wpD_of (unpack_one hA'.handled one₃ fun t2 s₄ r₄ hg₄ => ?_)) rfl)))
  have F₄ := F₃.keep r₄
  refine wpAny_assign_Name ?_
  refine store_local (V := noV) F₄ (fun s₅ r₅ F₅ => ⟨rfl, ?_⟩) (by rfl)
  have r₅' := r₅.own F₄ fun b o q => Or.inl q
  have g₄ := g₃.rel C.T r₄ fun _ _ q => q.elim
  have g₅ := g₄.rel C.T r₅' own0
  have rel₅ : Rel (XG c0 lo hi P) noV s s₅ := ((rel₂.trans r₃.up).trans r₄.up).trans (r₅'.weak (fun b o q => xg_own C q.1 q.2) fun _ q => q)
  have dk₅ : ∀ b o, s₂.heap.get? b = some o → Dk o → s₅.heap.get? b = some o := fun b o e hd => r₅'.heap b o (r₄.keeps b o (r₃.keeps b o e)) fun q => dk_fk hd q.2
  -- typecode
  refine segD_stmt rfl hfs (wpD_Assign (wpD_of (wpAny_Subscript_of _root_.PySem.F.slot_str_getitem.lookup (wpAny_Constant_str (wpAny_Compare1 (ev_local (s := { s₅ with toks := _ }) F₅ upd_self (wpAny_Constant_int (PySem.P.gt_int ⟨rfl, str_at_bool fun t3 tk3 => ?_⟩)) rfl))))))
  have etc : (if (decide ((t : Int) > 8)) = true then Kd.H.code else Kd.B.code) = (kdOf t).code := by
    unfold kdOf
    by_cases h : 8 < t
    · rw [if_pos h, if_pos (by simp; omega)]
    · rw [if_neg h, if_neg (by simp; omega)]
  rw [etc]
  generalize hs₆ : ({ s₅ with toks := _ } : Shared) = s₆
  have r₆ : Rel noX noV s₅ s₆ := by rw [← hs₆]; exact Rel.tok
  have F₆ := F₅.keep r₆
  refine wpD_of (store_local (V := noV) F₆ (fun s₇ r₇ F₇ => ⟨rfl, ?_⟩) (by rfl))
  have r₇' := r₇.own F₆ fun b o q => Or.inl q
  have g₇ := (g₅.rel C.T r₆ fun _ _ q => q.elim).rel C.T r₇' own0
  have rel₇ : Rel (XG c0 lo hi P) noV s s₇ := (rel₅.trans r₆.up).trans (r₇'.weak (fun b o q => xg_own C q.1 q.2) fun _ q => q)
  have dk₇ : ∀ b o, s₅.heap.get? b = some o → Dk o → s₇.heap.get? b = some o := fun b o e hd => r₇'.heap b o (r₆.keeps b o e) fun q => dk_fk hd q.2
  -- n_chans
  have hR₇ : RescAt s₇.heap ar ds t := ((((hR.at keepC).at dk₁).at dk₂).at dk₅).at dk₇
  obtain ⟨refsR, hlR, hlenR, _⟩ := id hR₇
  have resc₇ : upd (upd (upd (upd m (Str.ofString "fs") (.ref afs)) (Str.ofString "target_bitdepths") (.ref S)) (Str.ofString "target_bitdepth") (.int (t : Int) t2)) (Str.ofString "typecode") (.str (kdOf t).code t3) (Str.ofString "rescale") = some (.ref ar) :=
    (upd_ne (by decide)).trans ((upd_ne (by decide)).trans ((upd_ne (by decide)).trans ((upd_ne (by decide)).trans hresc)))
  refine segD_stmt rfl hfs (wpD_Assign (wpD_of (call_builtin1 F₇ (g₇.glb C.T) (C.T.none _ (by simp)) (id := "len") (by with_unfolding_all rfl) (by decide) rfl rfl (ev_local F₇ resc₇ (Calls.call_len_list hlR (by simp; omega) ?_) rfl) (by decide))))
  generalize hs₈ : ({ s₇ with toks := _ } : Shared) = s₈
  have r₈ : Rel noX noV s₇ s₈ := by rw [← hs₈]; exact Rel.tok
  have F₈ := F₇.keep r₈
  refine wpD_of (store_local (V := noV) F₈ (fun s₉ r₉ F₉ => ⟨rfl, ?_⟩) (by rfl))
  have r₉' := r₉.own F₈ fun b o q => Or.inl q
  have g₉ := (g₇.rel C.T r₈ fun _ _ q => q.elim).rel C.T r₉' own0
  have rel₉ : Rel (XG c0 lo hi P) noV s s₉ := (rel₇.trans r₈.up).trans (r₉'.weak (fun b o q => xg_own C q.1 q.2) fun _ q => q)
  have dk₉ : ∀ b o, s₇.heap.get? b = some o → Dk o → s₉.heap.get? b = some o := fun b o e hd => r₉'.heap b o (r₈.keeps b o e) fun q => dk_fk hd q.2
  have all : ∀ b o, s₁.heap.get? b = some o → Dk o → s₉.heap.get? b = some o := fun b o e hd => dk₉ b o (dk₇ b o (dk₅ b o (dk₂ b o e hd) hd) hd) hd
  -- the loop
  refine segD_cons (segD_For rfl hfs (wpD_of (ev_local (v := .ref ax) F₉ ((upd_ne (by decide)).trans ((upd_ne (by decide)).trans ((upd_ne (by decide)).trans ((upd_ne (by decide)).trans ((upd_ne (by decide)).trans hrows))))) ?_ rfl)))
  obtain ⟨refs, ⟨nl, hlo⟩, _⟩ := C.rows
  have hax₉ : s₉.heap.IsList ax refs.toArray := ⟨_, all _ _ (dk₁ _ _ (keepC _ _ hlo trivial) trivial) trivial, rfl, nl, rfl⟩
  refine wpD_of (wpAny_pyIter_list hax₉ fun p k₀ hk₀ => ?_)
  obtain ⟨H'', rfl⟩ := hk₀
  have r₁₀ : Rel noX noV s₉ { s₉ with heap := s₉.heap.push { cls := .type "list_iterator", data := .fields #[.ref ax, .int 0 0] } } := Rel.push (tk := s₉.toks)
  refine gen_loop (tn := s₇.toks + 1) C hA (by omega) (Nat.le_trans hhi rel₉.mono.1) hfew ?_ xss.length 0 s _ (by omega) (rel₉.trans r₁₀.up) hhi
    { frm := ⟨_, F₉.keep r₁₀, (upd_ne (by decide)).trans upd_self, ?_, ?_⟩, g := g₉.rel C.T r₁₀ fun _ _ q => q.elim, FS := (FS₁'.at fun b o _ e hd => all b o e hd).at fun b o _ e _ => r₁₀.keeps b o e,
      keepC := fun b o e hd => r₁₀.keeps _ _ (all b o (dk₁ b o (keepC b o e hd) hd) hd), it := ⟨_, Heap.get?_push_size _ rfl, rfl, rfl⟩ }
  · show K' .next = _
    rw [hK']; rfl
  · have e : refsR.toArray.size = (psOf ds t).length := by simp [psOf, hlenR]
    rw [← e]; exact upd_self
  · exact (upd_ne (by decide)).trans ((upd_ne (by decide)).trans ((upd_ne (by decide)).trans ((upd_ne (by decide)).trans upd_self)))
end
end Mine

/-! G17 -/
set_option linter.unusedVariables false
set_option maxRecDepth 100000
namespace Mine
open PySem PySem.W PyProof.Rows
open Sem (wp)

section
variable {prog : Program} {w : World} {A : Around} {s : Shared} {d u : Nat} {mg mb : Str → Option Value} {hB : Heap} {aA aR c P : Addr} {cA : Value} {c0 lo hi g n : Nat} {a : Addr} {kt : Kd} {out : List (List Int)}

/-- a generator of rows, n rows before its end -/
structure GenSt (prog : Program) (w : World) (A : Around) (hB : Heap) (c : Addr) (c0 lo hi : Nat) (P : Addr) (kt : Kd) (out : List (List Int)) (a : Addr) (g n : Nat) (s : Shared) : Prop where
  gen : s.heap.IsGen a g
  ina : lo ≤ a ∧ a < hi
  st : ∃ gs, s.gens[g]? = some gs ∧ ∀ s'', Rel (XI lo hi) (· = g) s s'' → GoesD (model prog w) A.in1 (ER hB c c0 lo hi P) (YR hB c c0 lo hi g P kt out) n gs (.send .none) s''

theorem setGen_rel {X : Addr → Obj → Prop} {x : GenState} (hx : x.bare = true) : Rel X (· = g) s (s.setGen g x) := by
  refine ⟨fun _ _ e _ => e, (setGen_mono s g x).1, fun k y hk e => ?_, fun hb y hy => ?_, rfl⟩
  · show (s.gens.setIfInBounds g x)[k]? = some y
    rw [Array.getElem?_setIfInBounds_ne (Ne.symm hk)]; exact e
  · obtain ⟨i, hi⟩ := Array.mem_iff_getElem?.mp hy
    have hi : (s.gens.setIfInBounds g x)[i]? = some y := hi
    by_cases e : i = g
    · subst e
      rw [Array.getElem?_setIfInBounds_self] at hi
      split at hi
      · cases hi; exact hx
      · cases hi
    · rw [Array.getElem?_setIfInBounds_ne (Ne.symm e)] at hi
      exact hb y (Array.mem_iff_getElem?.mpr ⟨i, hi⟩)

/-- the next row -/
theorem gen_next {Q : Option Value → Shared → Prop} (hA : OkA A d u) (hd : d < 900) (T : Txt mg mb hB aA aR c P cA) (hlo : hB.objs.size ≤ lo) (G : GenSt prog w A hB c c0 lo hi P kt out a g n s) (gs₀ : GS hB c P s.heap)
    (item : ∀ k r s', n = k + 1 → Rel (XG c0 lo hi P) (· = g) s s' → GS hB c P s'.heap → hi ≤ r → RowAt kt s'.heap r (out.getD (out.length - 1 - k) []) → GenSt prog w A hB c c0 lo hi P kt out a g k s' → Q (some (.ref r)) s')
    (done : ∀ s', n = 0 → Rel (XG c0 lo hi P) (· = g) s s' → GS hB c P s'.heap → Q none s') : wpD (model prog w) A (pyNext (.ref a)) Q s := by
  obtain ⟨gs, hgs, hgo⟩ := G.st
  have hPa : a ≠ P := fun q => Nat.lt_irrefl _ (Nat.lt_of_lt_of_le T.cP.2 (q ▸ Nat.le_trans hlo G.ina.1))
  have xa : ∀ o, ¬ XG c0 lo hi P a o := fun o q => by
    rcases q with q | q
    · exact hPa q
    · exact q.2.1 G.ina
  have hlt : g < s.gens.size := by
    rcases Nat.lt_or_ge g s.gens.size with h | h
    · exact h
    · rw [Array.getElem?_eq_none h] at hgs; cases hgs
  have rR : Rel (XI lo hi) (· = g) s (s.setGen g .running) := setGen_rel rfl
  have rR' : Rel (XG c0 lo hi P) (· = g) s (s.setGen g .running) := setGen_rel rfl
  refine wpD_pyNext_gen (P := fun n s₀ s₁ => n = 0 ∧ Rel (XG c0 lo hi P) noV s₀ s₁ ∧ GS hB c P s₁.heap) (Y := YR hB c c0 lo hi g P kt out) (n := n) hA.handled (gs₀.glb T).lim (Nat.lt_of_le_of_lt hA.depth (Nat.lt_trans hd (by decide))) G.gen hgs (hgo _ rR) (fun v s₁ gs' hb hy => ?_) fun s₁ hp h' hk hz => ?_
  · obtain ⟨r₁, g₁, ⟨r, rfl, hr, row⟩, kap⟩ := hy
    cases n with
    | zero => exact (kap s₁ (Rel.refl _)).elim
    | succ k =>
      have r₂ : Rel (XG c0 lo hi P) (· = g) s s₁ := rR'.trans (r₁.weak (fun _ _ q => q) fun _ q => q.elim)
      have r₃ : Rel (XG c0 lo hi P) (· = g) s (s₁.setGen g gs') := r₂.trans (setGen_rel hb)
      refine item k r _ rfl r₃ g₁ hr row ⟨?_, G.ina, gs', ?_, fun s'' r'' => ?_⟩
      · obtain ⟨o, nm, qn, ho, q⟩ := G.gen
        exact ⟨o, nm, qn, r₃.heap _ _ ho (xa o), q⟩
      · show (s₁.gens.setIfInBounds g gs')[g]? = some gs'
        have : g < s₁.gens.size := Nat.lt_of_lt_of_le hlt r₂.mono.2
        rw [Array.getElem?_setIfInBounds_self, if_pos this]
      · exact kap s'' ((setGen_rel hb).trans r'')
  · obtain ⟨rfl, r₁, g₁⟩ := hp
    have r₂ : Rel (XG c0 lo hi P) (· = g) s s₁ := rR'.trans (r₁.weak (fun _ _ q => q) fun _ q => q.elim)
    have r₃ : Rel (XG c0 lo hi P) (· = g) s (s₁.setGen g .finished) := r₂.trans (setGen_rel rfl)
    have r₄ : Rel noX noV (s₁.setGen g .finished) { s₁.setGen g .finished with heap := h' } := Rel.only (tk := s₁.toks) (fun b o e _ => hk b o e) hz
    refine done _ rfl (r₃.trans (r₄.weak (fun _ _ q => q.elim) fun _ q => q.elim)) ?_
    exact g₁.rel T (s := s₁.setGen g .finished) r₄ fun _ _ q => q.elim

/-- the generator under the consumer's own writes -/
theorem GenSt.stable {s' : Shared} (G : GenSt prog w A hB c c0 lo hi P kt out a g n s) (r : Rel (fun b o => (lo ≤ b ∧ b < hi) ∧ b ≠ a) noV s s') : GenSt prog w A hB c c0 lo hi P kt out a g n s' := by
  obtain ⟨gs, hgs, hgo⟩ := G.st
  obtain ⟨o, nm, qn, ho, q⟩ := G.gen
  exact ⟨⟨o, nm, qn, r.heap _ _ ho fun z => z.2 rfl, q⟩, G.ina, gs, r.gens _ _ (fun z => z) hgs, fun s'' r'' => hgo s'' ((r.weak (fun b o z => z.1) fun _ z => z.elim).trans r'')⟩
end
end Mine

/-! G18 -/
set_option linter.unusedVariables false
set_option maxRecDepth 100000
namespace Mine
open PySem PySem.W PyProof.Rows
open Sem (wp)

/-- what the rows and the depths must be -/
structure ArgsOk (ds : List Nat) (t : Nat) (xss : List (List Int)) (L : Nat) : Prop where
  rows : ∀ j, j < xss.length → RowOk (kdOf t) (psOf ds t) L (xss.getD j [])
  L1 : 1 ≤ L
  n0 : 0 < ds.length
  few : ds.length ≤ 1000
  fewR : xss.length ≤ 1000
  t1 : t ≤ 16
  d1 : ∀ j, j < ds.length → 1 ≤ ds.getD j 0 ∧ ds.getD j 0 ≤ 16

/-- what a consumer of a generator, and its own frame, may write -/
abbrev XS (b0 c0 a hi : Nat) : Addr → Obj → Prop := fun b o => ((a ≤ b ∧ b < hi) ∧ b ≠ a) ∨ (b0 ≤ b ∧ b < c0 ∧ Fk o)

theorem two_pow_bound {n : Nat} (h : n ≤ 16) : (0 : Int) ≤ 2 ^ n - 1 ∧ (2 : Int) ^ n - 1 < 2 ^ 20 := by
  have h1 : (1 : Nat) ≤ 2 ^ n := Nat.one_le_two_pow
  have h2 : (2 : Nat) ^ n ≤ 2 ^ 16 := Nat.pow_le_pow_right (by decide) h
  have e : ((2 ^ n : Nat) : Int) = (2 : Int) ^ n := by simp
  omega
theorem two_pow_pos {n : Nat} (h : 1 ≤ n) : (0 : Int) < 2 ^ n - 1 := by
  have h2 : (2 : Nat) ^ 1 ≤ 2 ^ n := Nat.pow_le_pow_right (by decide) h
  have e : ((2 ^ n : Nat) : Int) = (2 : Int) ^ n := by simp
  omega

section
variable {prog : Program} {w : World} {A : Around} {s : Shared} {d u : Nat} {mg mb : Str → Option Value} {hB : Heap} {aA aR c P : Addr} {cA : Value} {ks : Kd} {ax ar : Addr} {xss : List (List Int)} {L t : Nat} {ds : List Nat}

/-- rescale_rows(rows, rescale): the generator -/
theorem call_rescale {Q : Value → Shared → Prop} (hA : OkA A d u) (hd : d < 500) (T : Txt mg mb hB aA aR c P cA) (g : GS hB c P s.heap) (hsB : hB.objs.size ≤ s.heap.objs.size)
    (hrows : RowsAt ks s.heap ax xss) (hresc : RescAt s.heap ar ds t) (ok : ArgsOk ds t xss L) (kk : kdOf t = .H → ks = .H)
    (h : ∀ a s', Rel noX noV s s' → s.heap.objs.size ≤ a → a < s'.heap.objs.size → (∀ A' d' u' s'' hi, OkA A' d' u' → d' < 600 → Rel (XS hB.objs.size s.heap.objs.size a hi) noV s' s'' → a < hi → hi ≤ s''.heap.objs.size →
      GenSt prog w A' hB c s.heap.objs.size a hi P (kdOf t) (outOf (psOf ds t) xss) a s.gens.size xss.length s'') → Q (.ref a) s') :
    wpD (model prog w) A (call (.ref aR) [.ref ax, .ref ar]) Q s := by
  have F := T.rsc.keeps g.keep
  obtain ⟨o, pm, doc, dV, kV, h1, h2, _, h4⟩ := F.obj
  obtain rfl := h4 (by decide)
  refine wpD_grow (wpD_of (wpAny_call (codeAny_call_generator (body := rscBody) (Nat.lt_of_le_of_lt hA.depth (Nat.lt_trans hd (by decide))) h1 h2 (by rfl) (by rfl) rfl F.code ?_)))
  refine BindsTo.of_eq (binds := [(Str.ofString "rows", .ref ax), (Str.ofString "rescale", .ref ar)]) rfl _ _ _ _ ?_
  refine wpAny_newFunctionEnv_cells rsc_sc.kind (fun x hx => ?_) fun env he s₂ x => ?_
  · have : x.1 ∈ [Str.ofString "rows", Str.ofString "rescale"] := by
      have := List.mem_map_of_mem (f := (·.1)) hx
      exact this
    exact .inl ((by decide +kernel : ∀ y ∈ [Str.ofString "rows", Str.ofString "rescale"], rscSc.names.lookup y = some NameKind.local) _ this)
  · obtain ⟨r₂, hL, hcs⟩ := inCallC_rel x
    have F₂ : Frm rscSc env s₂.heap (updAll [(Str.ofString "rows", .ref ax), (Str.ofString "rescale", .ref ar)] fun _ => none) := frm_new rsc_sc he x
    refine ⟨(g.glb T).lim.keeps fun b o e => r₂.keeps b o e, ?_⟩
    intro mz
    have hg₂ : s₂.gens = s.gens := by
      obtain ⟨h', tk, rfl⟩ := x.toInCall.same
      rfl
    have own : ∀ b, Own env b → s.heap.objs.size ≤ b ∧ b < s₂.heap.objs.size := fun b hb => ⟨by
      rcases hb with rfl | ⟨y, hy⟩
      · exact hL
      · exact hcs y b (mem_of_lookup hy), F₂.own_lt hb⟩
    have r₃ : Rel noX noV s₂ { s₂ with gens := s₂.gens.push (.fresh (.func rscBody env)), toks := s₂.toks + 1 + 1, heap := s₂.heap.push { cls := .type "generator", data := .fields #[.int s₂.gens.size 0, .str (Str.ofString "rescale_rows") s₂.toks, .str (Str.ofString "rescale_rows") (s₂.toks + 1)] } } := by
      refine ⟨fun b o e _ => Heap.get?_push_of_some _ e, ⟨by show s₂.heap.objs.size ≤ (s₂.heap.push _).objs.size; rw [Heap.size_push]; exact Nat.le_succ _, by show s₂.gens.size ≤ (s₂.gens.push _).size; rw [Array.size_push]; exact Nat.le_succ _⟩, fun k y _ e => ?_, fun hb y hy => ?_, rfl⟩
      · show (s₂.gens.push _)[k]? = some y
        rw [Array.getElem?_push]
        split
        · rename_i hk; rw [hk, Array.getElem?_eq_none (Nat.le_refl _)] at e; cases e
        · exact e
      · rcases Array.mem_push.mp hy with hy | hy
        · exact hb y hy
        · rw [hy]; rfl
    refine h s₂.heap.objs.size _ (r₂.trans r₃) r₂.mono.1 (by show _ < (s₂.heap.push _).objs.size; rw [Heap.size_push]; exact Nat.lt_succ_self _) fun A' d' u' s'' hi hA' hd' r'' h3 h5 => ?_
    have hgen : s''.heap.IsGen s₂.heap.objs.size s.gens.size := by
      refine ⟨_, .str (Str.ofString "rescale_rows") s₂.toks, .str (Str.ofString "rescale_rows") (s₂.toks + 1), r''.heap _ _ (Heap.get?_push_size _ rfl) (fun q => q.elim (fun q => q.2 rfl) fun q => Nat.lt_irrefl _ (Nat.lt_of_lt_of_le q.2.1 r₂.mono.1)), rfl, ?_, rfl⟩
      rw [← hg₂]; rfl
    refine ⟨hgen, ⟨Nat.le_refl _, h3⟩, .fresh (.func rscBody env), r''.gens s.gens.size _ (fun q => q) (by show (s₂.gens.push _)[s.gens.size]? = _; rw [← hg₂]; exact Array.getElem?_push_size ..), fun s₅ r₅ => ⟨rfl, ?_⟩⟩
    have nR : ∀ b o, (s₂.heap.push { cls := .type "generator", data := .fields #[.int s₂.gens.size 0, .str (Str.ofString "rescale_rows") s₂.toks, .str (Str.ofString "rescale_rows") (s₂.toks + 1)] }).get? b = some o → b < s₂.heap.objs.size → (s.heap.objs.size ≤ b ∨ Dk o) → s₅.heap.get? b = some o := fun b o e hb hbd =>
      r₅.heap b o (r''.heap b o e fun q => q.elim (fun q => Nat.lt_irrefl _ (Nat.lt_of_lt_of_le hb q.1.1)) fun q => hbd.elim (fun h => Nat.lt_irrefl _ (Nat.lt_of_lt_of_le q.2.1 h)) fun h => dk_fk h q.2.2) fun q => Nat.lt_irrefl _ (Nat.lt_of_lt_of_le hb q.1)
    have nS : ∀ b o, s.heap.get? b = some o → Dk o → s₅.heap.get? b = some o := fun b o e hd => nR b o (r₃.keeps b o (r₂.keeps b o e)) (Heap.lt_size (r₂.keeps b o e)) (.inr hd)
    have rall : Rel (fun b o => XI s₂.heap.objs.size hi b o ∨ (hB.objs.size ≤ b ∧ b < s.heap.objs.size ∧ Fk o)) (· = s.gens.size) s s₅ := (((r₂.weak (fun _ _ q => q.elim) fun _ q => q.elim).trans (r₃.weak (fun _ _ q => q.elim) fun _ q => q.elim)).trans (r''.weak (fun _ _ q => q.elim (fun q => .inl q.1) .inr) fun _ q => q.elim)).trans (r₅.weak (fun _ _ q => .inl q) fun _ q => q)
    refine gen_start (hC := s.heap) (g := s.gens.size) (ax := ax) (m := updAll [(Str.ofString "rows", .ref ax), (Str.ofString "rescale", .ref ar)] fun _ => none) (ks := ks) (L := L) (ar := ar)
      { T := T, code := by rw [he]; rfl, own := own, base := hsB, hCs := Nat.le_refl _, lohi := ⟨r₂.mono.1, Nat.le_of_lt h3⟩, rows := hrows, rok := ok.rows, L1 := ok.L1, ps0 := by simpa [psOf] using ok.n0, few := by simpa [psOf] using ok.few,
        ok := fun j hj => ?_, kk := kk, inter := by rw [he]; rfl } hA'.in1 hd' ok.fewR (F₂.moved fun b o e hb _ => nR b o (r₃.keeps b o e) (own b hb).2 (.inl (own b hb).1)) (g.rel T rall fun b o q => q.elim (fun q => Nat.le_trans hsB (Nat.le_trans r₂.mono.1 q.1)) fun q => q.1) ?_ ?_ (fun b o e hd => nS b o e hd) hresc ok.few ok.t1 (fun j hj => (ok.d1 j hj).2) (Nat.le_trans h5 r₅.mono.1)
    · have hj' : j < ds.length := by simpa [psOf] using hj
      rw [psOf_getD hj']
      have hb := ok.d1 j hj'
      exact ⟨two_pow_bound ok.t1, two_pow_pos hb.1, (two_pow_bound hb.2).2⟩
    · show upd (upd (fun _ => none) (Str.ofString "rows") (.ref ax)) (Str.ofString "rescale") (.ref ar) (Str.ofString "rows") = _
      exact (upd_ne (by decide)).trans upd_self
    · show upd (upd (fun _ => none) (Str.ofString "rows") (.ref ax)) (Str.ofString "rescale") (.ref ar) (Str.ofString "rescale") = _
      exact upd_self
end
end Mine

/-! H1 -/
set_option linter.unusedVariables false
set_option maxRecDepth 100000
namespace Mine
open PySem PySem.W PyProof.Rows
open Sem (wp)

section
variable {prog : Program} {w : World} {A : Around} {s : Shared} {d u : Nat} {mg mb : Str → Option Value} {hB : Heap} {aA aR c P : Addr} {cA : Value} {c0 hi g : Nat} {a D : Addr} {kt : Kd} {out : List (List Int)}

/-- the rows that a list holds so far -/
def RowsTo (kt : Kd) (hi : Nat) (h : Heap) (out : List (List Int)) (acc : List Value) : Prop := ∀ j, j < acc.length → ∃ r, acc[j]? = some (.ref r) ∧ hi ≤ r ∧ RowAt kt h r (out.getD j [])
theorem RowsTo.at {h h' : Heap} {acc : List Value} (x : RowsTo kt hi h out acc) (hk : ∀ b o, hi ≤ b → h.get? b = some o → Dk o → h'.get? b = some o) : RowsTo kt hi h' out acc := fun j hj =>
  let ⟨r, e1, e2, e3⟩ := x j hj; ⟨r, e1, e2, e3.at fun o e hd => hk r o e2 e hd⟩
theorem RowsTo.snoc {h : Heap} {acc : List Value} {r : Addr} (x : RowsTo kt hi h out acc) (hr : hi ≤ r) (row : RowAt kt h r (out.getD acc.length [])) : RowsTo kt hi h out (acc ++ [.ref r]) := fun j hj => by
  by_cases hj' : j < acc.length
  · obtain ⟨r', e1, e2, e3⟩ := x j hj'
    exact ⟨r', by rw [List.getElem?_append_left hj']; exact e1, e2, e3⟩
  · have : j = acc.length := by rw [List.length_append, List.length_singleton] at hj; omega
    subst this
    exact ⟨r, by simp, hr, row⟩

theorem xg_dk {lo : Nat} {b : Addr} {o : Obj} (gs : GS hB c P s.heap) (e : s.heap.get? b = some o) (hd : Dk o) : ¬ XG c0 lo hi P b o := fun q => by
  rcases q with q | q
  · subst q; exact gs.notDk e hd
  · exact q.2.2 hd

theorem ext_loop {R : Flow → Shared → Prop} (hA : OkA A d u) (hd : d < 900) (T : Txt mg mb hB aA aR c P cA) (hlo : hB.objs.size ≤ a) (haD : a < D ∧ D < hi) (h0 : c0 ≤ a) (hfew : out.length ≤ 1000) :
    ∀ (k : Nat) (s : Shared) (acc : List Value), acc.length + k = out.length → GenSt prog w A.in1 hB c c0 a hi P kt out a g k s → GS hB c P s.heap → s.heap.PlainList D acc.toArray → RowsTo kt hi s.heap out acc →
      (∀ s' acc', Rel (fun b _ => b = P ∨ c0 ≤ b) (· = g) s s' → GS hB c P s'.heap → acc'.length = out.length → s'.heap.PlainList D acc'.toArray → RowsTo kt hi s'.heap out acc' → R (.ret .none) s') →
      codeD (model prog w) A (.builtin "list.extend.loop" ⟨[.ref D, .ref a, .none], []⟩) R s := by
  have wk : ∀ {s s' : Shared}, Rel (XG c0 a hi P) (· = g) s s' → Rel (fun b _ => b = P ∨ c0 ≤ b) (· = g) s s' := fun r => r.weak (fun b o q => by
    rcases q with q | q
    · exact .inl q
    · exact .inr q.1) fun _ q => q
  have xD : ∀ o, Dk o → ¬ XG c0 a hi P D o := fun o hd q => by
    rcases q with q | q
    · exact Nat.lt_irrefl _ (Nat.lt_of_lt_of_le T.cP.2 (q ▸ Nat.le_trans hlo (Nat.le_of_lt haD.1)))
    · exact q.2.2 hd
  intro k
  induction k with
  | zero =>
    intro s acc hk G gs hD hacc hR
    refine codeD_builtin (isDec_id (by decide +kernel)) F.entry_extend_loop ?_
    rw [Around.under_plainId F.plain_extend_loop _]
    show wpD _ A.in1 (pyNext (.ref a) >>= _) _ s
    refine wpD_bind (gen_next hA.in1 hd T hlo G gs (fun k r s' h => by omega) fun s' _ r g' => ?_)
    exact wpD_pure (hR s' acc (wk r) g' (by omega) (by
      obtain ⟨n, e⟩ := hD
      exact ⟨n, r.heap _ _ e (xD _ trivial)⟩) (hacc.at fun b o _ e hd => r.heap b o e (xg_dk gs e hd)))
  | succ k ih =>
    intro s acc hk G gs hD hacc hR
    refine codeD_builtin (isDec_id (by decide +kernel)) F.entry_extend_loop ?_
    rw [Around.under_plainId F.plain_extend_loop _]
    show wpD _ A.in1 (pyNext (.ref a) >>= _) _ s
    refine wpD_bind (gen_next hA.in1 hd T hlo G gs (fun k' r s' h r₁ g₁ hr row G₁ => ?_) fun s' h => by omega)
    obtain rfl : k' = k := by omega
    have hD₁ : s'.heap.PlainList D acc.toArray := by
      obtain ⟨n, e⟩ := hD
      exact ⟨n, r₁.heap _ _ e (xD _ trivial)⟩
    have hacc₁ : RowsTo kt hi s'.heap out acc := hacc.at fun b o _ e hd => r₁.heap b o e (xg_dk gs e hd)
    have erow : out.length - 1 - k' = acc.length := by omega
    rw [erow] at row
    obtain ⟨n, hDe⟩ := hD₁
    have hsl : sizeLine ≥ 2000 := by decide
    refine wpD_bind (m := Builtin.List.listUpdate (.ref D) (·.push (.ref r))) (wpD_of (wpAny_updateSeq hDe rfl ?_ (by simp; omega) (by simp; omega)))
    refine wpD_pure ⟨plainId_quiet F.plain_extend_loop _, ?_⟩
    obtain ⟨n', hD₂⟩ := plain_update (f := fun xs => xs.push (.ref r)) hDe
    have r₂ : Rel (fun b o => (a ≤ b ∧ b < hi) ∧ b ≠ a) noV s' { s' with heap := s'.heap.update D (Obj.mapSeq fun xs => xs.push (.ref r)) } :=
      Rel.only (tk := s'.toks) (fun b o e q => (Heap.get?_update_other _ _ (fun z : D = b => q ⟨⟨Nat.le_of_lt (z ▸ haD.1), z ▸ haD.2⟩, Nat.ne_of_gt (z ▸ haD.1)⟩)).trans e) (by rw [size_update]; exact Nat.le_refl _)
    have hacc₂ : RowsTo kt hi (s'.heap.update D (Obj.mapSeq fun xs => xs.push (.ref r))) out (acc ++ [.ref r]) :=
      (hacc₁.snoc hr row).at fun b o hb e _ => r₂.heap b o e fun q => Nat.lt_irrefl _ (Nat.lt_of_lt_of_le q.1.2 hb)
    refine ih _ (acc ++ [.ref r]) (by simp; omega) (G₁.stable r₂) (g₁.rel T r₂ fun b o q => Nat.le_trans hlo q.1.1) ⟨n', by simpa using hD₂⟩ hacc₂ fun s'' acc'' r₃ g₃ h1 h2 h3 => ?_
    exact hR s'' acc'' (((wk r₁).trans (r₂.weak (fun b o q => .inr (Nat.le_trans h0 q.1.1)) fun _ q => q.elim)).trans r₃) g₃ h1 h2 h3
end
end Mine

/-! H2 -/
set_option linter.unusedVariables false
set_option maxRecDepth 100000
namespace Mine
open PySem PySem.W PyProof.Rows
open Sem (wp)

section
variable {prog : Program} {w : World} {A : Around} {s : Shared} {d u : Nat} {mg mb : Str → Option Value} {hB : Heap} {aA aR c P : Addr} {cA : Value} {c0 g N : Nat} {a : Addr} {kt : Kd} {out : List (List Int)}

theorem RowsTo.rows {hi : Nat} {h : Heap} {ax : Addr} {acc : List Value} (x : RowsTo kt hi h out acc) (hl : h.PlainList ax acc.toArray) (hn : acc.length = out.length) : RowsAt kt h ax out :=
  ⟨acc, hl, hn, fun j hj => let ⟨r, e1, _, e3⟩ := x j (hn ▸ hj); ⟨r, e1, e3⟩⟩

/-- list(gen) -/
theorem list_gen {Q : Value → Shared → Prop} (hA : OkA A d u) (hd : d < 500) (T : Txt mg mb hB aA aR c P cA) (gs₀ : GS hB c P s.heap) (hlo : hB.objs.size ≤ a) (h0 : c0 ≤ a) (has : a < s.heap.objs.size) (hfew : out.length ≤ 1000)
    (ready : ∀ A' d' u' s'' hi, OkA A' d' u' → d' < 600 → Rel (fun b o => (a ≤ b ∧ b < hi) ∧ b ≠ a) noV s s'' → a < hi → hi ≤ s''.heap.objs.size → GenSt prog w A' hB c c0 a hi P kt out a g out.length s'')
    (hQ : ∀ D s', Rel (fun b _ => b = P ∨ c0 ≤ b) (· = g) s s' → GS hB c P s'.heap → RowsAt kt s'.heap D out → Q (.ref D) s') :
    wpD (model prog w) A (call (.type "list") [.ref a]) Q s := by
  have hTg : s.TypeIs (.ref a) "generator" := by
    have G := ready A d u s s.heap.objs.size hA (by omega) (Rel.refl _) has (Nat.le_refl _)
    exact G.gen.typeIs
  refine wpD_callType (Q₁ := fun obj s₁ => obj = .ref s.heap.objs.size ∧ s₁ = { s with heap := s.heap.push { cls := .type "list", data := .seq #[] } }) F.called_list (F.typeCall_list_1 _) F.entry_list_init (by decide +kernel)
    (codeD_of_wants (code_list_new _ ⟨rfl, rfl⟩)) fun obj s₁ h₁ => ?_
  obtain ⟨rfl, rfl⟩ := h₁
  have hS : (s.heap.push { cls := .type "list", data := .seq #[] }).get? s.heap.objs.size = some { cls := .type "list", data := .seq #[] } := Heap.get?_push_size _ rfl
  refine ⟨⟨_, hS, rfl⟩, F.args_list_init_2 _ _, ?_⟩
  generalize hDe : s.heap.objs.size = D at *
  have hk : ∀ b o, s.heap.get? b = some o → (s.heap.push { cls := .type "list", data := .seq #[] }).get? b = some o := fun b o e => Heap.get?_push_of_some _ e
  have hz : (s.heap.push { cls := .type "list", data := .seq #[] }).objs.size = D + 1 := by rw [Heap.size_push, hDe]
  generalize hH : s.heap.push { cls := .type "list", data := .seq #[] } = H at *
  have hne : a ≠ D := Nat.ne_of_lt has
  -- the interval is [a, D + 1)
  have xs : ∀ f : Array Value → Array Value, ∀ {h : Heap}, Rel (fun b o => (a ≤ b ∧ b < D + 1) ∧ b ≠ a) noV { s with heap := h } { s with heap := h.update D (Obj.mapSeq f) } := fun f h =>
    Rel.only (tk := s.toks) (fun b o e q => (Heap.get?_update_other _ _ (fun z : D = b => q ⟨⟨Nat.le_of_lt (z ▸ has), z ▸ Nat.lt_succ_self _⟩, fun z' => hne (z'.symm.trans z.symm)⟩)).trans e) (by rw [size_update]; exact Nat.le_refl _)
  have r₁ : Rel (fun b o => (a ≤ b ∧ b < D + 1) ∧ b ≠ a) noV s { s with heap := H } := Rel.only (tk := s.toks) (fun b o e _ => hk b o e) (by rw [hz, hDe]; exact Nat.le_succ _)
  show wpD _ _ (do let old ← Builtin.List.listItems (.ref D); Builtin.List.listUpdate (.ref D) (fun _ => #[]); letGo old.toList.reverse; Builtin.List.listExtendWith (.ref D) (.ref a) .none) _ _
  refine wpD_bind (wpD_of (wpAny_listItems hS ?_))
  refine wpD_bind (m := Builtin.List.listUpdate (.ref D) (fun _ => #[])) (wpD_of (wpAny_updateSeq hS rfl ?_))
  obtain ⟨n₂, hD₂⟩ := plain_update (f := fun _ => (#[] : Array Value)) hS
  have r₂ := r₁.trans (xs (fun _ => #[]))
  generalize hH₂ : H.update D (Obj.mapSeq fun _ => (#[] : Array Value)) = H₂ at *
  refine wpD_bind (wpD_of (wpAny_letGo ?_))
  have xa : ∀ {s' : Shared}, Rel (fun b o => (a ≤ b ∧ b < D + 1) ∧ b ≠ a) noV s s' → s'.TypeIs (.ref a) "generator" := fun r => by
    obtain ⟨o, ho, hc⟩ := hTg
    exact ⟨o, r.heap _ _ ho fun q => q.2 rfl, hc⟩
  have G₂ := ready A d u _ (D + 1) hA (by omega) r₂ (Nat.lt_succ_of_lt has) (by rw [← hH₂, size_update, hz]; exact Nat.le_refl _)
  unfold Builtin.List.listExtendWith
  refine wpD_bind (wpD_of (wpAny_typeOf (xa r₂) ?_))
  refine wpD_if_false (by simp [Builtin.List.listSameRef, Ne.symm hne]) ?_
  refine wpD_bind (wpD_of (wpAny_pyIter_gen G₂.gen ?_))
  refine wpD_bind (wpD_holding (wpD_of ?_))
  unfold Builtin.List.listLengthHint
  refine wpAny_bind (wpAny_specialOf (xa r₂) F.gen_no_len ?_)
  show wpAny _ _ (specialOf (Value.ref a) (Str.ofString "__length_hint__") >>= _) _ _ _
  refine wpAny_bind (wpAny_specialOf (xa r₂) F.gen_no_hint ?_)
  refine wpAny_pure ?_
  show wpD _ _ (rule "list.extend.makes-room" >>= fun _ => Builtin.List.listTouch (.ref D) >>= fun _ =>
    again (.builtin "list.extend.loop" ⟨[.ref D, .ref a, .none], []⟩)) _ _
  refine wpD_bind (wpD_rule ?_)
  refine wpD_bind (m := updateSeq D (·.push .none) >>= fun _ => updateSeq D (·.pop)) (wpD_of (wpAny_bind (wpAny_updateSeq hD₂ rfl ?_)))
  obtain ⟨n₃, hD₃⟩ := plain_update (f := (·.push Value.none)) hD₂
  refine wpAny_updateSeq hD₃ rfl ?_ (by show 1 ≤ sizeLine; decide) (by simp)
  obtain ⟨n₄, hD₄⟩ := plain_update (f := (·.pop)) hD₃
  have r₄ := (r₂.trans (xs (·.push Value.none))).trans (xs (·.pop))
  have G₄ := fun A' d' u' (hA' : OkA A' d' u') (hd' : d' < 600) => ready A' d' u' _ (D + 1) hA' hd' r₄ (Nat.lt_succ_of_lt has) (by simp only [size_update]; rw [← hH₂, size_update, hz]; exact Nat.le_refl _)
  have g₄ := gs₀.rel T r₄ fun b o q => Nat.le_trans hlo q.1.1
  refine wpD_pure ⟨plainId_quiet F.plain_extend_loop _, ext_loop (D := D) (hi := D + 1) (kt := kt) (out := out) (g := g) hA.in1 (by omega) T hlo ⟨has, Nat.lt_succ_self _⟩ h0 hfew out.length _ [] (by simp) (G₄ _ _ _ hA.in1.in1 (by omega)) g₄ ⟨n₄, by simpa using hD₄⟩ (fun j hj => absurd hj (Nat.not_lt_zero _)) fun s' acc' r g' h1 h2 h3 => ⟨rfl, ?_⟩⟩
  exact hQ D s' ((r₄.weak (fun b o q => .inr (Nat.le_trans h0 q.1.1)) fun _ q => q.elim).trans r) g' (h3.rows h2 h1)
end
end Mine

/-! H3 -/
set_option linter.unusedVariables false
set_option maxRecDepth 100000
namespace Mine
open PySem PySem.W PyProof.Rows
open Sem (wp)

section
variable {prog : Program} {w : World} {A : Around} {E : Value → Shared → Prop} {s : Shared} {d u : Nat} {mg mb : Str → Option Value} {hB : Heap} {aA aR c P : Addr} {cA : Value} {ks kt : Kd} {ax ar : Addr} {xss : List (List Int)} {L t : Nat} {ds : List Nat}

/-- list(row) of either kind -/
theorem list_row {k : Kd} {a : Addr} {xs : List Int} {Q : Value → Shared → Prop} (hh : A.handled = none) (r : RowAt k s.heap a xs) (hz : xs.length ≤ 1000)
    (h : ∀ s', Rel noX noV s s' → RowAt .H s'.heap s.heap.objs.size xs → Q (.ref s.heap.objs.size) s') : wpAny (model prog w) A (call (.type "list") [.ref a]) Q E s := by
  have hsl : sizeLine ≥ 2000 := by decide
  cases k with
  | B =>
    obtain ⟨bs, hb, hx⟩ := r
    have hn : xs.length = bs.size := by rw [← hx, bytesInts_length]
    refine wpAny_grow (call_list_BA hh hb (fun h' tk acc' hk hl hacc => ?_) (by omega))
    intro mz
    obtain ⟨z1, z2⟩ := hacc
    obtain ⟨n, hl⟩ := hl
    refine h _ (Rel.only (tk := tk) (fun b o e _ => hk b o e) mz.1) ⟨acc'.toList, ⟨n, hl⟩, intsAre_of (by rw [Array.length_toList, z1, hn]) fun j hj => ?_⟩
    have hj' : j < acc'.size := by rw [z1, ← hn]; exact hj
    obtain ⟨t, e⟩ := z2 j acc'[j] (by simp [hj'])
    refine ⟨t, ?_⟩
    rw [← hx, bytesInts_getD]
    simpa [List.getD, hj'] using e
  | H =>
    obtain ⟨vs, ⟨n, hl⟩, hv⟩ := r
    obtain ⟨l1, l2⟩ := intsAre_at hv
    refine wpAny_grow (call_list_seq a (.inl rfl) hl rfl rfl (fun h' c' hk hD => ?_))
    intro mz
    exact h _ (Rel.only (tk := s.toks) (fun b o e _ => hk b o e) mz.1) ⟨vs, ⟨c', hD⟩, hv⟩

/-- list(rescale_rows(..)) on the objects -/
theorem rescale_list {Q : Value → Shared → Prop} (hA : OkA A d u) (hd : d < 400) (T : Txt mg mb hB aA aR c P cA) (g : GS hB c P s.heap) (hsB : hB.objs.size ≤ s.heap.objs.size)
    (hrows : RowsAt ks s.heap ax xss) (hresc : RescAt s.heap ar ds t) (ok : ArgsOk ds t xss L) (kk : kdOf t = .H → ks = .H)
    (hQ : ∀ D s', Rel (fun b _ => b = P) noV s s' → GS hB c P s'.heap → RowsAt (kdOf t) s'.heap D (outOf (psOf ds t) xss) → Q (.ref D) s') :
    wpD (model prog w) A (call (.ref aR) [.ref ax, .ref ar]) (fun v s₁ => wpD (model prog w) A (call (.type "list") [v]) Q s₁) s := by
  refine call_rescale hA (by omega) T g hsB hrows hresc ok kk fun a s₁ r₁ ha ha' ready => ?_
  have g₁ := g.rel T r₁ fun _ _ q => q.elim
  refine list_gen (c0 := s.heap.objs.size) (g := s.gens.size) (kt := kdOf t) (out := outOf (psOf ds t) xss) hA (by omega) T g₁ (Nat.le_trans hsB ha) ha ha' (by simpa using ok.fewR) (fun A' d' u' s'' hi h1 h2 h3 h4 h5 => ?_) fun D s₂ r₂ g₂ hr => ?_
  · have := ready A' d' u' s'' hi h1 h2 (h3.weak (fun _ _ q => .inl q) fun _ q => q) h4 h5
    simpa using this
  · exact hQ D s₂ ((r₁.up).tf r₂ (fun b o q => by
      rcases q with q | q
      · exact .inr q
      · exact .inl q) fun k q => .inl (Nat.le_of_eq q.symm)) g₂ hr
end
end Mine

/-! H4 -/
set_option linter.unusedVariables false
set_option maxRecDepth 100000
namespace Mine
open PySem PySem.W PyProof.Rows
open Sem (wp)

abbrev lawSc : Scope := dScope (stAt 5)
abbrev lawBody : List Stmt := dBody (stAt 5)
def ifTest : Stmt → Expr
  | .If t _ _ _ => t
  | _ => .Name "" default
def cmpL : Expr → Expr
  | .Compare l _ _ _ => l
  | e => e
def cmpR : Expr → Expr
  | .Compare _ _ [r] _ => r
  | e => e
abbrev homeFor : Stmt := lawBody.getD 10 (.Pass default)
abbrev homeIf : Stmt := (forBody homeFor).getD 1 (.Pass default)
abbrev homeComp : Expr := cmpL (ifTest homeIf)
theorem home_ok : ScOk lawSc (gxScope homeComp) := ⟨by with_unfolding_all rfl, by decide +kernel, by decide +kernel, by decide +kernel⟩

section
variable {prog : Program} {w : World} {A : Around} {s : Shared} {d u : Nat} {mg mb : Str → Option Value} {hB : Heap} {aA aR c P : Addr} {cA : Value} {c0 g : Nat} {a : Addr} {kt : Kd} {out : List (List Int)} {env : Env} {m : Str → Option Value}

/-- [list(row) for row in home] -/
theorem home_comp {Q : Value → Shared → Prop} (hA : OkA A d u) (hd : d < 400) (T : Txt mg mb hB aA aR c P cA) (F : Frm lawSc env s.heap m) (gs₀ : GS hB c P s.heap) (hown : ∀ b, Own env b → b < c0 ∧ b ≠ P) (hlo : hB.objs.size ≤ a) (h0 : c0 ≤ a) (has : a < s.heap.objs.size)
    (hfew : out.length ≤ 1000) (hsm : ∀ j, j < out.length → (out.getD j []).length ≤ 1000) (hm : m (Str.ofString "home") = some (.ref a))
    (ready : ∀ A' d' u' s'' hi, OkA A' d' u' → d' < 600 → Rel (fun b o => (a ≤ b ∧ b < hi) ∧ b ≠ a) noV s s'' → a < hi → hi ≤ s''.heap.objs.size → GenSt prog w A' hB c c0 a hi P kt out a g out.length s'')
    (hQ : ∀ D s', Rel (fun b _ => b = P ∨ c0 ≤ b) (· = g) s s' → GS hB c P s'.heap → RowsAt .H s'.heap D out → Q (.ref D) s') :
    wpD (model prog w) A (eval homeComp env) Q s := by
  have G₀ := ready A d u s s.heap.objs.size hA (by omega) (Rel.refl _) has (Nat.le_refl _)
  refine wpD_ListComp (m := m) (sc := lawSc) home_ok (wpD_of (ev_local F hm (wpD_of (wpAny_pyIter_gen G₀.gen ⟨F, fun D cenv s₄ N => ?_⟩)) rfl))
  have haD : a < D := Nat.lt_of_lt_of_le has N.loD
  have G₄ := ready A d u s₄ s₄.heap.objs.size hA (by omega) (N.rel.weak (fun _ _ q => q.elim) fun _ q => q) (Nat.lt_of_lt_of_le has N.rel.mono.1) (Nat.le_refl _)
  have g₄ := gs₀.rel T N.rel fun _ _ q => q.elim
  have hDP : D ≠ P := fun q => Nat.lt_irrefl _ (Nat.lt_of_lt_of_le T.cP.2 (q ▸ Nat.le_trans hlo (Nat.le_of_lt haD)))
  generalize hhi : s₄.heap.objs.size = hi at *
  have hiD : D < hi := by rw [← hhi]; exact N.hiD
  have hiC : cenv.locals < hi := by rw [← hhi]; exact N.hiC
  have haC : a < cenv.locals := Nat.lt_of_lt_of_le has N.loC
  have hsl : out.length ≤ sizeLine := Nat.le_trans hfew (by decide)
  refine lc_loop (x := Str.ofString "row") (n := out.length) (X := XG c0 a hi P) (V := (· = g)) (fun i ys s => GenSt prog w A hB c c0 a hi P kt out a g (out.length - i) s ∧ GS hB c P s.heap ∧ hi ≤ s.heap.objs.size ∧ Rel (fun b _ => b = P ∨ c0 ≤ b) (· = g) s₄ s ∧ ys.length = i ∧
      ∀ j, j < i → ∃ r, ys[j]? = some (.ref r) ∧ hi ≤ r ∧ RowAt .H s.heap r (out.getD j []))
    (by rfl) N.frm N.acc (fun o q => ?_) (fun b o q hb ho => ?_) hsl ⟨G₄, g₄, Nat.le_of_eq hhi.symm, Rel.refl _, rfl, fun j hj => absurd hj (Nat.not_lt_zero _)⟩ (fun Q' hQ' => wpD_of (wpAny_pyIter_gen G₄.gen hQ')) (fun i ys s₅ hi' hy hJ => ?_) (fun ys s₅ hy hJ hpl => ?_)
  · rcases q with q | q
    · exact hDP q
    · exact q.2.1 ⟨Nat.le_of_lt haD, hiD⟩
  · rcases hb with e | ⟨y, e⟩
    · subst e
      rcases q with q | q
      · exact Nat.lt_irrefl _ (Nat.lt_of_lt_of_le T.cP.2 (q ▸ Nat.le_trans hlo (Nat.le_of_lt haC)))
      · exact q.2.1 ⟨Nat.le_of_lt haC, hiC⟩
    · have ho' := hown b (.inr ⟨y, N.cells y b e⟩)
      rcases q with q | q
      · exact ho'.2 q
      · exact Nat.lt_irrefl _ (Nat.lt_of_lt_of_le ho'.1 q.1)
  · obtain ⟨G, gs, hz, rel, hyl, hys⟩ := hJ
    refine gen_next hA (by omega) T hlo G gs (fun k r s' hk r₁ g₁ hr row G₁ => ?_) fun s' hk => by omega
    refine ⟨_, rfl, r₁, fun s₂ rC F₂ => ?_⟩
    have ek : out.length - 1 - k = i := by omega
    rw [ek] at row
    have rCi : Rel (fun b o => (a ≤ b ∧ b < hi) ∧ b ≠ a) noV s' s₂ := rC.weak (fun b o q => q ▸ ⟨⟨Nat.le_of_lt haC, hiC⟩, Nat.ne_of_gt haC⟩) fun _ q => q
    have G₂ := G₁.stable rCi
    have g₂ := g₁.rel T rCi fun b o q => Nat.le_trans hlo q.1.1
    have row₂ : RowAt kt s₂.heap r (out.getD i []) := row.at fun o e _ => rCi.heap _ o e fun q => Nat.lt_irrefl _ (Nat.lt_of_lt_of_le q.1.2 hr)
    refine wpD_Call (wpD_of (ev_builtin F₂ (g₂.glb T) (T.none _ (by simp)) (v := .type "list") (by with_unfolding_all rfl) (by decide) ?_ (by rfl) (by decide)))
    refine wpD_callWith_type rfl (wpD_of (evalArgs_one rfl (ev_local F₂ upd_self (wpD_of (list_row hA.handled row₂ (hsm i hi') fun s₃ r₃ row₃ => ?_)) (by rfl))))
    refine ⟨r₃, fun s₆ r₆ => ?_⟩
    have r₃i : Rel (fun b o => (a ≤ b ∧ b < hi) ∧ b ≠ a) noV s₂ s₃ := r₃.up
    have r₆i : Rel (fun b o => (a ≤ b ∧ b < hi) ∧ b ≠ a) noV s₃ s₆ := r₆.weak (fun b o q => q ▸ ⟨⟨Nat.le_of_lt haD, hiD⟩, Nat.ne_of_gt haD⟩) fun _ q => q
    have rAll := (rCi.trans r₃i).trans r₆i
    have hz₂ : hi ≤ s₂.heap.objs.size := Nat.le_trans hz (Nat.le_trans r₁.mono.1 rC.mono.1)
    have keepH : ∀ b o, hi ≤ b → s₃.heap.get? b = some o → s₆.heap.get? b = some o := fun b o hb e => r₆i.heap b o e fun q => Nat.lt_irrefl _ (Nat.lt_of_lt_of_le q.1.2 hb)
    refine ⟨?_, g₁.rel T rAll fun b o q => Nat.le_trans hlo q.1.1, Nat.le_trans hz (Nat.le_trans r₁.mono.1 rAll.mono.1), ?_, by simp [hyl], fun j hj => ?_⟩
    · have : out.length - (i + 1) = k := by omega
      rw [this]
      exact G₁.stable rAll
    · refine (rel.trans (r₁.weak (fun b o q => ?_) fun _ q => q)).trans (rAll.weak (fun b o q => .inr (Nat.le_trans h0 q.1.1)) fun _ q => q.elim)
      rcases q with q | q
      · exact .inl q
      · exact .inr q.1
    · by_cases hj' : j < i
      · obtain ⟨r', e1, e2, e3⟩ := hys j hj'
        refine ⟨r', by rw [List.getElem?_append_left (by omega)]; exact e1, e2, e3.at fun o e hd => ?_⟩
        exact rAll.heap _ o (r₁.heap _ o e (xg_dk gs e hd)) fun q => Nat.lt_irrefl _ (Nat.lt_of_lt_of_le q.1.2 e2)
      · have : j = i := by omega
        subst this
        exact ⟨_, by rw [List.getElem?_append_right (by omega), hyl]; simp, hz₂, row₃.at fun o e _ => keepH _ o hz₂ e⟩
  · obtain ⟨G, gs, hz, rel, hyl, hys⟩ := hJ
    have e0 : out.length - out.length = 0 := Nat.sub_self _
    rw [e0] at G
    refine gen_next hA (by omega) T hlo G gs (fun k r s' hk => by omega) fun s' _ r₁ g₁ => ⟨rfl, r₁, fun m' F' hpl' => ?_⟩
    obtain ⟨ml, hn, _⟩ := F'.ns
    refine ⟨ml, hn, fun s'' rC => ?_⟩
    have rCi : Rel (fun b o => (a ≤ b ∧ b < hi) ∧ b ≠ a) noV s' s'' := rC.weak (fun b o q => q ▸ ⟨⟨Nat.le_of_lt haC, hiC⟩, Nat.ne_of_gt haC⟩) fun _ q => q
    refine hQ D s'' ?_ (g₁.rel T rCi fun b o q => Nat.le_trans hlo q.1.1) ⟨ys, hpl'.at fun o e => rC.heap _ o e N.DC, hyl, fun j hj => ?_⟩
    · refine (((N.rel.weak (fun _ _ q => q.elim) fun _ q => q.elim).trans rel).trans (r₁.weak (fun b o q => ?_) fun _ q => q)).trans (rCi.weak (fun b o q => .inr (Nat.le_trans h0 q.1.1)) fun _ q => q.elim)
      rcases q with q | q
      · exact .inl q
      · exact .inr q.1
    · obtain ⟨r', e1, e2, e3⟩ := hys j hj
      refine ⟨r', e1, e3.at fun o e hd => ?_⟩
      exact rCi.heap _ o (r₁.heap _ o e (xg_dk gs e hd)) fun q => Nat.lt_irrefl _ (Nat.lt_of_lt_of_le q.1.2 e2)
end
end Mine

/-! M1 -/
set_option linter.unusedVariables false
set_option maxRecDepth 100000
namespace Mine

/-! the plain law: rounding through unlike greater depths comes home -/

theorem fdiv_spec {a b : Int} (hb : 0 < b) : a.fdiv b * b ≤ a ∧ a < (a.fdiv b + 1) * b := by
  rw [Int.fdiv_eq_ediv_of_nonneg a (Int.le_of_lt hb)]
  have h1 := Int.emod_add_mul_ediv a b
  have h2 := Int.emod_nonneg a (Int.ne_of_gt hb)
  have h3 := Int.emod_lt_of_pos a hb
  have e : a / b * b = b * (a / b) := Int.mul_comm _ _
  have e2 : (a / b + 1) * b = b * (a / b) + b := by rw [Int.add_mul, e, Int.one_mul]
  omega

/-- the new value lies within half a unit -/
theorem scaled_spec {T S x : Int} (hS : 0 < S) : 2 * scaled (T, S) x * S ≤ 2 * x * T + S ∧ 2 * x * T < 2 * scaled (T, S) x * S + S := by
  unfold scaled
  dsimp only
  obtain ⟨h1, h2⟩ := fdiv_spec (a := 2 * x * T) hS
  generalize hq : (2 * x * T).fdiv S = q at *
  obtain ⟨h3, h4⟩ := fdiv_spec (a := q + 1) (b := 2) (by decide)
  generalize hy : (q + 1).fdiv 2 = y at *
  have e1 : 2 * y ≤ q + 1 := by omega
  have e2 : q ≤ 2 * y := by omega
  have m1 : 2 * y * S ≤ (q + 1) * S := Int.mul_le_mul_of_nonneg_right e1 (Int.le_of_lt hS)
  have m2 : q * S ≤ 2 * y * S := Int.mul_le_mul_of_nonneg_right e2 (Int.le_of_lt hS)
  have e3 : (q + 1) * S = q * S + S := by rw [Int.add_mul, Int.one_mul]
  omega

theorem scaled_range {T S x : Int} (hS : 0 < S) (hT : 0 ≤ T) (h0 : 0 ≤ x) (h1 : x ≤ S) : 0 ≤ scaled (T, S) x ∧ scaled (T, S) x ≤ T := by
  obtain ⟨a1, a2⟩ := scaled_spec (T := T) (x := x) hS
  generalize scaled (T, S) x = y at *
  have p0 : 0 ≤ 2 * x * T := Int.mul_nonneg (by omega) hT
  have p1 : 2 * x * T ≤ 2 * S * T := Int.mul_le_mul_of_nonneg_right (by omega) hT
  have e : 2 * S * T = 2 * T * S := by rw [Int.mul_assoc, Int.mul_assoc, Int.mul_comm S T]
  constructor
  · -- otherwise 2 y S ≤ -2 S
    rcases Int.lt_or_le y 0 with h | h
    · have : 2 * y * S ≤ (-2) * S := Int.mul_le_mul_of_nonneg_right (by omega) (Int.le_of_lt hS)
      omega
    · exact h
  · rcases Int.lt_or_le T y with h | h
    · have : (2 * T + 2) * S ≤ 2 * y * S := Int.mul_le_mul_of_nonneg_right (by omega) (Int.le_of_lt hS)
      have e2 : (2 * T + 2) * S = 2 * T * S + 2 * S := Int.add_mul ..
      omega
    · exact h

/-- the error so far: x at depth of W units stands for x0 of D units -/
def Err (Q B D W x0 x : Int) : Prop := 2 * (x * D - x0 * W) * Q ≤ W * B ∧ -(W * B) ≤ 2 * (x * D - x0 * W) * Q

theorem err_start (Q D x0 : Int) : Err Q 0 D D x0 x0 := by
  unfold Err
  have : x0 * D - x0 * D = 0 := Int.sub_self _
  rw [this]
  simp

theorem err_step {Q B b D W V x0 x : Int} (hQ : 0 ≤ Q) (hD : 0 ≤ D) (hW : 0 < W) (hV : 0 ≤ V) (he : Err Q B D W x0 x) (hb : D * Q ≤ V * b) : Err Q (B + b) D V x0 (scaled (V, W) x) := by
  obtain ⟨a1, a2⟩ := scaled_spec (T := V) (x := x) hW
  generalize scaled (V, W) x = y at *
  obtain ⟨h1, h2⟩ := he
  -- in units of W
  have key : 2 * (y * D - x0 * V) * Q * W = (2 * y * W - 2 * x * V) * (D * Q) + V * (2 * (x * D - x0 * W) * Q) := by
    simp only [Int.mul_sub, Int.sub_mul, Int.mul_assoc, Int.mul_comm, Int.mul_left_comm]
    omega
  have dq : 0 ≤ D * Q := Int.mul_nonneg hD hQ
  have u1 : (2 * y * W - 2 * x * V) * (D * Q) ≤ W * (D * Q) := Int.mul_le_mul_of_nonneg_right (by omega) dq
  have u2 : (-W) * (D * Q) ≤ (2 * y * W - 2 * x * V) * (D * Q) := Int.mul_le_mul_of_nonneg_right (by omega) dq
  have v1 : V * (2 * (x * D - x0 * W) * Q) ≤ V * (W * B) := Int.mul_le_mul_of_nonneg_left h1 hV
  have v2 : V * (-(W * B)) ≤ V * (2 * (x * D - x0 * W) * Q) := Int.mul_le_mul_of_nonneg_left h2 hV
  have w1 : W * (D * Q) ≤ W * (V * b) := Int.mul_le_mul_of_nonneg_left hb (Int.le_of_lt hW)
  have e1 : W * (V * b) + V * (W * B) = V * (B + b) * W := by
    rw [Int.mul_add, Int.add_mul]
    have q1 : W * (V * b) = V * b * W := Int.mul_comm ..
    have q2 : V * (W * B) = V * B * W := by rw [Int.mul_comm W B, Int.mul_assoc]
    omega
  have e2 : (-W) * (D * Q) = -(W * (D * Q)) := Int.neg_mul ..
  have e3 : V * (-(W * B)) = -(V * (W * B)) := Int.mul_neg ..
  have e4 : -(V * (B + b)) * W = -(V * (B + b) * W) := Int.neg_mul ..
  constructor
  · exact Int.le_of_mul_le_mul_right (by omega) hW
  · refine Int.le_of_mul_le_mul_right (a := W) ?_ hW
    omega

theorem err_home {Q B D W x0 x : Int} (hQ : 0 < Q) (hW : 0 < W) (hB : B ≤ Q - 1) (hB0 : 0 ≤ B) (he : Err Q B D W x0 x) : scaled (D, W) x = x0 := by
  obtain ⟨a1, a2⟩ := scaled_spec (T := D) (x := x) hW
  generalize scaled (D, W) x = z at *
  obtain ⟨h1, h2⟩ := he
  have b1 : W * B ≤ W * (Q - 1) := Int.mul_le_mul_of_nonneg_left hB (Int.le_of_lt hW)
  have b2 : W * (Q - 1) = W * Q - W := by rw [Int.mul_sub, Int.mul_one]
  have c1 : 2 * (x * D - x0 * W) < W := by
    refine Int.lt_of_mul_lt_mul_right (a := Q) ?_ (Int.le_of_lt hQ)
    omega
  have c2 : -W < 2 * (x * D - x0 * W) := by
    refine Int.lt_of_mul_lt_mul_right (a := Q) ?_ (Int.le_of_lt hQ)
    have : -W * Q = -(W * Q) := Int.neg_mul ..
    omega
  have e1 : 2 * x * D = 2 * (x * D) := Int.mul_assoc ..
  have e2 : 2 * z * W = 2 * (z * W) := Int.mul_assoc ..
  -- z W and x0 W
  rcases Int.lt_trichotomy z x0 with h | h | h
  · have : (z + 1) * W ≤ x0 * W := Int.mul_le_mul_of_nonneg_right (by omega) (Int.le_of_lt hW)
    have e3 : (z + 1) * W = z * W + W := by rw [Int.add_mul, Int.one_mul]
    omega
  · exact h
  · have : (x0 + 1) * W ≤ z * W := Int.mul_le_mul_of_nonneg_right (by omega) (Int.le_of_lt hW)
    have e3 : (x0 + 1) * W = x0 * W + W := by rw [Int.add_mul, Int.one_mul]
    omega

/-! unlike powers of two -/
def powSum (l : List Nat) : Nat := (l.map fun e => 2 ^ e).sum
theorem powSum_lt : ∀ (n : Nat) (l : List Nat), l.Nodup → (∀ e ∈ l, e < n) → powSum l < 2 ^ n
  | 0, l, _, h => by
    cases l with
    | nil => decide
    | cons a r => exact absurd (h a List.mem_cons_self) (Nat.not_lt_zero _)
  | n + 1, l, hd, h => by
    by_cases hm : n ∈ l
    · have hp := List.perm_cons_erase hm
      have e : powSum l = 2 ^ n + powSum (l.erase n) := by
        unfold powSum
        rw [(hp.map _).sum_nat, List.map_cons, List.sum_cons]
      have ih := powSum_lt n (l.erase n) (hd.erase n) fun e he => by
        have := (List.Nodup.mem_erase_iff hd).mp he
        have := h e this.2
        omega
      rw [e, Nat.pow_succ]; omega
    · have ih := powSum_lt n l hd fun e he => by
        have := h e he
        have : e ≠ n := fun q => hm (q ▸ he)
        omega
      rw [Nat.pow_succ]; omega
end Mine

/-! M2 -/
set_option linter.unusedVariables false
set_option maxRecDepth 100000
namespace Mine

def Dd (d : Nat) : Int := (2 : Int) ^ d - 1
theorem Dd_nat (d : Nat) : Dd d = ((2 ^ d : Nat) : Int) - 1 := by unfold Dd; simp
theorem Dd_pos {d : Nat} (h : 1 ≤ d) : 0 < Dd d := by
  have h2 : (2 : Nat) ^ 1 ≤ 2 ^ d := Nat.pow_le_pow_right (by decide) h
  rw [Dd_nat]; omega
theorem Dd_nonneg (d : Nat) : 0 ≤ Dd d := by
  have : (1 : Nat) ≤ 2 ^ d := Nat.one_le_two_pow
  rw [Dd_nat]; omega
theorem Dd_small {d : Nat} (h : d ≤ 8) : Dd d < 256 := by
  have h2 : (2 : Nat) ^ d ≤ 2 ^ 8 := Nat.pow_le_pow_right (by decide) h
  rw [Dd_nat]; omega

def Bof (M : Nat) (vs : List Nat) : Int := ((vs.map fun v => 2 ^ (M - v)).sum : Nat)
theorem Bof_snoc (M : Nat) (vs : List Nat) (t : Nat) : Bof M (vs ++ [t]) = Bof M vs + ((2 ^ (M - t) : Nat) : Int) := by
  unfold Bof
  rw [List.map_append, List.sum_append]
  simp
theorem Bof_nonneg (M : Nat) (vs : List Nat) : 0 ≤ Bof M vs := Int.natCast_nonneg _
theorem Bof_lt {M d : Nat} {vs : List Nat} (hd : vs.Nodup) (hv : ∀ v ∈ vs, d < v ∧ v ≤ M) : Bof M vs ≤ ((2 ^ (M - d) : Nat) : Int) - 1 := by
  have h : powSum (vs.map fun v => M - v) < 2 ^ (M - d) := powSum_lt _ _ (by
    unfold List.Nodup
    rw [List.pairwise_map]
    exact List.Pairwise.imp_of_mem (fun {a b} ha hb hne e => hne (by
      have := hv a ha; have := hv b hb; omega)) hd) fun e he => by
    obtain ⟨v, hm, rfl⟩ := List.mem_map.mp he
    have := hv v hm; omega
  unfold powSum at h
  rw [List.map_map] at h
  unfold Bof
  have e : (vs.map ((fun e => 2 ^ e) ∘ fun v => M - v)) = vs.map fun v => 2 ^ (M - v) := rfl
  rw [e] at h
  omega

theorem unit_le {M d v : Nat} (hdv : d < v) (hv : v ≤ M) : Dd d * ((2 ^ (M - d) : Nat) : Int) ≤ Dd v * ((2 ^ (M - v) : Nat) : Int) := by
  rw [Dd_nat, Dd_nat, Int.sub_mul, Int.sub_mul, Int.one_mul, Int.one_mul]
  have e1 : ((2 ^ d : Nat) : Int) * ((2 ^ (M - d) : Nat) : Int) = ((2 ^ M : Nat) : Int) := by
    rw [← Int.natCast_mul, ← Nat.pow_add]
    congr 2; omega
  have e2 : ((2 ^ v : Nat) : Int) * ((2 ^ (M - v) : Nat) : Int) = ((2 ^ M : Nat) : Int) := by
    rw [← Int.natCast_mul, ← Nat.pow_add]
    congr 2; omega
  have h : (2 : Nat) ^ (M - v) ≤ 2 ^ (M - d) := Nat.pow_le_pow_right (by decide) (by omega)
  omega

/-- a row on its way: what was scaled from orig -/
structure RowSt (M n : Nat) (dep0 : Nat → Nat) (vs : List Nat) (W : Nat → Nat) (orig cur : List Int) : Prop where
  len : cur.length = orig.length
  rng : ∀ j, j < orig.length → 0 ≤ cur.getD j 0 ∧ cur.getD j 0 ≤ Dd (W (j % n))
  err : ∀ j, j < orig.length → Err ((2 ^ (M - dep0 (j % n)) : Nat) : Int) (Bof M vs) (Dd (dep0 (j % n))) (Dd (W (j % n))) (orig.getD j 0) (cur.getD j 0)

theorem RowSt.start {M n : Nat} {dep0 : Nat → Nat} {orig : List Int} (h : ∀ j, j < orig.length → 0 ≤ orig.getD j 0 ∧ orig.getD j 0 ≤ Dd (dep0 (j % n))) : RowSt M n dep0 [] dep0 orig orig :=
  ⟨rfl, h, fun j _ => err_start _ _ _⟩

theorem scaleRow_length (ps : List (Int × Int)) (xs : List Int) : (scaleRow ps xs).length = xs.length := by simp [scaleRow]
theorem scaleRow_getD (ps : List (Int × Int)) (xs : List Int) (j : Nat) (hj : j < xs.length) : (scaleRow ps xs).getD j 0 = scaled (ps.getD (j % ps.length) (0, 1)) (xs.getD j 0) := by
  unfold scaleRow
  simp [List.getD, hj]

theorem psOf_at {ds : List Nat} {t c : Nat} (hc : c < ds.length) : (psOf ds t).getD c (0, 1) = (Dd t, Dd (ds.getD c 0)) := psOf_getD hc

theorem RowSt.step {M n : Nat} {dep0 W : Nat → Nat} {vs ds : List Nat} {t : Nat} {orig cur : List Int} (R : RowSt M n dep0 vs W orig cur) (hn : ds.length = n) (hn0 : 0 < n) (hds : ∀ c, c < n → ds.getD c 0 = W c) (hW : ∀ c, c < n → 1 ≤ W c)
    (ht : ∀ c, c < n → dep0 c < t) (htM : t ≤ M) : RowSt M n dep0 (vs ++ [t]) (fun _ => t) orig (scaleRow (psOf ds t) cur) := by
  have hpl : (psOf ds t).length = n := by simp [psOf, hn]
  have at' : ∀ j, j < orig.length → (scaleRow (psOf ds t) cur).getD j 0 = scaled (Dd t, Dd (W (j % n))) (cur.getD j 0) := fun j hj => by
    rw [scaleRow_getD _ _ _ (by rw [R.len]; exact hj), hpl, psOf_at (by rw [hn]; exact Nat.mod_lt _ hn0), hds _ (Nat.mod_lt _ hn0)]
  refine ⟨by rw [scaleRow_length, R.len], fun j hj => ?_, fun j hj => ?_⟩
  · rw [at' j hj]
    obtain ⟨h0, h1⟩ := R.rng j hj
    exact scaled_range (Dd_pos (hW _ (Nat.mod_lt _ hn0))) (Dd_nonneg t) h0 h1
  · rw [at' j hj, Bof_snoc]
    exact err_step (Int.natCast_nonneg _) (Dd_nonneg _) (Dd_pos (hW _ (Nat.mod_lt _ hn0))) (Dd_nonneg _) (R.err j hj) (unit_le (ht _ (Nat.mod_lt _ hn0)) htM)

theorem RowSt.rowOk {M n L : Nat} {dep0 W : Nat → Nat} {vs ds : List Nat} {t : Nat} {orig cur : List Int} (R : RowSt M n dep0 vs W orig cur) (hn : ds.length = n) (hn0 : 0 < n) (hds : ∀ c, c < n → ds.getD c 0 = W c) (hW : ∀ c, c < n → 1 ≤ W c)
    (hL : orig.length = L * n) (hfew : orig.length ≤ 1000) (h8 : t ≤ 8 → ∀ c, c < n → W c ≤ 8) : RowOk (kdOf t) (psOf ds t) L cur := by
  have hpl : (psOf ds t).length = n := by simp [psOf, hn]
  have hB : kdOf t = .B → t ≤ 8 := fun h => by
    unfold kdOf at h
    split at h
    · cases h
    · omega
  refine ⟨by rw [R.len, hpl, hL], by rw [R.len]; exact hfew, fun hk i hi => ?_, fun hk i j hi hj => ?_⟩
  · rw [R.len] at hi
    obtain ⟨h0, h1⟩ := R.rng i hi
    have := Dd_small (h8 (hB hk) _ (Nat.mod_lt i hn0))
    exact ⟨h0, by omega⟩
  · rw [hpl] at hi ⊢
    have hlt : i + n * j < orig.length := by
      rw [hL]
      have : n * (j + 1) ≤ n * L := Nat.mul_le_mul_left n hj
      rw [Nat.mul_comm L n]
      rw [Nat.mul_succ] at this
      omega
    have hmod : (i + n * j) % n = i := by rw [Nat.add_mul_mod_self_left, Nat.mod_eq_of_lt hi]
    obtain ⟨h0, h1⟩ := R.rng _ hlt
    rw [hmod] at h1
    rw [psOf_at (by rw [hn]; exact hi), hds i hi]
    obtain ⟨a, b⟩ := scaled_range (T := Dd t) (Dd_pos (hW i hi)) (Dd_nonneg t) h0 h1
    have := Dd_small (hB hk)
    exact ⟨a, by omega⟩

/-- one channel comes home -/
theorem RowSt.home {M n L w c : Nat} {dep0 : Nat → Nat} {vs : List Nat} {orig cur : List Int} (R : RowSt M n dep0 vs (fun _ => w) orig cur) (hc : c < n) (hL : orig.length = L * n) (hw : 1 ≤ w)
    (hd : vs.Nodup) (hv : ∀ v ∈ vs, dep0 c < v ∧ v ≤ M) : scaleRow (psOf [w] (dep0 c)) (pickL cur c n L) = pickL orig c n L := by
  refine list_ext_getD (by rw [scaleRow_length, pickL_length, pickL_length]) fun k hk => ?_
  rw [scaleRow_length, pickL_length] at hk
  have hlt : c + n * k < orig.length := by
    rw [hL]
    have : n * (k + 1) ≤ n * L := Nat.mul_le_mul_left n hk
    rw [Nat.mul_comm L n]
    rw [Nat.mul_succ] at this
    omega
  have hmod : (c + n * k) % n = c := by rw [Nat.add_mul_mod_self_left, Nat.mod_eq_of_lt hc]
  rw [scaleRow_getD _ _ _ (by rw [pickL_length]; exact hk), pickL_getD _ _ _ _ _ hk, pickL_getD _ _ _ _ _ hk]
  have e1 : (psOf [w] (dep0 c)).length = 1 := by simp [psOf]
  rw [e1, Nat.mod_one, psOf_at (by simp)]
  have e := R.err _ hlt
  rw [hmod] at e
  have hp : (1 : Nat) ≤ 2 ^ (M - dep0 c) := Nat.one_le_two_pow
  exact err_home (by omega) (Dd_pos hw) (Bof_lt hd hv) (Bof_nonneg _ _) e

theorem RowSt.homeOk {M n L w c : Nat} {dep0 : Nat → Nat} {vs : List Nat} {orig cur : List Int} (R : RowSt M n dep0 vs (fun _ => w) orig cur) (hc : c < n) (hL : orig.length = L * n) (hw : 1 ≤ w) (hfew : orig.length ≤ 1000)
    (h8 : dep0 c ≤ 8 → w ≤ 8) : RowOk (kdOf (dep0 c)) (psOf [w] (dep0 c)) L (pickL cur c n L) := by
  have hB : kdOf (dep0 c) = .B → dep0 c ≤ 8 := fun h => by
    unfold kdOf at h
    split at h
    · cases h
    · omega
  have at' : ∀ k, k < L → 0 ≤ (pickL cur c n L).getD k 0 ∧ (pickL cur c n L).getD k 0 ≤ Dd w := fun k hk => by
    have hlt : c + n * k < orig.length := by
      rw [hL]
      have : n * (k + 1) ≤ n * L := Nat.mul_le_mul_left n hk
      rw [Nat.mul_comm L n]
      rw [Nat.mul_succ] at this
      omega
    rw [pickL_getD _ _ _ _ _ hk]
    exact R.rng _ hlt
  have e1 : (psOf [w] (dep0 c)).length = 1 := by simp [psOf]
  have hLn : L ≤ L * n := Nat.le_mul_of_pos_right L (by omega)
  refine ⟨by rw [pickL_length, e1, Nat.mul_one], by rw [pickL_length]; omega, fun hk i hi => ?_, fun hk i j hi hj => ?_⟩
  · rw [pickL_length] at hi
    have := at' i hi
    have := Dd_small (h8 (hB hk))
    omega
  · rw [e1] at hi ⊢
    have hi0 : i = 0 := by omega
    subst hi0
    rw [psOf_at (by simp), Nat.zero_add, Nat.one_mul, show [w].getD 0 0 = w from rfl]
    obtain ⟨h0, h1⟩ := at' j hj
    obtain ⟨a, b⟩ := scaled_range (T := Dd (dep0 c)) (Dd_pos hw) (Dd_nonneg _) h0 h1
    have := Dd_small (hB hk)
    exact ⟨a, by omega⟩
end Mine

/-! W1 -/
set_option linter.unusedVariables false
set_option maxRecDepth 100000
namespace Mine
open PySem PySem.W PyProof.Rows
open Sem (wp)

section
variable {M : Model} {A : Around} {s : Shared} {env : Env}

theorem wpD_callWith_builtin {pos : Pos} {id : String} {first : List Value} {args : List (Bool × Sem Value)} {Q : Value → Shared → Prop} (hp : args.any (·.1) = false)
    (h : wpD M A (evalArgs (.builtin id) true args []) (fun x s₁ => wpD M A (call (.builtin id) (first ++ x.pos) x.kw) Q s₁) s) : wpD M A (callWith pos (.builtin id) first args []) Q s := by
  unfold callWith
  refine wpD_bind (wpD_holding (wpD_mono h fun x s₁ h₁ => wpD_bind (wpD_standAt ?_)))
  simp only [hp, List.any_nil, Bool.or_false]
  refine wpD_bind (m := keeperOf (.builtin id)) (wpD_of_eq rfl ?_)
  exact wpD_bind (wpD_mono h₁ fun r s₂ hr => wpD_bind (wpD_holding (wpD_point (wpD_pure hr))))

theorem splicedD_nil {Q : List Value → Shared → Prop} (h : Q [] s) : wpD M A (spliced []) Q s := wpD_pure h
theorem splicedD_cons {x : Sem Value} {rest : List (Bool × Sem Value)} {Q : List Value → Shared → Prop} (h : wpD M A x (fun v s₁ => wpD M A (spliced rest) (fun vs s₂ => Q (v :: vs) s₂) s₁) s) : wpD M A (spliced ((false, x) :: rest)) Q s := by
  unfold spliced
  refine wpD_bind (wpD_mono h fun v s₁ h₁ => wpD_bind (m := pure [v]) (wpD_pure ?_))
  exact wpD_bind (wpD_holding (wpD_mono h₁ fun vs s₂ h₂ => wpD_pure h₂))
theorem evalArgsD_plain {f : Value} {x : Sem Value} {rest : List (Bool × Sem Value)} {Q : Args → Shared → Prop} (h : wpD M A (spliced ((false, x) :: rest)) (fun vs s' => Q ⟨vs, []⟩ s') s) : wpD M A (evalArgs f true ((false, x) :: rest) []) Q s := by
  unfold evalArgs
  show wpD M A (spliced ((false, x) :: rest) >>= _) Q s
  refine wpD_bind (wpD_mono h fun vs s' h' => ?_)
  refine wpD_holding ?_
  exact wpD_bind (wpD_pure (wpD_bind (wpD_pure (wpD_pure h'))))

theorem evalArgsD_one {f : Value} {e : Expr} {pos : Pos} {Q : Args → Shared → Prop} (hp : starEach [e] env = [(false, eval e env)])
    (h : wpD M A (eval e env) (fun v s' => Q ⟨[v], []⟩ s') s) : wpD M A (evalArgs f true (backTo pos (starEach [e] env)) []) Q s := by
  rw [hp]
  have : ∃ t, backTo pos [(false, eval e env)] = [(false, t)] ∧ ∀ Q', wpD M A (eval e env) Q' s → wpD M A t Q' s := by
    refine ⟨_, rfl, fun Q' h' => ?_⟩
    first
      | exact h'
      | exact wpD_bind (wpD_mono h' fun v s' x => wpD_bind (wpD_standAt (wpD_pure x)))
  obtain ⟨t, e1, ht⟩ := this
  rw [e1]
  exact evalArgsD_plain (splicedD_cons (ht _ (wpD_mono h fun v s' x => splicedD_nil x)))

theorem evalArgsD_two {f : Value} {e₁ e₂ : Expr} {pos : Pos} {Q : Args → Shared → Prop} (hp : starEach [e₁, e₂] env = [(false, eval e₁ env), (false, eval e₂ env)])
    (h : wpD M A (eval e₁ env) (fun v s' => wpD M A (eval e₂ env) (fun v' s'' => Q ⟨[v, v'], []⟩ s'') s') s) : wpD M A (evalArgs f true (backTo pos (starEach [e₁, e₂] env)) []) Q s := by
  rw [hp]
  have : ∃ t t', backTo pos [(false, eval e₁ env), (false, eval e₂ env)] = [(false, t), (false, t')] ∧ (∀ Q' s, wpD M A (eval e₁ env) Q' s → wpD M A t Q' s) ∧ (∀ Q' s, wpD M A (eval e₂ env) Q' s → wpD M A t' Q' s) := by
    refine ⟨_, _, rfl, fun Q' s h' => ?_, fun Q' s h' => ?_⟩
    all_goals first
      | exact h'
      | exact wpD_bind (wpD_mono h' fun v s' x => wpD_bind (wpD_standAt (wpD_pure x)))
  obtain ⟨t, t', e1, ht, ht'⟩ := this
  rw [e1]
  exact evalArgsD_plain (splicedD_cons (ht _ _ (wpD_mono h fun v s' x => splicedD_cons (ht' _ _ (wpD_mono x fun v' s'' y => splicedD_nil y)))))

/-- x.name(e) of a list -/
theorem wpD_method {x name : Str} {id : String} {e : Expr} {p apos pos : Pos} {Q : Value → Shared → Prop} (hpos : apos.endLine = pos.line) (slot : Slot "list" name id) (hty : typeOf (.builtin id) = pure (.type "method_descriptor")) (hp : starEach [e] env = [(false, eval e env)])
    (h : wpD M A (eval (.Name x p) env) (fun ov s₁ => ∃ la items, ov = .ref la ∧ s₁.heap.PlainList la items ∧ wpD M A (eval e env) (fun v s₂ => wpD M A (call (.builtin id) [ov, v]) Q s₂) s₁) s) :
    wpD M A (eval (.Call (.Attribute (.Name x p) name apos) [e] [] pos) env) Q s := by
  rw [arm_eval_Call]
  refine wpD_bind (m := eval (.Name x p) env) (wpD_mono h fun ov s₁ h₁ => wpD_bind (wpD_standAt ?_))
  obtain ⟨la, items, rfl, ⟨n, hl⟩, h₁⟩ := h₁
  have few : methodCallForm ([e].length + ([] : List Keyword).length) (backTo pos (starEach [e] env)) (backToKw pos (keywordEach [] env)) = true := by rw [hp]; rfl
  unfold methodCall
  rw [few]
  refine wpD_bind (wpD_holding (wpD_of (getMethod_builtin (v := .ref la) ⟨_, hl, rfl⟩ F.plainAttrs_list slot hty (fun a ea => by cases ea; exact ⟨_, hl, rfl⟩) ?_)))
  have hpp : (!true || apos.endLine == pos.line) = true := by rw [hpos]; simp
  unfold methodCallPos
  refine wpD_bind (wpD_if_true hpp (wpD_pure ?_))
  show wpD M A (callWith pos (.builtin id) [.ref la] (backTo pos (starEach [e] env)) []) Q s₁
  exact wpD_callWith_builtin (by rw [hp]; rfl) (evalArgsD_one hp h₁)

theorem wpD_ExprNone {e : Expr} {pos : Pos} {Q : Flow → Shared → Prop} (h : wpD M A (eval e env) (fun v s' => v = .none ∧ Q .next s') s) (hi : interactive env = false) (hs : swapsWith e none pos.line env = pure false := by rfl) : wpD M A (exec (.Expr e pos) env) Q s := by
  rw [exec_Expr env e pos hi hs]
  refine wpD_bind (wpD_standAt (wpD_bind (wpD_mono h fun v s' h' => ?_)))
  obtain ⟨rfl, h'⟩ := h'
  exact wpD_of_eq (dropValue_plain fun a q => nomatch q) h'
end

section
variable {prog : Program} {w : World} {A : Around} {E : Value → Shared → Prop} {s : Shared} {env : Env}

/-- list.pop(i) -/
theorem pop_plain {la : Addr} {vs : List Value} {i : Int} {t : Tok} {x : Value} {Q : Value → Shared → Prop} (hl : s.heap.PlainList la vs.toArray) (h0 : 0 ≤ i) (hi : i.toNat < vs.length) (hz : i < 2 ^ 62) (hsz : vs.length ≤ 1000) (hx : vs[i.toNat]? = some x)
    (h : ∀ h', h'.PlainList la (vs.eraseIdx i.toNat).toArray → Heap.SameBut la s.heap h' → Q x { s with heap := h' }) : wpAny (model prog w) A (call (.builtin "list.pop") [.ref la, .int i t]) Q E s := by
  obtain ⟨n, hl⟩ := hl
  refine wpAny_call_entry F.slot_list_pop ⟨_, hl, rfl⟩ F.entry_list_pop ?_ (F.args_list_pop_2 _ _)
  unfold Builtin.«list.pop»
  refine wpAny_bind (wpAny_of_eq (a := (.ref la, [.int i t])) rfl ?_)
  refine wpAny_bind (wpAny_of_eq (a := i) rfl ?_)
  have hfit : Builtin.List.listFitsIndex i = true := fitsIndex_of h0 (by omega)
  refine wpAny_if_false (by rw [hfit]; rfl) ?_
  refine wpAny_bind (wpAny_listItems hl ?_)
  refine wpAny_if_false (by cases vs with | nil => simp at hi | cons a r => rfl) ?_
  have e1 : (seqIndex? i vs.toArray.size).bind (fun k => vs.toArray[k]?.map (k, ·)) = some (i.toNat, x) := by
    have : seqIndex? i vs.toArray.size = some i.toNat := by
      unfold seqIndex?
      have hlt : i < (vs.length : Int) := by omega
      simp [h0, hlt, Int.not_lt.mpr h0]
    rw [this]
    simp [hx]
  rw [e1]
  refine wpAny_bind (m := updateSeq la (·.eraseIdxIfInBounds i.toNat)) ?_
  obtain ⟨n', hl'⟩ := plain_update (f := (·.eraseIdxIfInBounds i.toNat)) hl
  refine wpAny_updateSeq hl rfl (wpAny_pure ⟨_, rfl, h _ ⟨n', ?_⟩ (Heap.SameBut.update ..)⟩) ?_ ?_
  · have := hl'
    simpa [List.eraseIdx_toArray] using this
  · have : sizeLine ≥ 1000 := by decide
    simpa using Nat.le_trans hsz this
  · have h1 : sizeLine ≥ 1000 := by decide
    have h2 : (vs.toArray.eraseIdxIfInBounds i.toNat).size ≤ vs.length := by
      rw [List.eraseIdxIfInBounds_toArray, List.size_toArray]
      exact List.length_eraseIdx_le ..
    omega

theorem argBest_max (val : Nat → Int) : ∀ n, argBest (fun i j => decide (val i > val j)) n ≤ n ∧ ∀ i, i ≤ n → val i ≤ val (argBest (fun i j => decide (val i > val j)) n)
  | 0 => ⟨Nat.le_refl _, fun i hi => by
      have : i = 0 := by omega
      subst this; exact Int.le_refl _⟩
  | n + 1 => by
    obtain ⟨h1, h2⟩ := argBest_max val n
    unfold argBest
    split
    · rename_i hb
      have hb : val (n + 1) > val (argBest (fun i j => decide (val i > val j)) n) := by simpa using hb
      refine ⟨Nat.le_refl _, fun i hi => ?_⟩
      by_cases e : i = n + 1
      · rw [e]; exact Int.le_refl _
      · have := h2 i (by omega); omega
    · rename_i hb
      have hb : ¬ val (n + 1) > val (argBest (fun i j => decide (val i > val j)) n) := by simpa using hb
      refine ⟨by omega, fun i hi => ?_⟩
      by_cases e : i = n + 1
      · rw [e]; omega
      · exact h2 i (by omega)

/-- max of a list of ints -/
theorem max_ints {a : Addr} {xs : List Int} {Q : Value → Shared → Prop} (hh : A.handled = none) (r : RowAt .H s.heap a xs) (hn : 0 < xs.length)
    (h : ∀ s' t k, Rel noX noV s s' → k < xs.length → (∀ i, i < xs.length → xs.getD i 0 ≤ xs.getD k 0) → Q (.int (xs.getD k 0) t) s') : wpAny (model prog w) A (call (.builtin "max") [.ref a]) Q E s := by
  refine wpAny_grow (call_max_walk (row_iter r fun vsI St st hT hW => ?_))
  have lt : a < s.heap.objs.size := r.lt
  refine ⟨s.heap.objs.size, [s.heap.objs.size, a], [s.heap.objs.size], xs.length, IntP xs, St, _, rfl, hW A.in1 hh, st, fun b hb => ?_, hn, CmpOf.ints_gt (fun i => xs.getD i 0) fun i v hp => hp, fun v h' tk hP hk => ?_⟩
  · show b < (s.heap.push _).objs.size
    rw [Heap.size_push]
    simp only [List.mem_cons, List.not_mem_nil, or_false] at hb
    rcases hb with rfl | rfl
    · exact Nat.lt_succ_self _
    · exact Nat.lt_succ_of_lt lt
  · intro mz
    obtain ⟨t, rfl⟩ := hP
    obtain ⟨m1, m2⟩ := argBest_max (fun i => xs.getD i 0) (xs.length - 1)
    refine h _ t _ (Rel.only (tk := tk) (fun b o e _ => hk b o (by simpa using Nat.ne_of_lt (Heap.lt_size e)) (Heap.get?_push_of_some _ e)) mz.1) (by omega) fun i hi => m2 i (by omega)

/-- list(range(a, b)) -/
theorem list_of_range {r : Addr} {a b : Int} {n : Nat} {Q : Value → Shared → Prop} (hh : A.handled = none) (hr : ∃ t u v, IsRange s.heap r a b 1 t u v) (hn : b = a + n) (ha : -(2 ^ 20) ≤ a) (ha' : a < 2 ^ 20) (hn' : n ≤ 1000)
    (h : ∀ D s', Rel noX noV s s' → s.heap.objs.size ≤ D → RowAt .H s'.heap D ((List.range n).map fun (i : Nat) => a + (i : Int)) → Q (.ref D) s') : wpAny (model prog w) A (call (.type "list") [.ref r]) Q E s := by
  obtain ⟨t, u, v, hr⟩ := hr
  have e : Builtin.Range.rangeSize a b 1 = (n : Int) := by
    rw [rangeSize_one, hn]
    split <;> omega
  refine wpAny_grow (call_list_range (n := n) hh hr (small_one (by omega) (by omega) (by omega) (by omega)) e (by omega) fun h' tk acc' c' hk hS hacc => ?_)
  intro mz
  obtain ⟨z1, z2⟩ := hacc
  refine h _ _ (Rel.only (tk := tk) (fun b o e _ => hk b o e) mz.1) (Nat.le_refl _) ⟨acc'.toList, ⟨c', hS⟩, intsAre_of (by simp [z1]) fun j hj => ?_⟩
  have hj0 : j < n := by simpa using hj
  have hj' : j < acc'.size := by rw [z1]; exact hj0
  obtain ⟨t, e⟩ := z2 j acc'[j] (by simp [hj'])
  refine ⟨t, ?_⟩
  simp [List.getD, hj', hj0, e]
end
end Mine

/-! W2 -/
set_option linter.unusedVariables false
set_option maxRecDepth 100000
namespace Mine
open PySem PySem.W PyProof.Rows
open Sem (wp)

section
variable {prog : Program} {w : World} {A : Around} {s : Shared} {env : Env} {sc : Scope} {m : Str → Option Value}

/-- over a range: everything that is written lies in [s₁.size, hi) -/
theorem wpD_LC_range {elt iter : Expr} {x : Str} {px : Pos} {scope : Scope} {pos : Pos} {Q : Value → Shared → Prop} (ok : ScOk sc scope) (hh : A.handled = none)
    (h : wpD (model prog w) A (eval iter env) (fun xv s₁ => ∃ (r : Addr) (a b : Int) (n : Nat), xv = .ref r ∧ (∃ t u v, IsRange s₁.heap r a b 1 t u v) ∧ b = a + n ∧ (-(2 ^ 20) ≤ a ∧ a < 2 ^ 20) ∧ n ≤ 1000 ∧ Frm sc env s₁.heap m ∧
      ∀ hi, s₁.heap.objs.size ≤ hi → ∃ J : Nat → List Value → Shared → Prop,
        (∀ i ys s s', J i ys s → Rel (fun b _ => s₁.heap.objs.size ≤ b ∧ b < hi) noV s s' → J i ys s') ∧
        (∀ s, Rel noX noV s₁ s → J 0 [] s) ∧
        (∀ i ys t cenv s, i < n → ys.length = i → J i ys s → hi ≤ s.heap.objs.size → Rel noX noV s₁ s → Frm (relabelS scope sc) cenv s.heap (upd (freeMap scope m) x (.int (a + (i : Int)) t)) →
          wpD (model prog w) A (eval elt cenv) (fun y s' => Rel noX noV s s' ∧ J (i + 1) (ys ++ [y]) s') s) ∧
        (∀ ys s D, ys.length = n → J n ys s → s₁.heap.objs.size ≤ D → D < hi → Rel noX noV s₁ s → s.heap.PlainList D ys.toArray → Q (.ref D) s)) s)
    (hx : (relabelS scope sc).names.lookup x = some .local := by rfl) (hs : ∀ y, foldedSetIterable iter env y = pure y := by intro _; rfl) :
    wpD (model prog w) A (eval (.ListComp elt [⟨.Name x px, iter, [], 0⟩] scope pos) env) Q s := by
  refine wpD_ListComp (m := m) ok (wpD_mono h fun xv s₁ h₁ => ?_) hs
  obtain ⟨r, a, b, n, rfl, ⟨tr, ur, vr, hr⟩, hb, ⟨ha1, ha2⟩, hn, F, h₁⟩ := h₁
  refine wpD_of (iter_of_range (n := n) hr hb (by omega) (by omega) (by omega) fun s₂ r₂ hg₂ hit => ?_)
  have hz₂ : s₁.heap.objs.size < s₂.heap.objs.size := Heap.lt_size hit
  refine ⟨F.keep r₂, fun D cenv s₄ N => ?_⟩
  obtain ⟨J, stab, init, step, fin⟩ := h₁ s₄.heap.objs.size (Nat.le_trans r₂.mono.1 N.rel.mono.1)
  have hD1 : s₁.heap.objs.size ≤ D := Nat.le_trans r₂.mono.1 N.loD
  have hDI : D ≠ s₁.heap.objs.size := Nat.ne_of_gt (Nat.lt_of_lt_of_le hz₂ N.loD)
  have hCI : cenv.locals ≠ s₁.heap.objs.size := Nat.ne_of_gt (Nat.lt_of_lt_of_le hz₂ N.loC)
  have hIs : s₁.heap.objs.size < s₄.heap.objs.size := Nat.lt_of_lt_of_le hz₂ N.rel.mono.1
  have hsl : n ≤ sizeLine := Nat.le_trans hn (by decide)
  refine lc_loop (x := x) (n := n) (X := fun b _ => b = s₁.heap.objs.size) (V := noV) (fun i ys s => J i ys s ∧ IsRangeIter s.heap s₁.heap.objs.size (a + (i : Int)) ((n : Int) - i) 1 ∧ Rel noX noV s₁ s ∧ s₄.heap.objs.size ≤ s.heap.objs.size) hx N.frm N.acc
    (fun o => hDI) (fun b o q hb ho => ?_) hsl ⟨init _ (r₂.trans N.rel), ?_, r₂.trans N.rel, Nat.le_refl _⟩ (fun Q' hQ' => ?_) (fun i ys s hi hy hJ => ?_) (fun ys s hy hJ hpl => ?_)
  · subst q
    rcases hb with e | ⟨y, e⟩
    · exact hCI e.symm
    · obtain ⟨o', ho', _⟩ := F.cell y _ (N.cells y _ e)
      exact Nat.lt_irrefl _ (Heap.lt_size ho')
  · have : IsRangeIter s₄.heap s₁.heap.objs.size a (n : Int) 1 := N.rel.keeps _ _ hit
    simpa using this
  · have hI₄ : IsRangeIter s₄.heap s₁.heap.objs.size a (n : Int) 1 := N.rel.keeps _ _ hit
    have hT : s₄.TypeIs (.ref s₁.heap.objs.size) "range_iterator" := ⟨_, hI₄, rfl⟩
    refine wpD_of (wpAny_pyIter_slot hT _root_.PySem.F.slot_range_iterator_iter (wpAny_call_entry _root_.PySem.F.slot_range_iterator_iter hT _root_.PySem.F.entry_range_iterator_iter ?_ (_root_.PySem.F.args_range_iterator_iter_1 _)))
    show wpAny _ _ (ret (.ref s₁.heap.objs.size)) _ _ _
    exact wpAny_pure ⟨_, rfl, "range_iterator", _, hT, _root_.PySem.F.slot_range_iterator_next.lookup, hQ'⟩
  · obtain ⟨hJ, hit, r, hz⟩ := hJ
    refine wpD_of (wpAny_pyNext_range_item hit (by omega) fun h' hit' hs' => ?_)
    have rI : Rel (fun b _ => b = s₁.heap.objs.size) noV s { s with heap := h', toks := s.toks + 1 } := Rel.only (tk := s.toks + 1) (fun b o e q => hs'.extBut b o q e) (Nat.le_of_eq hs'.1.symm)
    refine ⟨_, rfl, rI, fun s₂ rC F₂ => ?_⟩
    have w1 : Rel (fun b _ => s₁.heap.objs.size ≤ b ∧ b < s₄.heap.objs.size) noV s { s with heap := h', toks := s.toks + 1 } := rI.weak (fun b _ q => by subst q; exact ⟨Nat.le_refl _, hIs⟩) fun _ q => q
    have w2 : Rel (fun b _ => s₁.heap.objs.size ≤ b ∧ b < s₄.heap.objs.size) noV { s with heap := h', toks := s.toks + 1 } s₂ := rC.weak (fun b _ q => q ▸ ⟨Nat.le_trans r₂.mono.1 N.loC, N.hiC⟩) fun _ q => q
    have rr : Rel noX noV s₁ s₂ := (w1.trans w2).fresh r (fun b o q => .inl (get_lt q.1)) fun _ q => q.elim
    refine wpD_mono (step i ys _ cenv s₂ hi hy (stab _ _ _ _ hJ (w1.trans w2)) (Nat.le_trans hz (rI.mono.trans rC.mono).1) rr F₂) fun y s₃ h₃ => ⟨h₃.1, fun s₄' r₄' => ?_⟩
    have w3 : Rel (fun b _ => s₁.heap.objs.size ≤ b ∧ b < s₄.heap.objs.size) noV s₃ s₄' := r₄'.weak (fun b _ q => q ▸ ⟨hD1, N.hiD⟩) fun _ q => q
    refine ⟨stab _ _ _ _ h₃.2 w3, ?_, w3.fresh (rr.trans h₃.1) (fun b o q => .inl (get_lt q.1)) fun _ q => q.elim, Nat.le_trans hz (((rI.mono.trans rC.mono).trans h₃.1.mono).trans r₄'.mono).1⟩
    have e1 : a + (i : Int) + 1 = a + ((i + 1 : Nat) : Int) := by omega
    have e2 : (n : Int) - i - 1 = (n : Int) - ((i + 1 : Nat) : Int) := by omega
    rw [e1, e2] at hit'
    exact r₄'.heap _ _ (h₃.1.keeps _ _ (rC.heap _ _ hit' hCI.symm)) hDI.symm
  · obtain ⟨hJ, hit, r, hz⟩ := hJ
    refine wpD_grow (wpD_of (wpAny_pyNext_range_end hh hit (by omega) fun h' he' => ?_))
    intro mz
    have rI : Rel (fun b _ => b = s₁.heap.objs.size) noV s { s with heap := h' } := Rel.only (tk := s.toks) (fun b o e q => he' b o q e) mz.1
    refine ⟨rfl, rI, fun m' F' hpl' => ?_⟩
    obtain ⟨ml, hns, _⟩ := F'.ns
    refine ⟨ml, hns, fun s'' rC => ?_⟩
    have w1 : Rel (fun b _ => s₁.heap.objs.size ≤ b ∧ b < s₄.heap.objs.size) noV s { s with heap := h' } := rI.weak (fun b _ q => by subst q; exact ⟨Nat.le_refl _, hIs⟩) fun _ q => q
    have w2 : Rel (fun b _ => s₁.heap.objs.size ≤ b ∧ b < s₄.heap.objs.size) noV { s with heap := h' } s'' := rC.weak (fun b _ q => q ▸ ⟨Nat.le_trans r₂.mono.1 N.loC, N.hiC⟩) fun _ q => q
    exact fin ys s'' D hy (stab _ _ _ _ hJ (w1.trans w2)) hD1 N.hiD ((w1.trans w2).fresh r (fun b o q => .inl (get_lt q.1)) fun _ q => q.elim)
      (hpl'.at fun o e => rC.heap D o e N.DC)
end
end Mine

/-! W3 -/
set_option linter.unusedVariables false
set_option maxRecDepth 100000
namespace Mine
open PySem PySem.W PyProof.Rows
open Sem (wp)

section
variable {prog : Program} {w : World} {A : Around} {E : Value → Shared → Prop} {s : Shared} {env : Env} {sc : Scope} {m : Str → Option Value}

/-- a comprehension over a range whose items are ints -/
theorem lc_ints_range {elt iter : Expr} {x : Str} {px : Pos} {scope : Scope} {pos : Pos} {Q : Value → Shared → Prop} (ok : ScOk sc scope) (hh : A.handled = none) (f : Nat → Int)
    (h : wpD (model prog w) A (eval iter env) (fun xv s₁ => ∃ (r : Addr) (a b : Int) (n : Nat), xv = .ref r ∧ (∃ t u v, IsRange s₁.heap r a b 1 t u v) ∧ b = a + n ∧ (-(2 ^ 20) ≤ a ∧ a < 2 ^ 20) ∧ n ≤ 1000 ∧ Frm sc env s₁.heap m ∧
      (∀ i t cenv s, i < n → Rel noX noV s₁ s → Frm (relabelS scope sc) cenv s.heap (upd (freeMap scope m) x (.int (a + (i : Int)) t)) → wpD (model prog w) A (eval elt cenv) (fun y s' => Rel noX noV s s' ∧ ∃ t, y = .int (f i) t) s) ∧
      (∀ D s', Rel noX noV s₁ s' → RowAt .H s'.heap D ((List.range n).map f) → Q (.ref D) s')) s)
    (hx : (relabelS scope sc).names.lookup x = some .local := by rfl) (hs : ∀ y, foldedSetIterable iter env y = pure y := by intro _; rfl) :
    wpD (model prog w) A (eval (.ListComp elt [⟨.Name x px, iter, [], 0⟩] scope pos) env) Q s := by
  refine wpD_LC_range (m := m) ok hh (wpD_mono h fun xv s₁ h₁ => ?_) hx hs
  obtain ⟨r, a, b, n, e1, e2, e3, e4, e5, F, helt, hQ⟩ := h₁
  refine ⟨r, a, b, n, e1, e2, e3, e4, e5, F, fun hi hhi => ⟨fun i ys _ => ys.length = i ∧ ∀ j, j < i → ∃ t, ys.getD j .none = .int (f j) t, fun _ _ _ _ h _ => h, fun _ _ => ⟨rfl, fun j hj => absurd hj (Nat.not_lt_zero _)⟩,
    fun i ys t cenv s hi' hy hJ hz r F' => ?_, fun ys s D hy hJ h1 h2 r hpl => ?_⟩⟩
  · refine wpD_mono (helt i t cenv s hi' r F') fun y s' h' => ⟨h'.1, by rw [List.length_append, hJ.1]; rfl, fun j hj => ?_⟩
    obtain ⟨t', ht⟩ := h'.2
    by_cases hj' : j < i
    · obtain ⟨t₂, e⟩ := hJ.2 j hj'
      refine ⟨t₂, ?_⟩
      rw [← e]
      simp [List.getD, List.getElem?_append_left (show j < ys.length by omega)]
    · have : j = i := by omega
      subst this
      refine ⟨t', ?_⟩
      rw [← ht]
      simp [List.getD, List.getElem?_append_right (show ys.length ≤ j by omega), hJ.1]
  · refine hQ D s r ⟨ys, hpl, intsAre_of (by rw [hy]; simp) fun j hj => ?_⟩
    have hj' : j < n := by simpa using hj
    obtain ⟨t, e⟩ := hJ.2 j hj'
    refine ⟨t, ?_⟩
    rw [e]
    simp [List.getD, hj']

/-- a slice without a step, of any base -/
theorem wpAny_slice {value : Expr} {lower upper : Option Expr} {p pos : Pos} {T id : String} {Q : Value → Shared → Prop}
    (hl : typeLookup (.type T) "__getitem__" = pure (some (.builtin id)))
    (h : wpAny (model prog w) A (eval value env) (fun o s₁ => wpAny (model prog w) A (eval (.Slice lower upper none p) env) (fun i s₂ => s₂.TypeIs o T ∧ wpAny (model prog w) A (getItem o i) Q E s₂) E s₁) E s) :
    wpAny (model prog w) A (eval (.Subscript value (.Slice lower upper none p) pos) env) Q E s := by
  rw [eval_Subscript]
  refine wpAny_bind (wpAny_mono h (fun o s₁ h₁ => wpAny_bind (wpAny_holding (wpAny_mono h₁ (fun i s₂ h₂ => wpAny_bind (wpAny_standAt ?_)) fun _ _ x => x)))
    fun _ _ x => x)
  have fin : wpAny (model prog w) A (operate [i, o] (getItem o i)) (fun r s₃ => wpAny (model prog w) A (letTemporaryGo value o r >>= fun _ => pure r) Q E s₃) E s₂ :=
    wpAny_operating (wpAny_mono h₂.2 (fun r s₃ h₃ => wpAny_bind (wpAny_letTemporaryGo (wpAny_pure h₃))) fun _ _ x => x)
  refine wpAny_bind ?_
  rw [getitemInPython_of_ne h₂.1.not_modules]
  refine wpAny_bind (wpAny_specialOf h₂.1 hl ?_)
  first
    | exact wpAny_pure (wpAny_bind fin)
    | exact wpAny_bind (wpAny_pure (wpAny_bind fin))
    | exact wpAny_bind fin

theorem slice_of_list {value : Expr} {lower upper : Option Expr} {p pos : Pos} {la : Addr} {vs : List Value} {lo hi : Option Int} {Q : Value → Shared → Prop}
    (hv : wpAny (model prog w) A (eval value env) (fun o s₁ => o = .ref la ∧ s₁.heap.IsList la vs.toArray ∧ wpAny (model prog w) A (evalPart lower env) (fun l s₂ => wpAny (model prog w) A (evalPart upper env) (fun u s₃ => IsPart l lo ∧ IsPart u hi ∧ s₃.heap.IsList la vs.toArray ∧ vs.length ≤ 1000 ∧
      ∀ D s', Rel noX noV s₃ s' → s'.gens = s₃.gens → s'.heap.PlainList D (slicePick vs.toArray lo hi none) → s₃.heap.objs.size ≤ D → Q (.ref D) s') E s₂) E s₁) E s) :
    wpAny (model prog w) A (eval (.Subscript value (.Slice lower upper none p) pos) env) Q E s := by
  refine wpAny_slice F.slot_list_getitem.lookup (wpAny_mono hv (fun o s₁ h₁ => ?_) fun _ _ x => x)
  obtain ⟨rfl, hl, h₁⟩ := h₁
  refine wpAny_Slice (wpAny_mono h₁ (fun l s₂ h₂ => ?_) fun _ _ x => x)
  refine wpAny_mono h₂ (fun u s₃ h₃ => ?_) fun _ _ x => x
  obtain ⟨p1, p2, hl₃, hz, hq⟩ := h₃
  refine wpAny_pure ?_
  have hsl : 1000 ≤ sizeLine := by decide
  have hl₄ : (s₃.heap.push { cls := .type "slice", data := .fields #[l, u, .none] }).IsList la vs.toArray := hl₃.at fun o e => Heap.get?_push_of_some _ e
  refine ⟨hl₄.typeIs, wpAny_getItem_list_slice (s := { s₃ with heap := s₃.heap.push { cls := .type "slice", data := .fields #[l, u, .none] } }) (lo := lo) (hi := hi) (st := none) hl₄ ⟨_, Heap.get?_push_size _ rfl, rfl, rfl⟩ p1 p2 .none (by simp) ?_ (by simp; exact Nat.le_trans hz hsl)⟩
  refine hq _ _ ((Rel.push (tk := s₃.toks)).trans (Rel.push (tk := s₃.toks))) rfl ⟨0, Heap.get?_push_size _ rfl⟩ ?_
  show s₃.heap.objs.size ≤ (s₃.heap.push _).objs.size
  rw [Heap.size_push]; exact Nat.le_succ _
end
end Mine

/-! W4 -/
set_option linter.unusedVariables false
set_option maxRecDepth 100000
namespace Mine
open PySem PySem.W PyProof.Rows
open Sem (wp)

theorem ia_append : ∀ {vs ws : List Value} {xs ys : List Int}, IntsAre vs xs → IntsAre ws ys → IntsAre (vs ++ ws) (xs ++ ys)
  | _, _, _, _, .nil, h => h
  | _, _, _, _, .cons n t r, h => .cons n t (ia_append r h)
theorem ia_take : ∀ {vs : List Value} {xs : List Int} (n : Nat), IntsAre vs xs → IntsAre (vs.take n) (xs.take n)
  | _, _, 0, _ => by simp; exact .nil
  | _, _, n + 1, .nil => by simp; exact .nil
  | _, _, n + 1, .cons x t r => .cons x t (ia_take n r)
theorem ia_drop : ∀ {vs : List Value} {xs : List Int} (n : Nat), IntsAre vs xs → IntsAre (vs.drop n) (xs.drop n)
  | _, _, 0, h => h
  | _, _, n + 1, .nil => by simp; exact .nil
  | _, _, n + 1, .cons x t r => ia_drop n r
theorem ia_erase : ∀ {vs : List Value} {xs : List Int} (n : Nat), IntsAre vs xs → IntsAre (vs.eraseIdx n) (xs.eraseIdx n)
  | _, _, n, .nil => by simp; exact .nil
  | _, _, 0, .cons x t r => r
  | _, _, n + 1, .cons x t r => .cons x t (ia_erase n r)
theorem ia_len {vs : List Value} {xs : List Int} (h : IntsAre vs xs) : vs.length = xs.length := (intsAre_at h).1

def cellsOf (xs : List Int) : List Int := xs.take 24 ++ ([0, 0, 0] : List Int).drop (min 3 xs.length)
theorem cellsOf_len (xs : List Int) : 3 ≤ (cellsOf xs).length ∧ (cellsOf xs).length ≤ 27 := by
  unfold cellsOf
  rw [List.length_append, List.length_take, List.length_drop]
  simp only [List.length_cons, List.length_nil]
  omega

section
variable {prog : Program} {w : World} {A : Around} {E : Value → Shared → Prop} {s : Shared} {d u : Nat} {mg mb : Str → Option Value} {hB : Heap} {aA aR c P : Addr} {cA : Value} {env : Env} {m : Str → Option Value}

/-- what the law's frame carries -/
structure LF (hB : Heap) (c P : Addr) (s : Shared) (env : Env) (m : Str → Option Value) : Prop where
  F : Frm lawSc env s.heap m
  g : GS hB c P s.heap
  own : ∀ b, Own env b → hB.objs.size ≤ b

/-- what a plain statement of the law writes -/
abbrev XL (P : Addr) (env : Env) : Addr → Obj → Prop := fun b o => b = P ∨ (Own env b ∧ Fk o)

theorem LF.base {hB : Heap} {c P : Addr} (l : LF hB c P s env m) : hB.objs.size ≤ s.heap.objs.size := by
  obtain ⟨o, ho, _⟩ := l.F.own_at (.inl rfl)
  exact Nat.le_trans (l.own _ (.inl rfl)) (Nat.le_of_lt (Heap.lt_size ho))
theorem LF.keep {hB : Heap} {c P : Addr} (T : Txt mg mb hB aA aR c P cA) (l : LF hB c P s env m) {s' : Shared} (r : Rel noX noV s s') : LF hB c P s' env m := ⟨l.F.keep r, l.g.rel T r fun _ _ q => q.elim, l.own⟩
theorem LF.dk {hB : Heap} {c P : Addr} (l : LF hB c P s env m) {s' : Shared} (r : Rel (XL P env) noV s s') : ∀ b o, s.heap.get? b = some o → Dk o → s'.heap.get? b = some o := fun b o e hd => r.heap b o e fun q => by
  rcases q with q | q
  · subst q; exact l.g.notDk e hd
  · exact dk_fk hd q.2
theorem LF.ownP {hB : Heap} {c P : Addr} (T : Txt mg mb hB aA aR c P cA) (l : LF hB c P s env m) : ∀ b, Own env b → b ≠ P := fun b hb q => by
  have := l.own b hb; rw [q] at this; exact Nat.lt_irrefl _ (Nat.lt_of_lt_of_le T.cP.2 this)
theorem LF.store_local {hB : Heap} {c P : Addr} (T : Txt mg mb hB aA aR c P cA) (l : LF hB c P s env m) {x : Str} {v : Value} {Q : Unit → Shared → Prop} (hk : lawSc.names.lookup x = some .local)
    (h : ∀ s', Rel (XL P env) noV s s' → LF hB c P s' env (upd m x v) → Q () s') : wpAny (model prog w) A (storeName env x v) Q E s := by
  refine Mine.store_local (V := noV) l.F (fun s' r F' => ?_) hk
  have r' := r.own l.F fun b o q => Or.inl q
  exact h s' (r'.weak (fun b o q => .inr q) fun _ q => q) ⟨F', l.g.rel T r' fun b o q => l.own b q.1, l.own⟩
theorem LF.store_cell {hB : Heap} {c P : Addr} (T : Txt mg mb hB aA aR c P cA) (l : LF hB c P s env m) {x : Str} {v : Value} {Q : Unit → Shared → Prop} (hk : lawSc.names.lookup x = some .cell)
    (h : ∀ s', Rel (XL P env) noV s s' → LF hB c P s' env (upd m x v) → Q () s') : wpAny (model prog w) A (storeName env x v) Q E s := by
  refine Mine.store_cell (V := noV) l.F (fun s' r F' => ?_) hk
  have r' := r.own l.F fun b o q => Or.inr ⟨x, q⟩
  exact h s' (r'.weak (fun b o q => .inr q) fun _ q => q) ⟨F', l.g.rel T r' fun b o q => l.own b q.1, l.own⟩
/-- values made on the way -/
theorem LF.step {hB : Heap} {c P : Addr} (T : Txt mg mb hB aA aR c P cA) (l : LF hB c P s env m) {s' : Shared} (r : Rel (fun b _ => b = P) noV s s') (g : GS hB c P s'.heap) : LF hB c P s' env m :=
  ⟨l.F.rel r fun b o q hb _ => l.ownP T b hb q, g, l.own⟩

abbrev lawSt (i : Nat) : Stmt := lawBody.getD i (.Pass default)

/-- cells = script[:24] + [0, 0, 0][len(script[:3]):] -/
theorem law_s0 {ax : Addr} {vs : List Value} {xs : List Int} {Q : Flow → Shared → Prop} (T : Txt mg mb hB aA aR c P cA) (l : LF hB c P s env m) (hm : m (Str.ofString "script") = some (.ref ax)) (hl : s.heap.IsList ax vs.toArray) (hv : IntsAre vs xs) (hz : xs.length ≤ 63)
    (hQ : ∀ D s', Rel (XL P env) noV s s' → LF hB c P s' env (upd m (Str.ofString "cells") (.ref D)) → RowAt .H s'.heap D (cellsOf xs) → Q .next s') : wpD (model prog w) A (exec (lawSt 0) env) Q s := by
  have hlen := ia_len hv
  refine wpD_Assign (wpD_of (wpAny_BinOp ?_))
  refine slice_of_list (la := ax) (vs := vs) (lo := none) (hi := some 24) (ev_local l.F hm ⟨rfl, hl, wpAny_pure ?_⟩ rfl)
  rw [evalPart_some]
  refine wpAny_Constant_int ⟨.none, .int _ _, hl, by omega, fun D₁ s₁ r₁ hg₁ hD₁ hlo₁ => ?_⟩
  have r₁' : Rel noX noV s s₁ := (Rel.tok (tk := s.toks + 1)).trans r₁
  have l₁ := l.keep T r₁'
  refine slice_of_list (la := s₁.heap.objs.size) (vs := [.int 0 s₁.toks, .int 0 (s₁.toks + 1), .int 0 (s₁.toks + 1 + 1)]) (lo := some ((min 3 xs.length : Nat) : Int)) (hi := none) ?_
  refine wpAny_List (wpAny_items_cons (wpAny_Constant_int (wpAny_items_cons (wpAny_Constant_int (wpAny_items_cons (wpAny_Constant_int (Calls.spliced_nil ⟨by show 3 ≤ sizeLine; decide, rfl, ⟨_, Heap.get?_push_size _ rfl, rfl, 0, rfl⟩, ?_⟩)))))))
  rw [evalPart_some]
  generalize hs₂ : ({ s₁ with heap := _, toks := _ } : Shared) = s₂
  have r₂ : Rel noX noV s₁ s₂ := by rw [← hs₂]; exact Rel.push (tk := s₁.toks + 1 + 1 + 1)
  have hZ : s₂.heap.IsList s₁.heap.objs.size ([.int 0 s₁.toks, .int 0 (s₁.toks + 1), .int 0 (s₁.toks + 1 + 1)] : List Value).toArray := by rw [← hs₂]; exact ⟨_, Heap.get?_push_size _ rfl, rfl, 0, rfl⟩
  have l₂ := l₁.keep T r₂
  have hl₂ : s₂.heap.IsList ax vs.toArray := hl.at fun o e => (r₁'.trans r₂).keeps _ o e
  refine call_builtin1 l₂.F (l₂.g.glb T) (T.none _ (by simp)) (id := "len") (by with_unfolding_all rfl) (by decide) rfl rfl ?_ (by decide)
  refine slice_of_list (la := ax) (vs := vs) (lo := none) (hi := some 3) (ev_local l₂.F hm ⟨rfl, hl₂, wpAny_pure ?_⟩ rfl)
  rw [evalPart_some]
  refine wpAny_Constant_int ⟨.none, .int _ _, hl₂, by omega, fun D₃ s₃ r₃ hg₃ hD₃ hlo₃ => ?_⟩
  have r₃' : Rel noX noV s₂ s₃ := (Rel.tok (tk := s₂.toks + 1)).trans r₃
  have e3 : slicePick vs.toArray none (some 3) none = (vs.take 3).toArray := slicePick_upto' vs.toArray 3
  rw [e3] at hD₃
  refine Calls.call_len_list hD₃.isList (by simp; omega) ?_
  have eL : ((vs.take 3).toArray.size : Int) = ((min 3 xs.length : Nat) : Int) := by simp [hlen]
  rw [eL]
  generalize hs₄ : ({ s₃ with toks := _ } : Shared) = s₄
  have r₄ : Rel noX noV s₃ s₄ := by rw [← hs₄]; exact Rel.tok
  refine wpAny_pure ⟨.int _ _, .none, hZ.at fun o e => (r₃'.trans r₄).keeps _ o e, by simp, fun D₅ s₅ r₅ hg₅ hD₅ hlo₅ => ?_⟩
  have e5 : slicePick ([.int 0 s₁.toks, .int 0 (s₁.toks + 1), .int 0 (s₁.toks + 1 + 1)] : List Value).toArray (some ((min 3 xs.length : Nat) : Int)) none none = (([.int 0 s₁.toks, .int 0 (s₁.toks + 1), .int 0 (s₁.toks + 1 + 1)] : List Value).drop (min 3 xs.length)).toArray := slicePick_from' _ _
  rw [e5] at hD₅
  have e1 : slicePick vs.toArray none (some 24) none = (vs.take 24).toArray := slicePick_upto' vs.toArray 24
  rw [e1] at hD₁
  have r₁₅ : Rel noX noV s₁ s₅ := ((r₂.trans r₃').trans r₄).trans r₅
  obtain ⟨n₁, hd₁⟩ := hD₁.at fun o e => r₁₅.keeps _ o e
  obtain ⟨n₅, hd₅⟩ := hD₅
  have hsl : sizeLine ≥ 1000 := by decide
  refine PySem.P.add_list hd₁ hd₅ ?_ (by simp; omega)
  generalize hs₆ : ({ s₅ with heap := _ } : Shared) = s₆
  have r₆ : Rel noX noV s₅ s₆ := by rw [← hs₆]; exact Rel.push (tk := s₅.toks)
  have rAll : Rel noX noV s s₆ := (r₁'.trans r₁₅).trans r₆
  have l₆ := l.keep T rAll
  refine wpD_of (l₆.store_cell T (by rfl) fun s₇ r₇ l₇ => ?_)
  refine hQ _ s₇ (rAll.up.trans r₇) l₇ ?_
  have row : RowAt .H s₆.heap s₅.heap.objs.size (cellsOf xs) := by
    refine ⟨vs.take 24 ++ ([.int 0 s₁.toks, .int 0 (s₁.toks + 1), .int 0 (s₁.toks + 1 + 1)] : List Value).drop (min 3 xs.length), ⟨0, ?_⟩, ia_append (ia_take 24 hv) (ia_drop _ (.cons _ _ (.cons _ _ (.cons _ _ .nil))))⟩
    rw [← hs₆]
    refine (Heap.get?_push_size _ rfl).trans ?_
    simp
  exact row.at fun o e hd => l₆.dk r₇ _ o e hd
end
end Mine

/-! W5 -/
set_option linter.unusedVariables false
set_option maxRecDepth 100000
namespace Mine
open PySem PySem.W PyProof.Rows
open Sem (wp)

section
variable {prog : Program} {w : World} {A : Around} {E : Value → Shared → Prop} {s : Shared} {d u : Nat} {mg mb : Str → Option Value} {hB : Heap} {aA aR c P : Addr} {cA : Value} {env : Env} {m : Str → Option Value}

theorem EvI.row {env : Env} {h : Heap} {value e : Expr} {pos : Pos} {la : Addr} {xs : List Int} {i : Int} (xv : EvV (model prog w) A env h value (.ref la)) (r : RowAt .H h la xs) (y : EvI (model prog w) A env h e i)
    (h0 : 0 ≤ i) (hi : i.toNat < xs.length) (hz : i < 2 ^ 62) (hsub : ∀ o i, subscripted e false o i = operate [o, i] (getItem o i) := by intro _ _; rfl) :
    EvI (model prog w) A env h (.Subscript value e pos) (xs.getD i.toNat 0) := by
  obtain ⟨vs, hl, hv⟩ := r
  obtain ⟨l1, l2⟩ := intsAre_at hv
  obtain ⟨t, e1⟩ := l2 i.toNat hi
  have hi' : i.toNat < vs.length := by rw [l1]; exact hi
  have hx : vs.toArray[i.toNat]? = some (.int (xs.getD i.toNat 0) t) := by
    rw [← e1]
    simp [List.getD, hi']
  exact EvI.of (EvV.item xv hl.isList y h0 hx (by omega) hsub)

theorem law_int_cell {x : Str} {p' pos : Pos} {value : Expr} {v : Int} {Q : Flow → Shared → Prop} (T : Txt mg mb hB aA aR c P cA) (l : LF hB c P s env m) (ev : EvI (model prog w) A env s.heap value v) (hk : lawSc.names.lookup x = some .cell)
    (hQ : ∀ t s', Rel (XL P env) noV s s' → LF hB c P s' env (upd m x (.int v t)) → Q .next s') (hs : swapsWith value (some (.Name x p')) pos.line env = pure false := by rfl) : wpD (model prog w) A (exec (.Assign [.Name x p'] value pos) env) Q s :=
  wpD_Assign (wpD_of (ev s _ _ rfl fun t tk => wpD_of ((l.keep T (Rel.tok (tk := tk))).store_cell T hk fun s' r l' => hQ t s' ((Rel.tok (tk := tk)).trans r) l'))) hs

theorem assign_cons {M : Model} {f : Value → Sem Unit} {fs : List (Value → Sem Unit)} {v : Value} {vs : List Value} {Q : Unit → Shared → Prop} (h : wpAny M A (f v) (fun _ s' => wpAny M A (assignInOrder fs vs) Q E s') E s) : wpAny M A (assignInOrder (f :: fs) (v :: vs)) Q E s := by
  unfold assignInOrder
  exact wpAny_bind (wpAny_holding h)
theorem assign_nil {M : Model} {Q : Unit → Shared → Prop} (h : Q () s) : wpAny M A (assignInOrder [] []) Q E s := wpAny_pure h

theorem filterMap_lt {α β : Type} {f : α → Option β} {a : α} (hf : f a = none) : ∀ {ts : List α}, a ∈ ts → (ts.filterMap f).length < ts.length
  | e :: r, hm => by
    rcases List.mem_cons.mp hm with h | h
    · subst h
      rw [List.filterMap_cons_none hf, List.length_cons]
      exact Nat.lt_succ_of_le (List.length_filterMap_le f r)
    · have h1 : (List.filterMap f r).length < r.length := filterMap_lt hf h
      rw [List.filterMap_cons]
      split
      · rw [List.length_cons]; exact Nat.lt_succ_of_lt h1
      · rw [List.length_cons, List.length_cons]; exact Nat.succ_lt_succ h1

theorem swapped_none {ts vs : List Expr} {k k' : Nat} {p p' : Pos} {x : Str} {px : Pos} (hm : Expr.Name x px ∈ ts) (hx : env.kindOf x ≠ some .local) : swappedStores [.Tuple ts k p] (.Tuple vs k' p') env = pure none := by
  have hk : (env.kindOf x == some NameKind.local) = false := by simpa using hx
  unfold swappedStores
  dsimp only
  split
  · rfl
  split
  · rfl
  rw [if_pos]
  simp only [Bool.or_eq_true, bne_iff_ne, ne_eq]
  left
  refine Nat.ne_of_lt (filterMap_lt (a := Expr.Name x px) ?_ hm)
  simp [hk]

def liftOf (cs : List Int) : Int := 8 * (cs.getD 0 0).fmod 2
def planesOf (cs : List Int) : Int := 1 + ((cs.getD 0 0).fdiv 2).fmod 3
def lengthOf (cs : List Int) : Int := 1 + ((cs.getD 0 0).fdiv 6).fmod 3
def highOf (cs : List Int) : Int := 1 + ((cs.getD 0 0).fdiv 18).fmod 2

/-- lift = 8 * (cells[0] % 2) -/
theorem law_s1 {ac : Addr} {cs : List Int} {Q : Flow → Shared → Prop} (T : Txt mg mb hB aA aR c P cA) (l : LF hB c P s env m) (hm : m (Str.ofString "cells") = some (.ref ac)) (r : RowAt .H s.heap ac cs) (h3 : 3 ≤ cs.length)
    (hQ : ∀ t s', Rel (XL P env) noV s s' → LF hB c P s' env (upd m (Str.ofString "lift") (.int (liftOf cs) t)) → Q .next s') : wpD (model prog w) A (exec (lawSt 1) env) Q s := by
  refine law_int_cell T l (v := liftOf cs) ?_ (by rfl) hQ
  exact EvI.mul EvI.const (EvI.mod (EvI.row (i := 0) (EvV.cell l.F hm) r EvI.const (by decide) (by show 0 < _; omega) (by decide)) EvI.const (by decide)) (mulOk_left (by decide))

/-- planes, length, high = .. -/
theorem law_s2 {ac : Addr} {cs : List Int} {Q : Flow → Shared → Prop} (hh : A.handled = none) (T : Txt mg mb hB aA aR c P cA) (l : LF hB c P s env m) (hm : m (Str.ofString "cells") = some (.ref ac)) (r : RowAt .H s.heap ac cs) (h3 : 3 ≤ cs.length)
    (hQ : ∀ t1 t2 t3 s', Rel (XL P env) noV s s' → LF hB c P s' env (upd (upd (upd m (Str.ofString "planes") (.int (planesOf cs) t1)) (Str.ofString "length") (.int (lengthOf cs) t2)) (Str.ofString "high") (.int (highOf cs) t3)) → Q .next s') :
    wpD (model prog w) A (exec (lawSt 2) env) Q s := by
  have c0 : ∀ p p' p'', EvI (model prog w) A env s.heap (.Subscript (.Name (Str.ofString "cells") p) (.Constant (.int 0) 0 p') p'') (cs.getD 0 0) := fun p p' p'' =>
    EvI.row (i := 0) (EvV.cell l.F hm) r EvI.const (by decide) (by show 0 < _; omega) (by decide)
  have hk : env.kindOf (Str.ofString "planes") ≠ some .local := by
    unfold Env.kindOf
    rw [l.F.scp]
    decide +kernel
  have key : ∀ (p1 p2 p3 : Pos) (s₁ : Shared) (t1 t2 t3 : Tok), Rel noX noV s s₁ → s₁.heap.IsTuple s.heap.objs.size (#[.int (planesOf cs) t1, .int (lengthOf cs) t2, .int (highOf cs) t3] : Array Value) → s₁.heap.objs.size = s.heap.objs.size + 1 →
      wpD (model prog w) A (unpack (.ref s.heap.objs.size) [(false, assign (.Name (Str.ofString "planes") p1) env), (false, assign (.Name (Str.ofString "length") p2) env), (false, assign (.Name (Str.ofString "high") p3) env)]) (fun _ => Q .next) s₁ := fun p1 p2 p3 s₁ t1 t2 t3 r₁ hT hz₁ => by
    refine wpD_of (wpAny_unpack_tuple hh hT rfl rfl fun h' hx => ?_)
    have r₂ : Rel noX noV s₁ { s₁ with heap := h' } := by
      refine Rel.only (tk := s₁.toks) (fun b o e _ => hx b o (Nat.ne_of_lt (Heap.lt_size e)) e) ?_
      obtain ⟨o, ho, _⟩ := hT
      have := Heap.lt_size (hx _ o (Nat.ne_of_lt (Heap.lt_size ho)) ho)
      rw [hz₁]; exact this
    have l₂ := (l.keep T r₁).keep T r₂
    refine assign_cons (wpAny_assign_Name (l₂.store_cell T (by rfl) fun s₃ r₃ l₃ => ?_))
    refine assign_cons (wpAny_assign_Name (l₃.store_local T (by rfl) fun s₄ r₄ l₄ => ?_))
    refine assign_cons (wpAny_assign_Name (l₄.store_local T (by rfl) fun s₅ r₅ l₅ => assign_nil ?_))
    exact hQ t1 t2 t3 s₅ (((((r₁.trans r₂).up).trans r₃).trans r₄).trans r₅) l₅
  refine wpD_AssignTuple (wpD_of (wpAny_Tuple (wpAny_items_cons ?_))) rfl (swapped_none List.mem_cons_self hk)
  refine (EvI.add EvI.const (EvI.mod (EvI.div (c0 _ _ _) EvI.const (by decide) (by decide)) EvI.const (by decide))) s _ _ rfl fun t1 tk1 => ?_
  refine wpAny_items_cons ((EvI.add EvI.const (EvI.mod (EvI.div (c0 _ _ _) EvI.const (by decide) (by decide)) EvI.const (by decide))) { s with toks := tk1 } _ _ rfl fun t2 tk2 => ?_)
  refine wpAny_items_cons ((EvI.add EvI.const (EvI.mod (EvI.div (c0 _ _ _) EvI.const (by decide) (by decide)) EvI.const (by decide))) { s with toks := tk2 } _ _ rfl fun t3 tk3 => ?_)
  refine Calls.spliced_nil ⟨by show 3 ≤ sizeLine; decide, ?_⟩
  exact key _ _ _ _ t1 t2 t3 (Rel.push (tk := tk3)) ⟨_, Heap.get?_push_size _ rfl, rfl, 0, rfl⟩ (Heap.size_push ..)
end
end Mine

/-! W6 -/
set_option linter.unusedVariables false
set_option maxRecDepth 100000
namespace Mine
open PySem PySem.W PyProof.Rows
open Sem (wp)

theorem free_at {scope : Scope} {m : Str → Option Value} {x y : Str} {v : Value} (h : (y, NameKind.free) ∈ scope.names) (hne : y ≠ x) : upd (freeMap scope m) x v y = m y := by
  rw [upd_ne hne]
  unfold freeMap
  rw [if_pos (mem_free.mpr h)]

abbrev depthsC : Expr := asgVal (lawSt 3)
theorem depths_ok : ScOk lawSc (gxScope depthsC) := ⟨by with_unfolding_all rfl, by decide +kernel, by decide +kernel, by decide +kernel⟩
def depthAt (lf : Int) (cs : List Int) (c : Nat) : Int := 1 + lf + ((cs.getD 1 0).fdiv (6 ^ c)).fmod 6

section
variable {prog : Program} {w : World} {A : Around} {E : Value → Shared → Prop} {s : Shared} {d u : Nat} {mg mb : Str → Option Value} {hB : Heap} {aA aR c P : Addr} {cA : Value} {env : Env} {m : Str → Option Value}

theorem GS.keepN {h' : Heap} (T : Txt mg mb hB aA aR c P cA) {s s' : Shared} (g : GS hB c P s.heap) (r : Rel noX noV s s') : GS hB c P s'.heap := g.rel T r fun _ _ q => q.elim

/-- depths = [..] -/
theorem law_s3 {ac : Addr} {cs : List Int} {lf : Int} {tl tp : Tok} {n : Nat} {Q : Flow → Shared → Prop} (hh : A.handled = none) (T : Txt mg mb hB aA aR c P cA) (l : LF hB c P s env m) (hm : m (Str.ofString "cells") = some (.ref ac)) (r : RowAt .H s.heap ac cs) (h3 : 3 ≤ cs.length)
    (hlf : m (Str.ofString "lift") = some (.int lf tl)) (hp : m (Str.ofString "planes") = some (.int (n : Int) tp)) (hn : n ≤ 3)
    (hQ : ∀ D s', Rel (XL P env) noV s s' → LF hB c P s' env (upd m (Str.ofString "depths") (.ref D)) → RowAt .H s'.heap D ((List.range n).map (depthAt lf cs)) → Q .next s') : wpD (model prog w) A (exec (lawSt 3) env) Q s := by
  refine wpD_Assign (lc_ints_range (m := m) (sc := lawSc) depths_ok hh (depthAt lf cs) ?_) (swaps_cell l.F (by rfl))
  refine wpD_Call (wpD_of (ev_builtin l.F (l.g.glb T) (T.none _ (by simp)) (v := .type "range") (by with_unfolding_all rfl) (by decide) ?_ (by rfl) (by decide)))
  refine wpD_callWith_type rfl (wpD_of (evalArgs_one rfl (ev_cell l.F hp (wpD_of (range_of1 fun ra s₁ r₁ hg₁ hra hr₁ => ?_)) (by rfl))))
  refine ⟨ra, 0, (n : Int), n, rfl, hr₁, by omega, by decide, by omega, l.F.keep r₁, fun i t cenv s₂ hi r₂ F₂ => ?_, fun D s₂ r₂ row => ?_⟩
  · have row₂ : RowAt .H s₂.heap ac cs := r.at fun o e _ => (r₁.trans r₂).keeps _ o e
    have hcells : upd (freeMap (gxScope depthsC) m) (Str.ofString "c") (.int (0 + (i : Int)) t) (Str.ofString "cells") = some (.ref ac) := (free_at (by decide +kernel) (by decide)).trans hm
    have hlift : upd (freeMap (gxScope depthsC) m) (Str.ofString "c") (.int (0 + (i : Int)) t) (Str.ofString "lift") = some (.int lf tl) := (free_at (by decide +kernel) (by decide)).trans hlf
    have hb : (6 : Int) ^ i ≠ 0 ∧ ((6 : Int) ^ i).natAbs < 1073741824 := by
      have : i = 0 ∨ i = 1 ∨ i = 2 := by omega
      rcases this with h | h | h <;> subst h <;> decide
    have ev : EvI (model prog w) A cenv s₂.heap (gxElt depthsC) (depthAt lf cs i) := by
      refine EvI.add (EvI.add EvI.const (EvI.of (EvV.cell F₂ hlift))) (EvI.mod (EvI.div (EvI.row (i := 1) (EvV.cell F₂ hcells) row₂ EvI.const (by decide) (by show 1 < _; omega) (by decide)) (EvI.pow (n := i) EvI.const ?_ (by decide) (by decide) (by omega)) hb.1 hb.2) EvI.const (by decide))
      have := fun p => EvI.of (EvV.local (M := model prog w) (A := A) (pos := p) F₂ upd_self)
      rw [Int.zero_add] at this
      exact this _
    exact wpD_of (ev s₂ _ _ rfl fun t' tk => ⟨Rel.tok, t', rfl⟩)
  · have rr : Rel noX noV s s₂ := r₁.trans r₂
    have l₂ := l.keep T rr
    refine wpD_of (l₂.store_cell T (by rfl) fun s₃ r₃ l₃ => ?_)
    exact hQ D s₃ (rr.up.trans r₃) l₃ (row.at fun o e hd => l₂.dk r₃ _ o e hd)

/-- rows = [] -/
theorem law_s4 {Q : Flow → Shared → Prop} (T : Txt mg mb hB aA aR c P cA) (l : LF hB c P s env m)
    (hQ : ∀ D s', Rel (XL P env) noV s s' → LF hB c P s' env (upd m (Str.ofString "rows") (.ref D)) → s.heap.objs.size ≤ D → s'.heap.PlainList D #[] → Q .next s') : wpD (model prog w) A (exec (lawSt 4) env) Q s := by
  refine wpD_Assign (wpD_of (wpAny_List (Calls.spliced_nil ⟨by show 0 ≤ sizeLine; decide, ?_⟩)))
  have r₁ : Rel noX noV s { s with heap := s.heap.push { cls := .type "list", data := .seq ([] : List Value).toArray } } := Rel.push (tk := s.toks)
  have l₁ := l.keep T r₁
  refine wpD_of (l₁.store_local T (by rfl) fun s₂ r₂ l₂ => ?_)
  exact hQ _ s₂ (r₁.up.trans r₂) l₂ (Nat.le_refl _) ⟨0, l₁.dk r₂ _ _ (Heap.get?_push_size _ rfl) trivial⟩
end
end Mine

/-! W7 -/
set_option linter.unusedVariables false
set_option maxRecDepth 100000
namespace Mine
open PySem PySem.W PyProof.Rows
open Sem (wp)

/-- the same but for some names -/
def Same (ns : List Str) (m m' : Str → Option Value) : Prop := ∀ y, y ∉ ns → m' y = m y
theorem Same.refl (ns : List Str) (m : Str → Option Value) : Same ns m m := fun _ _ => rfl
theorem Same.upd {ns : List Str} {m m' : Str → Option Value} {x : Str} {v : Value} (h : Same ns m m') (hx : x ∈ ns) : Same ns m (upd m' x v) := fun y hy => (upd_ne (fun e => hy (by rw [e]; exact hx))).trans (h y hy)

theorem fmod_nat (k n : Nat) : (k : Int).fmod (n : Int) = ((k % n : Nat) : Int) := by
  rw [Int.fmod_eq_emod_of_nonneg _ (Int.natCast_nonneg n)]
  exact (Int.natCast_emod k n).symm

def dInts (dn : Nat → Nat) (n : Nat) : List Int := (List.range n).map fun c => ((dn c : Nat) : Int)
def rowVal (cs : List Int) (dn : Nat → Nat) (n k : Nat) : Int := (if k + 3 < cs.length then cs.getD (k + 3) 0 else 4321 * (k : Int) + 1).fmod (2 ^ (dn (k % n)))

section
variable {prog : Program} {w : World} {A : Around} {E : Value → Shared → Prop} {s : Shared} {d u : Nat} {mg mb : Str → Option Value} {hB : Heap} {aA aR c P : Addr} {cA : Value} {env : Env} {m : Str → Option Value}

theorem EvI.len {sc : Scope} {h : Heap} {e : Expr} {p pos : Pos} {la : Addr} {items : Array Value} (T : Txt mg mb hB aA aR c P cA) (F : Frm sc env h m) (g : GS hB c P h) (hk : sc.names.lookup (Str.ofString "len") = some .globalImplicit) (hl : h.IsList la items) (hz : items.size ≤ 1000)
    (xv : EvV (model prog w) A env h e (.ref la)) (hp : starEach [e] env = [(false, eval e env)] := by rfl) : EvI (model prog w) A env h (.Call (.Name (Str.ofString "len") p) [e] [] pos) (items.size : Int) := fun s Q E hs hq => by
  subst hs
  refine call_builtin1 F (g.glb T) (T.none _ (by simp)) (id := "len") (by with_unfolding_all rfl) (by decide) hk hp (xv s _ _ rfl fun tk => ?_) (by decide)
  exact Calls.call_len_list (s := { s with toks := tk }) hl (by omega) (hq _ _)

theorem EvI.ite {h : Heap} {l r b o : Expr} {p pos : Pos} {x y i j : Int} (e1 : EvI (model prog w) A env h l x) (e2 : EvI (model prog w) A env h r y) (e3 : x < y → EvI (model prog w) A env h b i) (e4 : ¬ x < y → EvI (model prog w) A env h o j) (hm : behindInMarks .Lt r = false := by with_unfolding_all rfl) :
    EvI (model prog w) A env h (.IfExp (.Compare l [.Lt] [r] p) b o pos) (if x < y then i else j) := fun s Q E hs hq => by
  refine wpAny_IfExp (wpAny_isTrue_Compare1 (e1 s _ _ hs fun t tk => e2 { s with toks := tk } _ _ hs fun t' tk' => PySem.P.lt_int ?_) hm)
  refine wpAny_of_eq (a := decide (x < y)) rfl ?_
  by_cases hxy : x < y
  · rw [if_pos (by simpa using hxy)]
    refine e3 hxy { s with toks := tk' } _ _ hs fun t2 tk2 => ?_
    rw [if_pos hxy] at hq
    exact hq _ _
  · rw [if_neg (by simpa using hxy)]
    refine e4 hxy { s with toks := tk' } _ _ hs fun t2 tk2 => ?_
    rw [if_neg hxy] at hq
    exact hq _ _

abbrev rowsFor : Stmt := lawSt 5
def exprOf : Stmt → Expr
  | .Expr e _ => e
  | _ => .Name "" default
abbrev rowC : Expr := callArg 0 (exprOf ((forBody rowsFor).getD 1 (.Pass default)))
theorem row_ok : ScOk lawSc (gxScope rowC) := ⟨by with_unfolding_all rfl, by decide +kernel, by decide +kernel, by decide +kernel⟩

theorem ev_rowVal {h : Heap} {cenv : Env} {m' : Str → Option Value} {ac ad : Addr} {cs : List Int} {dn : Nat → Nat} {n k : Nat} {t tp : Tok} (T : Txt mg mb hB aA aR c P cA) (F : Frm (relabelS (gxScope rowC) lawSc) cenv h m') (g : GS hB c P h)
    (hk : m' (Str.ofString "k") = some (.int (k : Int) t)) (hc : m' (Str.ofString "cells") = some (.ref ac)) (hd : m' (Str.ofString "depths") = some (.ref ad)) (hp : m' (Str.ofString "planes") = some (.int (n : Int) tp))
    (rc : RowAt .H h ac cs) (rd : RowAt .H h ad (dInts dn n)) (hn : 0 < n) (hn3 : n ≤ 3) (hkz : k ≤ 1000) (hcz : cs.length ≤ 100) (hdn : ∀ c, c < n → dn c ≤ 16) : EvI (model prog w) A cenv h (gxElt rowC) (rowVal cs dn n k) := by
  have ek : ∀ p, EvI (model prog w) A cenv h (.Name (Str.ofString "k") p) (k : Int) := fun p => EvI.of (EvV.local F hk)
  obtain ⟨vs, hl, hv⟩ := id rc
  have hlen := ia_len hv
  have hmod : k % n < n := Nat.mod_lt _ hn
  have e2 : (2 : Int) ^ dn (k % n) ≠ 0 := by
    have : (0 : Int) < 2 ^ dn (k % n) := Int.pow_pos (by decide)
    omega
  have ed : ∀ p2 p3 p4 p5 p6, EvI (model prog w) A cenv h (.Subscript (.Name (Str.ofString "depths") p2) (.BinOp (.Name (Str.ofString "k") p3) .Mod (.Name (Str.ofString "planes") p4) p5) p6) ((dn (k % n) : Nat) : Int) := fun p2 p3 p4 p5 p6 => by
    have := EvI.row (pos := p6) (EvV.cell (M := model prog w) (A := A) (pos := p2) F hd) rd (EvI.mod (pos := p5) (ek p3) (EvI.of (EvV.cell (pos := p4) F hp)) (by omega)) (by rw [fmod_nat]; omega) (by rw [fmod_nat, Int.toNat_natCast]; simpa [dInts] using hmod) (by rw [fmod_nat]; omega)
    rw [fmod_nat, Int.toNat_natCast] at this
    have e : (dInts dn n).getD (k % n) 0 = ((dn (k % n) : Nat) : Int) := by
      unfold dInts
      simp [List.getD, hmod]
    rw [e] at this
    exact this
  have all : EvI (model prog w) A cenv h (gxElt rowC) ((if (k : Int) + 3 < (vs.toArray.size : Int) then cs.getD ((k : Int) + 3).toNat 0 else 4321 * (k : Int) + 1).fmod (2 ^ (dn (k % n)))) := by
    refine EvI.mod (EvI.ite (EvI.add (ek _) EvI.const) (EvI.len T F g (by rfl) hl.isList (by simp; omega) (EvV.cell F hc)) (fun hlt => ?_) (fun _ => EvI.add (EvI.mul EvI.const (ek _) (mulOk_left (by decide))) EvI.const)) ?_ e2
    · exact EvI.row (EvV.cell F hc) rc (EvI.add (ek _) EvI.const) (by omega) (by simp at hlt; omega) (by omega)
    · exact EvI.pow EvI.const (ed _ _ _ _ _) (by decide) (by decide) (by have := hdn _ hmod; omega)
  have e : (if (k : Int) + 3 < (vs.toArray.size : Int) then cs.getD ((k : Int) + 3).toNat 0 else 4321 * (k : Int) + 1) = (if k + 3 < cs.length then cs.getD (k + 3) 0 else 4321 * (k : Int) + 1) := by
    have e1 : ((k : Int) + 3).toNat = k + 3 := by omega
    rw [e1]
    by_cases hlt : k + 3 < cs.length
    · rw [if_pos hlt, if_pos (by simp; omega)]
    · rw [if_neg hlt, if_neg (by simp; omega)]
  rw [e] at all
  exact all
end
end Mine

/-! W8 -/
set_option linter.unusedVariables false
set_option maxRecDepth 100000
namespace Mine
open PySem PySem.W PyProof.Rows
open Sem (wp)

def rowOf (cs : List Int) (dn : Nat → Nat) (n L y : Nat) : List Int := (List.range (L * n)).map fun i => rowVal cs dn n (y * L * n + i)
def rowsOf (cs : List Int) (dn : Nat → Nat) (n L H : Nat) : List (List Int) := (List.range H).map (rowOf cs dn n L)
/-- a plain statement's writes, and one list's -/
abbrev XD (P : Addr) (env : Env) (D : Addr) : Addr → Obj → Prop := fun b o => XL P env b o ∨ b = D

section
variable {prog : Program} {w : World} {A : Around} {E : Value → Shared → Prop} {s : Shared} {d u : Nat} {mg mb : Str → Option Value} {hB : Heap} {aA aR c P : Addr} {cA : Value} {env : Env} {m : Str → Option Value}

theorem LF.fields {hB : Heap} {c P : Addr} (T : Txt mg mb hB aA aR c P cA) (l : LF hB c P s env m) {s' : Shared} (r : Rel (XL P env) noV s s') {b : Addr} {o : Obj} (hb : hB.objs.size ≤ b) (e : s.heap.get? b = some o) (hf : Ik o) : s'.heap.get? b = some o :=
  r.heap b o e fun q => by
    rcases q with q | q
    · subst q; exact Nat.lt_irrefl _ (Nat.lt_of_lt_of_le T.cP.2 hb)
    · have h1 := q.2
      unfold Ik at hf; unfold Fk at h1
      cases hd : o.data <;> simp_all

theorem RowsAt.snoc {h : Heap} {D a : Addr} {xss : List (List Int)} {xs : List Int} {refs : List Value} (hl : refs.length = xss.length) (hr : ∀ j, j < xss.length → ∃ a, refs[j]? = some (.ref a) ∧ RowAt .H h a (xss.getD j [])) (hD : h.PlainList D (refs ++ [Value.ref a]).toArray) (row : RowAt .H h a xs) : RowsAt .H h D (xss ++ [xs]) := by
  refine ⟨refs ++ [Value.ref a], hD, by simp [hl], fun j hj => ?_⟩
  by_cases hj' : j < xss.length
  · obtain ⟨a', e1, e2⟩ := hr j hj'
    refine ⟨a', by rw [List.getElem?_append_left (by omega)]; exact e1, ?_⟩
    have : (xss ++ [xs]).getD j [] = xss.getD j [] := by simp [List.getD, List.getElem?_append_left hj']
    rw [this]; exact e2
  · have : j = xss.length := by rw [List.length_append, List.length_singleton] at hj; omega
    subst this
    exact ⟨a, by rw [← hl]; simp, by simpa [List.getD] using row⟩

theorem not_row_of_refs {h : Heap} {D : Addr} {refs : List Value} {xs : List Int} (hD : h.PlainList D refs.toArray) (hrefs : ∀ j, j < refs.length → ∃ a, refs[j]? = some (.ref a)) (r : RowAt .H h D xs) (hx : 0 < xs.length) : False := by
  obtain ⟨vs, ⟨k, e⟩, hv⟩ := r
  obtain ⟨k', e'⟩ := hD
  rw [e] at e'
  injection e' with e'
  injection e' with _ _ e'
  injection e' with e' _
  have e' : vs = refs := by simpa using congrArg Array.toList e'
  subst e'
  obtain ⟨l1, l2⟩ := intsAre_at hv
  obtain ⟨t, et⟩ := l2 0 hx
  obtain ⟨a, ea⟩ := hrefs 0 (by omega)
  simp [List.getD, ea] at et

/-- for y in range(high): .. -/
theorem law_s5 {ac ad Dr : Addr} {cs : List Int} {dn : Nat → Nat} {n L H : Nat} {tp tL tH : Tok} {Q : Flow → Shared → Prop} (hA : OkA A d u) (T : Txt mg mb hB aA aR c P cA) (l : LF hB c P s env m) (hin : interactive env = false)
    (hc : m (Str.ofString "cells") = some (.ref ac)) (rc : RowAt .H s.heap ac cs) (hcz : cs.length ≤ 100) (hd : m (Str.ofString "depths") = some (.ref ad)) (rd : RowAt .H s.heap ad (dInts dn n)) (hdn : ∀ c, c < n → dn c ≤ 16)
    (hp : m (Str.ofString "planes") = some (.int (n : Int) tp)) (hL : m (Str.ofString "length") = some (.int (L : Int) tL)) (hH : m (Str.ofString "high") = some (.int (H : Int) tH)) (hn : 0 < n) (hn3 : n ≤ 3) (hL3 : L ≤ 3) (hL0 : 0 < L) (hH2 : H ≤ 2)
    (hrows : m (Str.ofString "rows") = some (.ref Dr)) (hDr : s.heap.PlainList Dr #[]) (hDB : hB.objs.size ≤ Dr) (hac : ac ≠ Dr) (had : ad ≠ Dr)
    (hQ : ∀ s' m', Same [Str.ofString "y", Str.ofString "ats"] m m' → Rel (XD P env Dr) noV s s' → LF hB c P s' env m' → RowsAt .H s'.heap Dr (rowsOf cs dn n L H) → Q .next s') : wpD (model prog w) A (exec rowsFor env) Q s := by
  refine wpD_For (wpD_Call (wpD_of (ev_builtin l.F (l.g.glb T) (T.none _ (by simp)) (v := .type "range") (by with_unfolding_all rfl) (by decide) ?_ (by rfl) (by decide))))
  refine wpD_callWith_type rfl (wpD_of (evalArgs_one rfl (ev_local l.F hH (wpD_of (range_of1 fun ra s₁ r₁ hg₁ hra hr₁ => ?_)) rfl)))
  obtain ⟨t1, u1, v1, hr₁⟩ := hr₁
  refine wpD_of (iter_of_range (n := H) hr₁ (by omega) (by decide) (by decide) (by omega) fun s₂ r₂ hg₂ hI => ?_)
  generalize hIeq : s₁.heap.objs.size = I at *
  have hsI : s.heap.objs.size ≤ I := by rw [← hIeq]; exact r₁.mono.1
  have hBI : hB.objs.size ≤ I := Nat.le_trans l.base hsI
  have hDs : Dr < s.heap.objs.size := by obtain ⟨k, e⟩ := hDr; exact Heap.lt_size e
  have hID : I ≠ Dr := Nat.ne_of_gt (Nat.lt_of_lt_of_le hDs hsI)
  have r₁₂ := r₁.trans r₂
  refine codeD_forRange (a := 0) (n := H) hA.handled (fun i s' => ∃ m', Same [Str.ofString "y", Str.ofString "ats"] m m' ∧ Rel (XD P env Dr) noV s s' ∧ LF hB c P s' env m' ∧ RowsAt .H s'.heap Dr (rowsOf cs dn n L i) ∧ IsRangeIter s'.heap I (0 + (i : Int)) ((H : Int) - i) 1)
    ⟨m, Same.refl _ _, r₁₂.up, l.keep T r₁₂, ⟨[], hDr.at fun o e => r₁₂.keeps _ o e, rfl, fun j hj => absurd hj (by simp [rowsOf])⟩, by simpa using hI⟩ (fun i s' hi hJ => ?_) (fun i s' hi hJ s₃ t r₃ hI₃ => ?_) fun s' s₃ hJ r₃ => ?_
  · obtain ⟨m', _, _, _, _, h⟩ := hJ; exact h
  · obtain ⟨m', q1, q2, q3, q4, hIs⟩ := hJ
    have ownI : ∀ b, Own env b → b ≠ I := fun b hb q => by
      have := l.F.own_lt hb
      rw [q] at this
      exact Nat.lt_irrefl _ (Nat.lt_of_lt_of_le this hsI)
    have nDI : ∀ b (o : Obj), s'.heap.get? b = some o → Dk o → s₃.heap.get? b = some o := fun b o e hd' => r₃.heap b o e fun q => by
      subst q
      have hIs' : s'.heap.get? b = some _ := hIs
      rw [hIs'] at e; cases e; exact hd'
    have l₃ : LF hB c P s₃ env m' := ⟨q3.F.rel r₃ fun b o q hb _ => ownI b hb q, q3.g.rel T r₃ fun b o q => q ▸ hBI, q3.own⟩
    have rel₃ : Rel (XD P env Dr) noV s s₃ := q2.tf r₃ (fun b o q => .inl (q ▸ hsI)) fun k q => q.elim
    rw [Int.zero_add]
    refine wpD_of (l₃.store_local T (by rfl) fun s₄ r₄ l₄ => ?_)
    have S₄ := q1.upd (x := Str.ofString "y") (v := .int (i : Int) t) (by simp)
    have at' : ∀ y, y ∉ [Str.ofString "y", Str.ofString "ats"] → upd m' (Str.ofString "y") (.int (i : Int) t) y = m y := fun y hy => S₄ y hy
    have ey : ∀ p, EvI (model prog w) A env s₄.heap (.Name (Str.ofString "y") p) (i : Int) := fun p => EvI.of (EvV.local l₄.F upd_self)
    have eL : ∀ p, EvI (model prog w) A env s₄.heap (.Name (Str.ofString "length") p) (L : Int) := fun p => EvI.of (EvV.local l₄.F ((at' _ (by decide)).trans hL))
    have ep : ∀ p, EvI (model prog w) A env s₄.heap (.Name (Str.ofString "planes") p) (n : Int) := fun p => EvI.of (EvV.cell l₄.F ((at' _ (by decide)).trans hp))
    have big1 : (i : Int).natAbs < 2 ^ 64 ∧ ((i : Int) + 1).natAbs < 2 ^ 64 ∧ (L : Int).natAbs < 2 ^ 64 ∧ (n : Int).natAbs < 2 ^ 64 := by omega
    refine wpD_seq (wpD_Assign (wpD_Call (wpD_of (ev_builtin l₄.F (l₄.g.glb T) (T.none _ (by simp)) (v := .type "range") (by with_unfolding_all rfl) (by decide) ?_ (by rfl) (by decide)))))
    refine wpD_callWith_type rfl (wpD_of (evalArgs_two rfl (EvI.mul (EvI.mul (ey _) (eL _) (mulOk_left big1.1)) (ep _) (mulOk_right big1.2.2.2) s₄ _ _ rfl fun t5 tk5 => EvI.mul (EvI.mul (EvI.add (ey _) EvI.const) (eL _) (mulOk_left big1.2.1)) (ep _) (mulOk_right big1.2.2.2) { s₄ with toks := tk5 } _ _ rfl fun t6 tk6 => wpD_of (range_of2 fun rb s₅ r₅ hg₅ hrb hr₅ => ?_))))
    have r₅' : Rel noX noV s₄ s₅ := (Rel.tok (tk := tk6)).trans r₅
    have l₅ := l₄.keep T r₅'
    refine wpD_of (l₅.store_local T (by rfl) fun s₆ r₆ l₆ => ⟨rfl, ?_⟩)
    have S₆ := S₄.upd (x := Str.ofString "ats") (v := .ref rb) (by simp)
    have at6 : ∀ y, y ∉ [Str.ofString "y", Str.ofString "ats"] → upd (upd m' (Str.ofString "y") (.int (i : Int) t)) (Str.ofString "ats") (.ref rb) y = m y := fun y hy => S₆ y hy
    have rXL : Rel (XL P env) noV s₃ s₆ := (r₄.trans r₅'.up).trans r₆
    have rel₆ : Rel (XD P env Dr) noV s s₆ := rel₃.trans (rXL.weak (fun b o q => .inl q) fun _ q => q)
    have hI₆ : IsRangeIter s₆.heap I (0 + ((i + 1 : Nat) : Int)) ((H : Int) - ((i + 1 : Nat) : Int)) 1 := l₃.fields T rXL hBI hI₃ trivial
    have dk : ∀ b o, s.heap.get? b = some o → Dk o → b ≠ Dr → s₆.heap.get? b = some o := fun b o e hd' hb => rel₆.heap b o e fun q => by
      rcases q with (q | q) | q
      · subst q; exact l.g.notDk e hd'
      · exact dk_fk hd' q.2
      · exact hb q
    have rc₆ : RowAt .H s₆.heap ac cs := rc.at fun o e hd' => dk _ o e hd' hac
    have rd₆ : RowAt .H s₆.heap ad (dInts dn n) := rd.at fun o e hd' => dk _ o e hd' had
    have q4₆ : RowsAt .H s₆.heap Dr (rowsOf cs dn n L i) := (q4.at fun b o e hd' => nDI b o e hd').at fun b o e hd' => l₃.dk rXL b o e hd'
    obtain ⟨refs, hDl, hrl, hrr⟩ := q4₆
    obtain ⟨t7, u7, v7, hr₅⟩ := hr₅
    have hrbB : hB.objs.size ≤ rb := Nat.le_trans l₄.base hrb
    have hr₆ : IsRange s₆.heap rb ((i : Int) * L * n) (((i : Int) + 1) * L * n) 1 t7 u7 v7 := l₅.fields T r₆ hrbB hr₅ trivial
    have ea : (i : Int) * L * n = ((i * L * n : Nat) : Int) := by simp
    have eb : ((i : Int) + 1) * L * n = ((i * L * n : Nat) : Int) + ((L * n : Nat) : Int) := by
      rw [← ea, Int.add_mul, Int.add_mul, Int.one_mul]; simp
    rw [ea, eb] at hr₆
    have hLn : L * n ≤ 9 := Nat.le_trans (Nat.mul_le_mul hL3 hn3) (by decide)
    have hiL : i * L * n ≤ 18 := Nat.le_trans (Nat.mul_le_mul (Nat.mul_le_mul (by omega : i ≤ 2) hL3) hn3) (by decide)
    refine wpD_seq (wpD_ExprNone (wpD_method rfl F.slot_list_append F.type_list_append rfl (wpD_of (ev_local l₆.F ((at6 _ (by decide)).trans hrows) ⟨Dr, refs.toArray, rfl, hDl, ?_⟩ rfl))) hin)
    refine lc_ints_range (m := upd (upd m' (Str.ofString "y") (.int (i : Int) t)) (Str.ofString "ats") (.ref rb)) (sc := lawSc) row_ok hA.handled (fun j => rowVal cs dn n (i * L * n + j)) (wpD_of (ev_local l₆.F upd_self ⟨rb, _, _, L * n, rfl, ⟨_, _, _, hr₆⟩, rfl, by omega, by omega, l₆.F, fun j tj cenv s₇ hj r₇ F₇ => ?_, fun D s₇ r₇ row => ?_⟩ rfl))
    · have e0 : ((i * L * n : Nat) : Int) + (j : Int) = ((i * L * n + j : Nat) : Int) := by simp
      rw [e0] at F₇
      have ev := ev_rowVal (prog := prog) (w := w) (A := A) T F₇ (l₆.g.rel T r₇ fun _ _ q => q.elim) upd_self ((free_at (by decide +kernel) (by decide)).trans ((at6 _ (by decide)).trans hc)) ((free_at (by decide +kernel) (by decide)).trans ((at6 _ (by decide)).trans hd)) ((free_at (by decide +kernel) (by decide)).trans ((at6 _ (by decide)).trans hp))
        (rc₆.at fun o e _ => r₇.keeps _ o e) (rd₆.at fun o e _ => r₇.keeps _ o e) hn hn3 (by omega) hcz hdn
      exact wpD_of (ev s₇ _ _ rfl fun t' tk => ⟨Rel.tok, t', rfl⟩)
    · have hsl : 1000 ≤ sizeLine := by decide
      refine wpD_of (wpAny_list_append_plain (hDl.at fun o e => r₇.keeps _ o e) (fun h' hl' hs' => ?_) (by rw [List.size_toArray, hrl]; simp [rowsOf]; exact Nat.le_trans (by omega : i ≤ 1000) hsl))
      have r₈ : Rel (fun b _ => b = Dr) noV s₇ { s₇ with heap := h' } := Rel.only (tk := s₇.toks) (fun b o e q => hs'.extBut b o q e) (Nat.le_of_eq hs'.1.symm)
      have l₇ := l₆.keep T r₇
      have ownD : ∀ b, Own env b → b ≠ Dr := fun b hb q => by
        obtain ⟨o, ho, hf⟩ := l.F.own_at hb
        obtain ⟨k, e⟩ := hDr
        rw [q, e] at ho; cases ho; exact hf
      refine ⟨rfl, rfl, wpD_nil ⟨rfl, _, S₆, ((rel₆.trans r₇.up).trans (r₈.weak (fun b o q => .inr q) fun _ q => q)), ⟨l₇.F.rel r₈ fun b o q hb _ => ownD b hb q, l₇.g.rel T r₈ fun b o q => q ▸ hDB, l₇.own⟩, ?_, ?_⟩⟩
      · have e : rowsOf cs dn n L (i + 1) = rowsOf cs dn n L i ++ [rowOf cs dn n L i] := by
          unfold rowsOf
          rw [List.range_succ, List.map_append]; rfl
        rw [e]
        have hDrow : ∀ b o, s₆.heap.get? b = some o → b ≠ Dr → h'.get? b = some o := fun b o e hb => r₈.heap b o (r₇.keeps b o e) hb
        refine RowsAt.snoc (refs := refs) hrl (fun j hj => ?_) (by simpa using hl') (row.at fun o e _ => r₈.heap D o e fun q => ?_)
        · obtain ⟨a', e1, e2⟩ := hrr j hj
          refine ⟨a', e1, e2.at fun o e hd' => hDrow _ o e fun q => ?_⟩
          refine not_row_of_refs hDl (fun j' hj' => let ⟨a, e, _⟩ := hrr j' (hrl ▸ hj'); ⟨a, e⟩) (q ▸ e2) ?_
          have hj0 : j < i := by simpa [rowsOf] using hj
          have : (rowsOf cs dn n L i).getD j [] = rowOf cs dn n L j := by
            unfold rowsOf
            simp [List.getD, hj0]
          rw [this]
          simpa [rowOf] using Nat.mul_pos hL0 hn
        · refine not_row_of_refs (hDl.at fun o e => r₇.keeps _ o e) (fun j' hj' => let ⟨a, e, _⟩ := hrr j' (hrl ▸ hj'); ⟨a, e⟩) (q ▸ row) ?_
          simpa using Nat.mul_pos hL0 hn
      · exact r₈.heap _ _ (r₇.keeps _ _ hI₆) fun q => hID q
  · obtain ⟨m', q1, q2, q3, q4, hIs⟩ := hJ
    have nDI : ∀ b (o : Obj), s'.heap.get? b = some o → Dk o → s₃.heap.get? b = some o := fun b o e hd' => r₃.heap b o e fun q => by
      subst q
      have hIs' : s'.heap.get? b = some _ := hIs
      rw [hIs'] at e; cases e; exact hd'
    have ownI : ∀ b, Own env b → b ≠ I := fun b hb q => by
      have := l.F.own_lt hb
      rw [q] at this
      exact Nat.lt_irrefl _ (Nat.lt_of_lt_of_le this hsI)
    exact hQ s₃ m' q1 (q2.tf r₃ (fun b o q => .inl (q ▸ hsI)) fun k q => q.elim) ⟨q3.F.rel r₃ fun b o q hb _ => ownI b hb q, q3.g.rel T r₃ fun b o q => q ▸ hBI, q3.own⟩ (q4.at nDI)
end
end Mine

/-! W9 -/
set_option linter.unusedVariables false
set_option maxRecDepth 100000
namespace Mine
open PySem PySem.W PyProof.Rows
open Sem (wp)

def natInts (l : List Nat) : List Int := l.map fun (v : Nat) => (v : Int)
theorem natInts_length (l : List Nat) : (natInts l).length = l.length := by simp [natInts]
theorem natInts_getD (l : List Nat) (i : Nat) : (natInts l).getD i 0 = ((l.getD i 0 : Nat) : Int) := by
  unfold natInts
  simp only [List.getD, List.getElem?_map]
  cases l[i]? <;> rfl

section
variable {prog : Program} {w : World} {A : Around} {E : Value → Shared → Prop} {s : Shared} {d u : Nat} {mg mb : Str → Option Value} {hB : Heap} {aA aR c P : Addr} {cA : Value} {env : Env} {m : Str → Option Value}

theorem call_type1 {sc : Scope} {x : Str} {T' : String} {p pos : Pos} {e : Expr} {Q : Value → Shared → Prop} (F : Frm sc env s.heap m) (G : Glb mg mb s.heap) (hn : mg x = none) (hb : bootBuiltins x = some (.type T')) (hne : x ≠ "__name__")
    (hk : sc.names.lookup x = some .globalImplicit) (hp : starEach [e] env = [(false, eval e env)])
    (h : wpAny (model prog w) A (eval e env) (fun v s' => wpAny (model prog w) A (call (.type T') [v]) Q E s') E s) (hd : (x == ("__debug__" : Str)) = false) : wpAny (model prog w) A (eval (.Call (.Name x p) [e] [] pos) env) Q E s := by
  rw [arm_eval_Call_Name']
  refine wpAny_bind (ev_builtin F G hn hb hne ?_ hk hd)
  exact PySem.callWith_type (by rw [hp]; rfl) (evalArgs_one hp h)
theorem call_type2 {sc : Scope} {x : Str} {T' : String} {p pos : Pos} {e₁ e₂ : Expr} {Q : Value → Shared → Prop} (F : Frm sc env s.heap m) (G : Glb mg mb s.heap) (hn : mg x = none) (hb : bootBuiltins x = some (.type T')) (hne : x ≠ "__name__")
    (hk : sc.names.lookup x = some .globalImplicit) (hp : starEach [e₁, e₂] env = [(false, eval e₁ env), (false, eval e₂ env)])
    (h : wpAny (model prog w) A (eval e₁ env) (fun v s' => wpAny (model prog w) A (eval e₂ env) (fun v' s'' => wpAny (model prog w) A (call (.type T') [v, v']) Q E s'') E s') E s) (hd : (x == ("__debug__" : Str)) = false) :
    wpAny (model prog w) A (eval (.Call (.Name x p) [e₁, e₂] [] pos) env) Q E s := by
  rw [arm_eval_Call_Name']
  refine wpAny_bind (ev_builtin F G hn hb hne ?_ hk hd)
  exact PySem.callWith_type (by rw [hp]; rfl) (evalArgs_two hp h)

def leftInit (mx lN : Nat) : List Nat := (List.range (lN + 8 - mx)).map (mx + 1 + ·)

/-- left, walk = list(range(max(depths) + 1, lift + 9)), [] -/
theorem law_s6 {ad : Addr} {dn : Nat → Nat} {n lN : Nat} {tl : Tok} {Q : Flow → Shared → Prop} (hh : A.handled = none) (T : Txt mg mb hB aA aR c P cA) (l : LF hB c P s env m)
    (hd : m (Str.ofString "depths") = some (.ref ad)) (rd : RowAt .H s.heap ad (dInts dn n)) (hn : 0 < n) (hdn : ∀ c, c < n → dn c ≤ lN + 6) (hl : m (Str.ofString "lift") = some (.int (lN : Int) tl)) (hlN : lN ≤ 8)
    (hQ : ∀ mx Dl Dw s', (∀ c, c < n → dn c ≤ mx) → mx ≤ lN + 6 → Rel (XL P env) noV s s' → LF hB c P s' env (upd (upd m (Str.ofString "left") (.ref Dl)) (Str.ofString "walk") (.ref Dw)) → s.heap.objs.size ≤ Dl → s.heap.objs.size ≤ Dw → Dl ≠ Dw →
      RowAt .H s'.heap Dl (natInts (leftInit mx lN)) → s'.heap.PlainList Dw #[] → Q .next s') : wpD (model prog w) A (exec (lawSt 6) env) Q s := by
  have hk : env.kindOf (Str.ofString "walk") ≠ some .local := by
    unfold Env.kindOf
    rw [l.F.scp]
    decide +kernel
  have hlen : (dInts dn n).length = n := by simp [dInts]
  have key : ∀ (p1 p2 : Pos) (s₁ : Shared) (mx : Nat) (Dl Dw Tt : Addr), (∀ c, c < n → dn c ≤ mx) → mx ≤ lN + 6 → Rel noX noV s s₁ → s₁.heap.IsTuple Tt (#[.ref Dl, .ref Dw] : Array Value) → s₁.heap.objs.size = Tt + 1 → s.heap.objs.size ≤ Dl → s.heap.objs.size ≤ Dw → Dl ≠ Dw →
      RowAt .H s₁.heap Dl (natInts (leftInit mx lN)) → s₁.heap.PlainList Dw #[] →
      wpD (model prog w) A (unpack (.ref Tt) [(false, assign (.Name (Str.ofString "left") p1) env), (false, assign (.Name (Str.ofString "walk") p2) env)]) (fun _ => Q .next) s₁ := fun p1 p2 s₁ mx Dl Dw Tt h1 h2 r₁ hT hz₁ h3 h4 h5 h6 h7 => by
    refine wpD_of (wpAny_unpack_tuple hh hT rfl rfl fun h' hx => ?_)
    have r₂ : Rel noX noV s₁ { s₁ with heap := h' } := by
      refine Rel.only (tk := s₁.toks) (fun b o e _ => hx b o (Nat.ne_of_lt (Heap.lt_size e)) e) ?_
      obtain ⟨o, ho, _⟩ := hT
      have := Heap.lt_size (hx _ o (Nat.ne_of_lt (Heap.lt_size ho)) ho)
      rw [hz₁]; exact this
    have l₂ := (l.keep T r₁).keep T r₂
    refine assign_cons (wpAny_assign_Name (l₂.store_local T (by rfl) fun s₃ r₃ l₃ => ?_))
    refine assign_cons (wpAny_assign_Name (l₃.store_cell T (by rfl) fun s₄ r₄ l₄ => assign_nil ?_))
    have rr := r₃.trans r₄
    exact hQ mx Dl Dw s₄ h1 h2 ((r₁.trans r₂).up.trans rr) l₄ h3 h4 h5 ((h6.at fun o e _ => r₂.keeps _ o e).at fun o e hd' => l₂.dk rr _ o e hd') (by
      obtain ⟨k, e⟩ := h7
      exact ⟨k, l₂.dk rr _ _ (r₂.keeps _ _ e) trivial⟩)
  refine wpD_AssignTuple (wpD_of (wpAny_Tuple (wpAny_items_cons ?_))) rfl (swapped_none (List.mem_cons_of_mem _ List.mem_cons_self) hk)
  refine call_type1 l.F (l.g.glb T) (T.none _ (by simp)) (T' := "list") (by with_unfolding_all rfl) (by decide) (by rfl) rfl ?_ (by decide)
  refine call_type2 l.F (l.g.glb T) (T.none _ (by simp)) (T' := "range") (by with_unfolding_all rfl) (by decide) (by rfl) rfl ?_ (by decide)
  refine wpAny_BinOp (call_builtin1 l.F (l.g.glb T) (T.none _ (by simp)) (id := "max") (by with_unfolding_all rfl) (by decide) (by rfl) rfl (ev_cell l.F hd (max_ints hh rd (by omega) fun s₁ t k r₁ hk hmax => ?_) (by rfl)) (by decide))
  rw [hlen] at hk hmax
  have dAt : ∀ c, c < n → (dInts dn n).getD c 0 = ((dn c : Nat) : Int) := fun c hc => by
    unfold dInts
    simp [List.getD, hc]
  rw [dAt k hk]
  have hmx : ∀ c, c < n → dn c ≤ dn k := fun c hc => by
    have := hmax c hc
    rw [dAt c hc, dAt k hk] at this
    omega
  refine wpAny_Constant_int (AutoIntOps.add_0 ?_)
  unfold Made.post
  dsimp only
  generalize hs₂ : ({ s₁ with toks := _ } : Shared) = s₂
  have r₂ : Rel noX noV s₁ s₂ := by rw [← hs₂]; exact Rel.tok
  have l₂ := (l.keep T r₁).keep T r₂
  refine (EvI.add (EvI.of (EvV.cell l₂.F hl)) EvI.const) s₂ _ _ rfl fun t3 tk3 => ?_
  refine range_of2 fun rb s₃ r₃ hg₃ hrb hr₃ => ?_
  have r₃' : Rel noX noV s₂ s₃ := (Rel.tok (tk := tk3)).trans r₃
  have hk6 := hdn k hk
  refine list_of_range (n := lN + 8 - dn k) hh hr₃ (by omega) (by omega) (by omega) (by omega) fun D s₄ r₄ hDn row => ?_
  have eL : ((List.range (lN + 8 - dn k)).map fun (i : Nat) => ((dn k : Nat) : Int) + 1 + (i : Int)) = natInts (leftInit (dn k) lN) := by
    unfold natInts leftInit
    rw [List.map_map]
    refine List.map_congr_left fun i _ => ?_
    simp
  rw [eL] at row
  have r₀₄ : Rel noX noV s s₄ := ((r₁.trans r₂).trans r₃').trans r₄
  refine wpAny_items_cons (wpAny_List (Calls.spliced_nil ⟨by show 0 ≤ sizeLine; decide, Calls.spliced_nil ⟨by show 2 ≤ sizeLine; decide, ?_⟩⟩))
  have hD : D < s₄.heap.objs.size := row.lt
  have r₅ : Rel noX noV s₄ { s₄ with heap := s₄.heap.push { cls := .type "list", data := .seq ([] : List Value).toArray } } := Rel.push (tk := s₄.toks)
  have r₆ : Rel noX noV { s₄ with heap := s₄.heap.push { cls := .type "list", data := .seq ([] : List Value).toArray } } { s₄ with heap := (s₄.heap.push { cls := .type "list", data := .seq ([] : List Value).toArray }).push { cls := .type "tuple", data := .seq ([.ref D, .ref s₄.heap.objs.size] : List Value).toArray } } := Rel.push (tk := s₄.toks)
  refine key _ _ _ (dn k) D s₄.heap.objs.size _ hmx hk6 ((r₀₄.trans r₅).trans r₆) ⟨_, Heap.get?_push_size _ rfl, rfl, 0, rfl⟩ (Heap.size_push ..) ?_ r₀₄.mono.1 (Nat.ne_of_lt hD) ((row.at fun o e _ => r₅.keeps _ o e).at fun o e _ => r₆.keeps _ o e) ⟨0, r₆.keeps _ _ (Heap.get?_push_size _ rfl)⟩
  exact Nat.le_trans ((r₁.trans r₂).trans r₃').mono.1 hDn
end
end Mine

/-! W10 -/
set_option linter.unusedVariables false
set_option maxRecDepth 100000
namespace Mine
open PySem PySem.W PyProof.Rows
open Sem (wp)

/-- a plain statement's writes, and two lists' -/
abbrev XD2 (P : Addr) (env : Env) (D D' : Addr) : Addr → Obj → Prop := fun b o => XL P env b o ∨ b = D ∨ b = D'

theorem natInts_erase : ∀ (l : List Nat) (i : Nat), (natInts l).eraseIdx i = natInts (l.eraseIdx i)
  | [], i => by simp [natInts]
  | a :: r, 0 => rfl
  | a :: r, i + 1 => by
    have := natInts_erase r i
    unfold natInts at *
    simp only [List.map_cons, List.eraseIdx_cons_succ, this]
theorem erase_perm : ∀ (l : List Nat) (i : Nat) (h : i < l.length), (l[i] :: l.eraseIdx i).Perm l
  | a :: r, 0, _ => List.Perm.refl _
  | a :: r, i + 1, h => (List.Perm.swap a _ _).trans ((erase_perm r i (by simpa using h)).cons a)
theorem natInts_append (l l' : List Nat) : natInts l ++ natInts l' = natInts (l ++ l') := by unfold natInts; rw [List.map_append]

theorem pop_perm (walk left : List Nat) (i : Nat) (hi : i < left.length) : ((walk ++ [left.getD i 0]) ++ left.eraseIdx i).Perm (walk ++ left) := by
  rw [List.append_assoc]
  refine List.Perm.append_left walk ?_
  have e : left.getD i 0 = left[i] := by simp [List.getD, hi]
  rw [e]
  exact erase_perm left i hi

theorem fmod_range {a : Int} {n : Nat} (hn : 0 < n) : 0 ≤ a.fmod (n : Int) ∧ a.fmod (n : Int) < n :=
  ⟨Int.fmod_nonneg_of_pos _ (by omega), Int.fmod_lt_of_pos _ (by omega)⟩

abbrev popFor : Stmt := lawSt 7

section
variable {prog : Program} {w : World} {A : Around} {E : Value → Shared → Prop} {s : Shared} {d u : Nat} {mg mb : Str → Option Value} {hB : Heap} {aA aR c P : Addr} {cA : Value} {env : Env} {m : Str → Option Value}

/-- for k in range(1 + cells[2] % len(left)): walk.append(left.pop(..)) -/
theorem law_s7 {ac Dl Dw : Addr} {cs : List Int} {left : List Nat} {Q : Flow → Shared → Prop} (hA : OkA A d u) (T : Txt mg mb hB aA aR c P cA) (l : LF hB c P s env m) (hin : interactive env = false)
    (hc : m (Str.ofString "cells") = some (.ref ac)) (rc : RowAt .H s.heap ac cs) (h3 : 3 ≤ cs.length) (hl : m (Str.ofString "left") = some (.ref Dl)) (rl : RowAt .H s.heap Dl (natInts left)) (hl0 : 0 < left.length) (hl8 : left.length ≤ 8)
    (hw : m (Str.ofString "walk") = some (.ref Dw)) (rw' : s.heap.PlainList Dw #[]) (hlw : Dl ≠ Dw) (hac : ac ≠ Dl ∧ ac ≠ Dw) (hBl : hB.objs.size ≤ Dl ∧ hB.objs.size ≤ Dw)
    (hQ : ∀ s' m' walk left', 0 < walk.length → walk.length ≤ left.length → (walk ++ left').Perm left → Same [Str.ofString "k"] m m' → Rel (XD2 P env Dl Dw) noV s s' → LF hB c P s' env m' → RowAt .H s'.heap Dw (natInts walk) → Q .next s') : wpD (model prog w) A (exec popFor env) Q s := by
  have ownD : ∀ D : Addr, (∃ o, s.heap.get? D = some o ∧ Dk o) → ∀ b, Own env b → b ≠ D := fun D hD b hb q => by
    obtain ⟨o, ho, hf⟩ := l.F.own_at hb
    obtain ⟨o', e, hd⟩ := hD
    rw [q, e] at ho; cases ho; exact dk_fk hd hf
  obtain ⟨ol, el, dl, _⟩ := rl.obj
  have dw : ∃ o, s.heap.get? Dw = some o ∧ Dk o := by obtain ⟨k, e⟩ := rw'; exact ⟨_, e, trivial⟩
  have ownL := ownD Dl ⟨ol, el, dl⟩
  have ownW := ownD Dw dw
  have hlen : (natInts left).length = left.length := natInts_length left
  obtain ⟨f0, f1⟩ := fmod_range (a := cs.getD 2 0) hl0
  have eLen : ∀ {s' : Shared} {m' : Str → Option Value} {lf : List Nat}, LF hB c P s' env m' → m' (Str.ofString "left") = some (.ref Dl) → RowAt .H s'.heap Dl (natInts lf) → lf.length ≤ 1000 → ∀ p p' p'', EvI (model prog w) A env s'.heap (.Call (.Name (Str.ofString "len") p) [.Name (Str.ofString "left") p'] [] p'') (lf.length : Int) := fun {s' m' lf} l' hm' r' hz p p' p'' => by
    obtain ⟨vs, hlv, hv⟩ := r'
    have hvl := ia_len hv
    rw [natInts_length] at hvl
    have := EvI.len (prog := prog) (w := w) (A := A) (p := p) (pos := p'') T l'.F l'.g (by rfl) hlv.isList (by simp; omega) (EvV.local (pos := p') l'.F hm' (by rfl))
    have e : (vs.toArray.size : Int) = (lf.length : Int) := by simp [hvl]
    rw [e] at this
    exact this
  have e2 : ∀ {s' : Shared} {m' : Str → Option Value}, LF hB c P s' env m' → m' (Str.ofString "cells") = some (.ref ac) → RowAt .H s'.heap ac cs → ∀ p p' p'', EvI (model prog w) A env s'.heap (.Subscript (.Name (Str.ofString "cells") p) (.Constant (.int 2) 0 p') p'') (cs.getD 2 0) := fun {s' m'} l' hm' r' p p' p'' =>
    EvI.row (i := 2) (EvV.cell l'.F hm') r' EvI.const (by decide) (by show 2 < _; omega) (by decide)
  refine wpD_For (wpD_Call (wpD_of (ev_builtin l.F (l.g.glb T) (T.none _ (by simp)) (v := .type "range") (by with_unfolding_all rfl) (by decide) ?_ (by rfl) (by decide))))
  refine wpD_callWith_type rfl (wpD_of (evalArgs_one rfl ?_))
  refine (EvI.add EvI.const (EvI.mod (e2 l hc rc _ _ _) (eLen l hl rl (by omega) _ _ _) (by omega))) s _ _ rfl fun t0 tk0 => ?_
  obtain ⟨K, hK⟩ : ∃ K : Nat, 1 + (cs.getD 2 0).fmod (left.length : Int) = (K : Int) := ⟨(1 + (cs.getD 2 0).fmod (left.length : Int)).toNat, by omega⟩
  rw [hK]
  have hK1 : 1 ≤ K ∧ K ≤ left.length := by omega
  refine wpD_of (range_of1 fun ra s₁ r₁ hg₁ hra hr₁ => ?_)
  obtain ⟨t1, u1, v1, hr₁⟩ := hr₁
  refine wpD_of (iter_of_range (n := K) hr₁ (by omega) (by decide) (by decide) (by omega) fun s₂ r₂ hg₂ hI => ?_)
  generalize hIeq : s₁.heap.objs.size = I at *
  have r₁₂ : Rel noX noV s s₂ := ((Rel.tok (tk := tk0)).trans r₁).trans r₂
  have hsI : s.heap.objs.size ≤ I := by rw [← hIeq]; exact r₁.mono.1
  have hBI : hB.objs.size ≤ I := Nat.le_trans l.base hsI
  have hlI : I ≠ Dl := Nat.ne_of_gt (Nat.lt_of_lt_of_le rl.lt hsI)
  have hwI : I ≠ Dw := Nat.ne_of_gt (Nat.lt_of_lt_of_le (by obtain ⟨o, e, _⟩ := dw; exact Heap.lt_size e) hsI)
  have ownI : ∀ b, Own env b → b ≠ I := fun b hb q => by
    have := l.F.own_lt hb
    rw [q] at this
    exact Nat.lt_irrefl _ (Nat.lt_of_lt_of_le this hsI)
  have dk : ∀ {s' : Shared}, Rel (XD2 P env Dl Dw) noV s s' → ∀ b o, s.heap.get? b = some o → Dk o → b ≠ Dl → b ≠ Dw → s'.heap.get? b = some o := fun {s'} rel b o e hd h1 h2 => rel.heap b o e fun q => by
    rcases q with (q | q) | q | q
    · subst q; exact l.g.notDk e hd
    · exact dk_fk hd q.2
    · exact h1 q
    · exact h2 q
  refine codeD_forRange (a := 0) (n := K) hA.handled (fun i s' => ∃ m' walk left', walk.length = i ∧ (walk ++ left').Perm left ∧ Same [Str.ofString "k"] m m' ∧ Rel (XD2 P env Dl Dw) noV s s' ∧ LF hB c P s' env m' ∧ RowAt .H s'.heap Dw (natInts walk) ∧ RowAt .H s'.heap Dl (natInts left') ∧ IsRangeIter s'.heap I (0 + (i : Int)) ((K : Int) - i) 1)
    ⟨m, [], left, rfl, List.Perm.refl _, Same.refl _ _, r₁₂.up, l.keep T r₁₂, ⟨[], rw'.at fun o e => r₁₂.keeps _ o e, .nil⟩, rl.at fun o e _ => r₁₂.keeps _ o e, by simpa using hI⟩ (fun i s' hi hJ => ?_) (fun i s' hi hJ s₃ t r₃ hI₃ => ?_) fun s' s₃ hJ r₃ => ?_
  · obtain ⟨m', walk, left', _, _, _, _, _, _, _, h⟩ := hJ; exact h
  · obtain ⟨m', walk, left', w1, w2, q1, q2, q3, q4, q5, hIs⟩ := hJ
    have nDI : ∀ b (o : Obj), s'.heap.get? b = some o → Dk o → s₃.heap.get? b = some o := fun b o e hd' => r₃.heap b o e fun q => by
      subst q
      have hIs' : s'.heap.get? b = some _ := hIs
      rw [hIs'] at e; cases e; exact hd'
    have l₃ : LF hB c P s₃ env m' := ⟨q3.F.rel r₃ fun b o q hb _ => ownI b hb q, q3.g.rel T r₃ fun b o q => q ▸ hBI, q3.own⟩
    have rel₃ : Rel (XD2 P env Dl Dw) noV s s₃ := q2.tf r₃ (fun b o q => .inl (q ▸ hsI)) fun k q => q.elim
    rw [Int.zero_add]
    refine wpD_of (l₃.store_local T (by rfl) fun s₄ r₄ l₄ => ?_)
    have S₄ := q1.upd (x := Str.ofString "k") (v := .int (i : Int) t) (by simp)
    have at4 : ∀ y, y ∉ [Str.ofString "k"] → upd m' (Str.ofString "k") (.int (i : Int) t) y = m y := fun y hy => S₄ y hy
    have rel₄ : Rel (XD2 P env Dl Dw) noV s s₄ := rel₃.trans (r₄.weak (fun b o q => .inl q) fun _ q => q)
    have hI₄ : IsRangeIter s₄.heap I (0 + ((i + 1 : Nat) : Int)) ((K : Int) - ((i + 1 : Nat) : Int)) 1 := l₃.fields T r₄ hBI hI₃ trivial
    have rW : RowAt .H s₄.heap Dw (natInts walk) := (q4.at fun o e hd' => nDI _ o e hd').at fun o e hd' => l₃.dk r₄ _ o e hd'
    have rL : RowAt .H s₄.heap Dl (natInts left') := (q5.at fun o e hd' => nDI _ o e hd').at fun o e hd' => l₃.dk r₄ _ o e hd'
    have rC : RowAt .H s₄.heap ac cs := rc.at fun o e hd' => dk rel₄ _ o e hd' hac.1 hac.2
    have lens : walk.length + left'.length = left.length := by rw [← List.length_append]; exact w2.length_eq
    have hll : 0 < left'.length := by omega
    obtain ⟨vw, hvw, iw⟩ := rW
    refine wpD_seq (wpD_ExprNone (wpD_method rfl F.slot_list_append F.type_list_append rfl (wpD_of (ev_cell l₄.F ((at4 _ (by decide)).trans hw) ⟨Dw, vw.toArray, rfl, hvw, ?_⟩ (by rfl)))) hin)
    obtain ⟨vl, hvl, il⟩ := id rL
    have hvlen := ia_len il
    rw [natInts_length] at hvlen
    refine wpD_method rfl F.slot_list_pop F.type_list_pop rfl (wpD_of (ev_local l₄.F ((at4 _ (by decide)).trans hl) ⟨Dl, vl.toArray, rfl, hvl, ?_⟩ (by rfl)))
    have b7 : (7 : Int) ^ i ≠ 0 ∧ ((7 : Int) ^ i).natAbs < 1073741824 := by
      have h1 : (1 : Nat) ≤ 7 ^ i := Nat.one_le_pow _ _ (by decide)
      have h2 : (7 : Nat) ^ i ≤ 7 ^ 8 := Nat.pow_le_pow_right (by decide) (by omega)
      have e : ((7 ^ i : Nat) : Int) = (7 : Int) ^ i := by simp
      rw [← e]
      have : (7 : Nat) ^ 8 = 5764801 := by decide
      omega
    obtain ⟨g0, g1⟩ := fmod_range (a := ((cs.getD 2 0).fdiv 8).fdiv (7 ^ i)) hll
    refine wpD_of ((EvI.mod (EvI.div (EvI.div (e2 l₄ ((at4 _ (by decide)).trans hc) rC _ _ _) EvI.const (by decide) (by decide)) (EvI.pow (n := i) EvI.const (EvI.of (EvV.local l₄.F upd_self)) (by decide) (by decide) (by omega)) b7.1 b7.2) (eLen l₄ ((at4 _ (by decide)).trans hl) rL (by omega) _ _ _) (by omega)) s₄ _ _ rfl fun t5 tk5 => ?_)
    generalize hidx : (((cs.getD 2 0).fdiv 8).fdiv (7 ^ i)).fmod (left'.length : Int) = idx at *
    have hidxlt : idx.toNat < left'.length := by omega
    obtain ⟨_, hgetv⟩ := intsAre_at il
    obtain ⟨tv, ev⟩ := hgetv idx.toNat (by rw [natInts_length]; exact hidxlt)
    rw [natInts_getD] at ev
    have hx : vl[idx.toNat]? = some (.int ((left'.getD idx.toNat 0 : Nat) : Int) tv) := by
      rw [← ev]
      simp [List.getD, show idx.toNat < vl.length by omega]
    refine wpD_of (pop_plain (s := { s₄ with toks := tk5 }) hvl g0 (by omega) (by omega) (by omega) hx fun h' hl' hs' => ?_)
    have r₅ : Rel (fun b _ => b = Dl) noV s₄ { s₄ with toks := tk5, heap := h' } := ⟨fun b o e q => hs'.extBut b o q e, ⟨Nat.le_of_eq hs'.1.symm, Nat.le_refl _⟩, fun _ _ _ e => e, fun x => x, rfl⟩
    have hvw₅ : h'.PlainList Dw vw.toArray := hvw.at fun o e => r₅.heap _ o e fun q => hlw q.symm
    refine wpD_of (wpAny_list_append_plain (s := { s₄ with toks := tk5, heap := h' }) hvw₅ (fun h₂ hw₂ hs₂ => ?_) ?_)
    · have r₆ : Rel (fun b _ => b = Dw) noV { s₄ with toks := tk5, heap := h' } { s₄ with toks := tk5, heap := h₂ } := ⟨fun b o e q => hs₂.extBut b o q e, ⟨Nat.le_of_eq hs₂.1.symm, Nat.le_refl _⟩, fun _ _ _ e => e, fun x => x, rfl⟩
      have l₅ : LF hB c P { s₄ with toks := tk5, heap := h' } env (upd m' (Str.ofString "k") (.int (i : Int) t)) := ⟨l₄.F.rel r₅ fun b o q hb _ => ownL b hb q, l₄.g.rel T r₅ fun b o q => q ▸ hBl.1, l₄.own⟩
      have l₆ : LF hB c P { s₄ with toks := tk5, heap := h₂ } env (upd m' (Str.ofString "k") (.int (i : Int) t)) := ⟨l₅.F.rel r₆ fun b o q hb _ => ownW b hb q, l₅.g.rel T r₆ fun b o q => q ▸ hBl.2, l₅.own⟩
      refine ⟨rfl, rfl, wpD_nil ⟨rfl, _, walk ++ [left'.getD idx.toNat 0], left'.eraseIdx idx.toNat, by simp [w1], (pop_perm walk left' idx.toNat hidxlt).trans w2, S₄, (rel₄.trans (r₅.weak (fun b o q => .inr (.inl q)) fun _ q => q)).trans (r₆.weak (fun b o q => .inr (.inr q)) fun _ q => q), l₆, ?_, ?_, ?_⟩⟩
      · refine ⟨vw ++ [.int ((left'.getD idx.toNat 0 : Nat) : Int) tv], by simpa using hw₂, ?_⟩
        rw [← natInts_append]
        exact ia_append iw (.cons _ _ .nil)
      · refine ⟨vl.eraseIdx idx.toNat, hl'.at fun o e => r₆.heap _ o e fun q => hlw q, ?_⟩
        rw [← natInts_erase]
        exact ia_erase _ il
      · exact r₆.heap _ _ (r₅.heap _ _ hI₄ fun q => hlI q) fun q => hwI q
    · have : sizeLine ≥ 1000 := by decide
      have hwl := ia_len iw
      rw [natInts_length] at hwl
      simp; omega
  · obtain ⟨m', walk, left', w1, w2, q1, q2, q3, q4, q5, hIs⟩ := hJ
    have nDI : ∀ b (o : Obj), s'.heap.get? b = some o → Dk o → s₃.heap.get? b = some o := fun b o e hd' => r₃.heap b o e fun q => by
      subst q
      have hIs' : s'.heap.get? b = some _ := hIs
      rw [hIs'] at e; cases e; exact hd'
    exact hQ s₃ m' walk left' (by omega) (by omega) w2 q1 (q2.tf r₃ (fun b o q => .inl (q ▸ hsI)) fun k q => q.elim) ⟨q3.F.rel r₃ fun b o q hb _ => ownI b hb q, q3.g.rel T r₃ fun b o q => q ▸ hBI, q3.own⟩ (q4.at fun o e hd' => nDI _ o e hd')
end
end Mine

/-! W11 -/
set_option linter.unusedVariables false
set_option maxRecDepth 100000
namespace Mine
open PySem PySem.W PyProof.Rows
open Sem (wp)

abbrev resc1C : Expr := callArg 1 (callArg 0 (asgVal (lawSt 8)))
theorem resc1_ok : ScOk lawSc (gxScope resc1C) := ⟨by with_unfolding_all rfl, by decide +kernel, by decide +kernel, by decide +kernel⟩

section
variable {prog : Program} {w : World} {A : Around} {E : Value → Shared → Prop} {s : Shared} {d u : Nat} {mg mb : Str → Option Value} {hB : Heap} {aA aR c P : Addr} {cA : Value} {env : Env} {m : Str → Option Value} {ks : Kd} {xss : List (List Int)} {L t : Nat} {ds : List Nat}

/-- list(rescale_rows(e1, e2)) -/
theorem now_value {e₁ e₂ : Expr} {p1 p2 pos pos2 : Pos} {Q : Value → Shared → Prop} (hA : OkA A d u) (hd : d < 350) (T : Txt mg mb hB aA aR c P cA) (l : LF hB c P s env m) (hp : starEach [e₁, e₂] env = [(false, eval e₁ env), (false, eval e₂ env)])
    (hp1 : starEach [.Call (.Name (Str.ofString "rescale_rows") p2) [e₁, e₂] [] pos2] env = [(false, eval (.Call (.Name (Str.ofString "rescale_rows") p2) [e₁, e₂] [] pos2) env)])
    (h : wpD (model prog w) A (eval e₁ env) (fun v₁ s₁ => wpD (model prog w) A (eval e₂ env) (fun v₂ s₂ => ∃ ax ar, v₁ = .ref ax ∧ v₂ = .ref ar ∧ Rel noX noV s s₂ ∧ RowsAt ks s₂.heap ax xss ∧ RescAt s₂.heap ar ds t ∧
      ∀ D s', Rel (fun b _ => b = P) noV s₂ s' → GS hB c P s'.heap → RowsAt (kdOf t) s'.heap D (outOf (psOf ds t) xss) → Q (.ref D) s') s₁) s) (ok : ArgsOk ds t xss L) (kk : kdOf t = .H → ks = .H) :
    wpD (model prog w) A (eval (.Call (.Name (Str.ofString "list") p1) [.Call (.Name (Str.ofString "rescale_rows") p2) [e₁, e₂] [] pos2] [] pos) env) Q s := by
  refine wpD_Call (wpD_of (ev_builtin l.F (l.g.glb T) (T.none _ (by simp)) (v := .type "list") (by with_unfolding_all rfl) (by decide) ?_ (by rfl) (by decide)))
  refine wpD_callWith_type (by rw [hp1]; rfl) (evalArgsD_one hp1 ?_)
  refine wpD_Call (wpD_of (ev_global l.F (l.g.glb T) T.rscG ?_ (by rfl)))
  obtain ⟨o, pm, doc, dV, kV, h1, h2, _⟩ := T.rsc.obj
  obtain ⟨fdR, hfd⟩ : ∃ fd, o.data = .func fd := ⟨_, h2⟩
  refine wpD_callWith_fun (o := o) (fd := fdR) (by rw [hp]; rfl) (evalArgsD_two hp (wpD_mono h fun v₁ s₁ h₁ => wpD_mono h₁ fun v₂ s₂ h₂ => ?_))
  obtain ⟨ax, ar, rfl, rfl, r₂, rows, resc, hQ⟩ := h₂
  have l₂ := l.keep T r₂
  refine ⟨⟨l₂.g.keep aR o (by rw [h2]; simp) h1, hfd⟩, ?_⟩
  exact rescale_list hA (by omega) T l₂.g l₂.base rows resc ok kk hQ

/-- now = list(rescale_rows(rows, [(depth, walk[0]) for depth in depths])) -/
theorem law_s8 {Dr ad Dw : Addr} {dn : Nat → Nat} {n : Nat} {walk : List Nat} {Q : Flow → Shared → Prop} (hA : OkA A d u) (hd : d < 350) (T : Txt mg mb hB aA aR c P cA) (l : LF hB c P s env m)
    (hrows : m (Str.ofString "rows") = some (.ref Dr)) (rows : RowsAt .H s.heap Dr xss) (hdp : m (Str.ofString "depths") = some (.ref ad)) (rd : RowAt .H s.heap ad (dInts dn n)) (hn3 : n ≤ 3)
    (hw : m (Str.ofString "walk") = some (.ref Dw)) (rw' : RowAt .H s.heap Dw (natInts walk)) (hw0 : 0 < walk.length) (ok : ArgsOk ((List.range n).map dn) (walk.getD 0 0) xss L)
    (hQ : ∀ D s', Rel (XL P env) noV s s' → LF hB c P s' env (upd m (Str.ofString "now") (.ref D)) → RowsAt (kdOf (walk.getD 0 0)) s'.heap D (outOf (psOf ((List.range n).map dn) (walk.getD 0 0)) xss) → Q .next s') :
    wpD (model prog w) A (exec (lawSt 8) env) Q s := by
  refine wpD_Assign (now_value (ks := .H) (ds := (List.range n).map dn) (t := walk.getD 0 0) hA hd T l rfl rfl ?_ ok fun _ => rfl)
  refine wpD_of (ev_local l.F hrows ?_ rfl)
  obtain ⟨vs, hl, hv⟩ := rd
  obtain ⟨l1, l2⟩ := intsAre_at hv
  have hlen : (dInts dn n).length = n := by simp [dInts]
  have hsl : vs.length ≤ sizeLine := by
    have : sizeLine ≥ 1000 := by decide
    omega
  refine wpD_LC_list (m := m) (sc := lawSc) resc1_ok hA.handled (wpD_of (ev_cell l.F hdp ⟨ad, vs, rfl, hl.isList, hsl, l.F, fun hi hhi => ?_⟩ (by rfl)))
  refine ⟨fun i ys s' => ys.length = i ∧ ∀ j, j < i → ∃ ta u' v' n', hi ≤ ta ∧ ys[j]? = some (.ref ta) ∧ s'.heap.get? ta = some { cls := .type "tuple", data := .seq #[.int ((dn j : Nat) : Int) u', .int ((walk.getD 0 0 : Nat) : Int) v'] n' },
    fun i ys s₁ s₂ hJ r => ⟨hJ.1, fun j hj => ?_⟩, fun s₁ r => ⟨rfl, fun j hj => absurd hj (Nat.not_lt_zero _)⟩, fun i ys v cenv s₁ hv' hy hJ hz r F₁ => ?_, fun ys s₁ D hy hJ h1 h2 r hpl => ?_⟩
  · obtain ⟨ta, u', v', n', q0, q1, q2⟩ := hJ.2 j hj
    exact ⟨ta, u', v', n', q0, q1, r.heap _ _ q2 fun q => Nat.lt_irrefl _ (Nat.lt_of_lt_of_le q.2 q0)⟩
  · have hi' : i < vs.length := by
      rcases Nat.lt_or_ge i vs.length with h | h
      · exact h
      · rw [List.getElem?_eq_none h] at hv'; cases hv'
    have hin : i < n := by omega
    obtain ⟨td, ed⟩ := l2 i (by omega)
    have hvd : v = .int ((dn i : Nat) : Int) td := by
      have e : (dInts dn n).getD i 0 = ((dn i : Nat) : Int) := by
        unfold dInts
        simp [List.getD, hin]
      rw [e] at ed
      rw [← ed]
      simp [List.getD, hv']
    subst hvd
    have rw₁ : RowAt .H s₁.heap Dw (natInts walk) := rw'.at fun o e _ => r.keeps _ o e
    have hwm : upd (freeMap (gxScope resc1C) m) (Str.ofString "depth") (.int ((dn i : Nat) : Int) td) (Str.ofString "walk") = some (.ref Dw) := (free_at (by decide +kernel) (by decide)).trans hw
    refine wpD_of (wpAny_Tuple (wpAny_items_cons (ev_local F₁ upd_self ?_ (by rfl))))
    have e0 : (natInts walk).getD 0 0 = ((walk.getD 0 0 : Nat) : Int) := natInts_getD walk 0
    have evw := EvI.row (prog := prog) (w := w) (A := A) (i := 0) (pos := default) (EvV.cell (pos := default) F₁ hwm) rw₁ (EvI.const (k := 0) (pos := default)) (by decide) (by rw [natInts_length]; exact hw0) (by decide)
    refine wpAny_items_cons ((EvI.row (i := 0) (EvV.cell F₁ hwm) rw₁ EvI.const (by decide) (by rw [natInts_length]; exact hw0) (by decide)) s₁ _ _ rfl fun t2 tk2 => ?_)
    refine Calls.spliced_nil ⟨by show 2 ≤ sizeLine; decide, Rel.push (tk := tk2), by rw [List.length_append, hJ.1]; rfl, fun j hj => ?_⟩
    by_cases hji : j < i
    · obtain ⟨ta', t', u', n', q0, q1, q2⟩ := hJ.2 j hji
      exact ⟨ta', t', u', n', q0, by rw [List.getElem?_append_left (by omega)]; exact q1, Heap.get?_push_of_some _ q2⟩
    · have : j = i := by omega
      subst this
      refine ⟨_, td, t2, 0, hz, by rw [List.getElem?_append_right (by omega), hJ.1]; simp, ?_⟩
      rw [← e0]
      exact Heap.get?_push_size _ rfl
  · refine ⟨Dr, D, rfl, rfl, r, rows.at fun b o e _ => r.keeps b o e, ⟨ys, hpl.isList, by rw [hJ.1, l1, hlen]; simp, fun j hj => ?_⟩, fun D' s' r' g' hr => ?_⟩
    · have hj' : j < n := by simpa using hj
      obtain ⟨ta, u', v', n', q0, q1, q2⟩ := hJ.2 j (by rw [l1, hlen]; exact hj')
      refine ⟨ta, u', v', q1, _, q2, rfl, n', ?_⟩
      have : ((List.range n).map dn).getD j 0 = dn j := by simp [List.getD, hj']
      rw [this]
    · have l' := (l.keep T r).step T r' g'
      refine wpD_of (l'.store_local T (by rfl) fun s'' r'' l'' => ?_)
      exact hQ D' s'' ((r.up.trans (r'.weak (fun b o q => .inl q) fun _ q => q)).trans r'') l'' (hr.at fun b o e hd' => l'.dk r'' b o e hd')
end
end Mine

/-! W12 -/
set_option linter.unusedVariables false
set_option maxRecDepth 100000
namespace Mine
open PySem PySem.W PyProof.Rows
open Sem (wp)

theorem fold_rep (v : Value) : ∀ (n : Nat) (acc : Array Value), List.foldl (fun x1 x2 => x1 ++ x2) acc (List.replicate n #[v]) = acc ++ (List.replicate n v).toArray
  | 0, acc => by simp
  | n + 1, acc => by
    rw [List.replicate_succ, List.foldl_cons, fold_rep v n, List.replicate_succ]
    apply Array.toList_inj.mp
    simp

section
variable {prog : Program} {w : World} {A : Around} {E : Value → Shared → Prop} {s : Shared} {d u : Nat} {mg mb : Str → Option Value} {hB : Heap} {aA aR c P : Addr} {cA : Value} {env : Env} {m : Str → Option Value}

theorem mul_one_list {l : Addr} {v : Value} {k n : Nat} {x : Int} {t : Tok} {Q : Value → Shared → Prop} (hx : x = (n : Int)) (hl : s.heap.get? l = some { cls := .type "list", dict := none, data := .seq #[v] k, slots := #[] }) (hn : n ≤ 1000)
    (h : Q (.ref s.heap.objs.size) { s with heap := s.heap.push { cls := .type "list", data := .seq (List.replicate n v).toArray } }) : wpAny (model prog w) A (binaryOp .Mult (.ref l) (.int x t)) Q E s := by
  have hxn : x.toNat = n := by rw [hx, Int.toNat_natCast]
  have hlo : -(2 ^ 63 : Int) ≤ x := by omega
  have hhi : x < 2 ^ 63 := by omega
  have hsz : (#[v] : Array Value).size * x.toNat ≤ 2 ^ 24 := by rw [hxn]; show 1 * n ≤ _; omega
  have e : List.foldl (fun x1 x2 => x1 ++ x2) #[] (List.replicate (if (#[v] : Array Value).isEmpty = true then 0 else x.toNat) #[v]) = (List.replicate n v).toArray := by
    rw [if_neg (by simp), hxn, fold_rep]
    simp
  clear hx hxn
  generalize hit : (#[v] : Array Value) = items at *
  exact wpAny_binaryOp_repeat_ref (T := "list") (U := "int") (by decide) ⟨_, hl, rfl⟩ (fun s' => typeIs_int s' x t) noFill_list_mul F.fills_int_mul F.slot_int_rmul repeat_list F.slot_int_index.lookup
    (call_meets F.slot_int_rmul (typeIs_int s x t) F.entry_int_rmul (F.args_int_rmul_2 _ _) (int___rmul___int_list x t l items k)
      ⟨hl, rfl, ⟨_, hl, rfl⟩, call_meets F.slot_list_mul ⟨_, hl, rfl⟩ F.entry_list_mul (F.args_list_mul_2 _ _)
        (AutoListH.list___mul___list_int_3 l items k x t (by simp [Builtin.List.listFitsIndex]; omega) (by omega) (by simp [Builtin.List.listTooLong, sizeLine]; omega))
        ⟨hl, e ▸ h⟩⟩)

theorem assign_two {T' : Addr} {vx vy : Value} {k : Nat} {p p1 p2 : Pos} {Q : Unit → Shared → Prop} (hh : A.handled = none) (T : Txt mg mb hB aA aR c P cA) (l : LF hB c P s env m) (hT : s.heap.IsTuple T' #[vx, vy])
    (hQ : ∀ s', Rel (XL P env) noV s s' → LF hB c P s' env (upd (upd m (Str.ofString "one") vx) (Str.ofString "two") vy) → Q () s') :
    wpD (model prog w) A (assign (.Tuple [.Name (Str.ofString "one") p1, .Name (Str.ofString "two") p2] k p) env (.ref T')) Q s := by
  refine wpD_grow (wpD_of (wpAny_assign_Tuple hh hT rfl rfl fun h' hx => ?_))
  have keep : ∀ b o, s.heap.get? b = some o → h'.get? b = some o := fun b o e => hx b o (Nat.ne_of_lt (Heap.lt_size e)) e
  have F' : Frm lawSc env h' m := l.F.moved fun b o e _ _ => keep b o e
  refine assign_cons (wpAny_assign_Name (Mine.store_local (s := { s with heap := h' }) (V := noV) F' (fun s₁ r₁ F₁ => ?_) (by rfl)))
  refine assign_cons (wpAny_assign_Name (Mine.store_local (V := noV) F₁ (fun s₂ r₂ F₂ => assign_nil ?_) (by rfl)))
  intro mz
  have xl : ∀ b o, s.heap.get? b = some o → ¬ XL P env b o → b ≠ env.locals := fun b o e n q => by
    obtain ⟨o', e', f⟩ := l.F.own_at (b := b) (.inl q)
    rw [e] at e'; cases e'
    exact n (.inr ⟨.inl q, f⟩)
  have r : Rel (XL P env) noV s s₂ := ⟨fun b o e n => r₂.heap b o (r₁.heap b o (keep b o e) (xl b o e n)) (xl b o e n), mz, fun k' x hk e => r₂.gens k' x hk (r₁.gens k' x hk e), fun hb => r₂.bare (r₁.bare hb), r₂.os.trans r₁.os⟩
  have r' : Rel (OwnX env) noV s s₂ := ⟨fun b o e n => r₂.heap b o (r₁.heap b o (keep b o e) (fun q => by
    obtain ⟨o', e', f⟩ := l.F.own_at (b := b) (.inl q)
    rw [e] at e'; cases e'
    exact n ⟨.inl q, f⟩)) (fun q => by
    obtain ⟨o', e', f⟩ := l.F.own_at (b := b) (.inl q)
    rw [e] at e'; cases e'
    exact n ⟨.inl q, f⟩), mz, r.gens, r.bare, r.os⟩
  exact hQ s₂ r ⟨F₂, l.g.rel T r' fun b o q => l.own b q.1, l.own⟩

theorem RowAt.at2 {k : Kd} {h h' : Heap} {a : Addr} {xs : List Int} (r : RowAt k h a xs) (hk : ∀ o, h.get? a = some o → Dk o → o.cls ≠ .type "tuple" → h'.get? a = some o) : RowAt k h' a xs := by
  cases k with
  | B => obtain ⟨bs, e, hb⟩ := r; exact ⟨bs, hk _ e trivial (by simp), hb⟩
  | H => obtain ⟨vs, ⟨n, e⟩, hi⟩ := r; exact ⟨vs, ⟨n, hk _ e trivial (by simp)⟩, hi⟩
theorem RowsAt.at2 {ks : Kd} {h h' : Heap} {ax : Addr} {xss : List (List Int)} (x : RowsAt ks h ax xss) (hk : ∀ b o, h.get? b = some o → Dk o → o.cls ≠ .type "tuple" → h'.get? b = some o) : RowsAt ks h' ax xss := by
  obtain ⟨refs, ⟨n, e⟩, hl, hr⟩ := x
  exact ⟨refs, ⟨n, hk _ _ e trivial (by simp)⟩, hl, fun j hj => let ⟨a, e1, e2⟩ := hr j hj; ⟨a, e1, e2.at2 fun o e hd hc => hk _ o e hd hc⟩⟩

theorem zip_apart {b p q : Nat} (h1 : p < b) (h2 : q < b) : ZipApart (b + 4) (b + 2) (b + 3) b (b + 1) p q := by
  constructor <;> (show ((_ : Nat) ≠ (_ : Nat))) <;> omega

abbrev zipFor : Stmt := lawSt 9

/-- for one, two in zip(walk, walk[1:]): now = list(rescale_rows(now, [(one, two)] * planes)) -/
theorem law_s9 {Dw D₀ : Addr} {n L : Nat} {tp : Tok} {walk : List Nat} {cur₀ : List (List Int)} {Math : Nat → List (List Int) → Prop} {Q : Flow → Shared → Prop} (hA : OkA A d u) (hd : d < 350) (T : Txt mg mb hB aA aR c P cA) (l : LF hB c P s env m)
    (hp : m (Str.ofString "planes") = some (.int (n : Int) tp)) (hn3 : n ≤ 3) (hw : m (Str.ofString "walk") = some (.ref Dw)) (rw' : RowAt .H s.heap Dw (natInts walk)) (hw0 : 0 < walk.length) (hw8 : walk.length ≤ 8)
    (hnow : m (Str.ofString "now") = some (.ref D₀)) (rn : RowsAt (kdOf (walk.getD 0 0)) s.heap D₀ cur₀) (m0 : Math 0 cur₀)
    (step : ∀ i cur, i + 1 < walk.length → Math i cur → ArgsOk (List.replicate n (walk.getD i 0)) (walk.getD (i + 1) 0) cur L ∧ (kdOf (walk.getD (i + 1) 0) = .H → kdOf (walk.getD i 0) = .H) ∧
      Math (i + 1) (outOf (psOf (List.replicate n (walk.getD i 0)) (walk.getD (i + 1) 0)) cur))
    (hQ : ∀ s' m' D cur, Same [Str.ofString "one", Str.ofString "two", Str.ofString "now"] m m' → Rel (XL P env) noV s s' → LF hB c P s' env m' → m' (Str.ofString "now") = some (.ref D) → RowsAt (kdOf (walk.getD (walk.length - 1) 0)) s'.heap D cur → Math (walk.length - 1) cur → Q .next s') :
    wpD (model prog w) A (exec zipFor env) Q s := by
  obtain ⟨vs, hl, hv⟩ := rw'
  obtain ⟨l1, l2⟩ := intsAre_at hv
  rw [natInts_length] at l1 l2
  refine wpD_For (wpD_of (call_type2 l.F (l.g.glb T) (T.none _ (by simp)) (T' := "zip") (by with_unfolding_all rfl) (by decide) (by rfl) rfl (ev_cell l.F hw ?_ (by rfl)) (by decide)))
  refine slice_of_list (la := Dw) (vs := vs) (lo := some ((1 : Nat) : Int)) (hi := none) (ev_cell l.F hw ⟨rfl, hl.isList, ?_⟩ (by rfl))
  rw [evalPart_some]
  refine wpAny_Constant_int (wpAny_pure ⟨.int _ _, .none, hl.isList, by omega, fun l₂ s₁ r₁ hg₁ hD₁ hlo₁ => ?_⟩)
  have e1 : slicePick vs.toArray (some ((1 : Nat) : Int)) none none = (vs.drop 1).toArray := slicePick_from' vs.toArray 1
  rw [e1] at hD₁
  have r₁' : Rel noX noV s s₁ := (Rel.tok (tk := s.toks + 1)).trans r₁
  have hl₁ : s₁.heap.IsList Dw vs.toArray := (hl.at fun o e => r₁'.keeps _ o e).isList
  refine wpAny_grow (call_zip_2 hl₁ hD₁.isList fun h' z1 z2 z3 z4 z5 z6 hk => ?_)
  intro mz
  have r₂ : Rel noX noV s₁ { s₁ with heap := h' } := Rel.only (tk := s₁.toks) (fun b o e _ => hk b o e) mz.1
  have r₁₂ := r₁'.trans r₂
  have hss : s.heap.objs.size ≤ s₁.heap.objs.size := r₁'.mono.1
  have hvl : vs.length = walk.length := l1
  generalize hb : s₁.heap.objs.size = b at *
  have hDwb : Dw < b := by
    have := Heap.lt_size (show s₁.heap.get? Dw = some _ from (hl.at fun o e => r₁'.keeps _ o e).choose_spec)
    rw [hb] at this; exact this
  have hl2b : l₂ < b := by
    have := Heap.lt_size (show s₁.heap.get? l₂ = some _ from hD₁.choose_spec)
    rw [hb] at this; exact this
  have hBb : hB.objs.size ≤ b := Nat.le_trans l.base hss
  refine wpD_of (wpAny_pyIter_zip z1 ?_)
  have DA := zip_apart hDwb hl2b
  have W := fun (A' : Around) (hA' : A'.handled = none) => WalksT.zip2 (prog := prog) (w := w) (A := A') hA' (b + 4) (b + 2) (b + 3) b (b + 1) Dw l₂ DA vs.toArray (vs.drop 1).toArray
  generalize hSt : (fun (i : Nat) (h : Heap) => IsZip h (b + 4) (b + 2) (b + 3) .none ∧ IsPair h (b + 2) (.ref b) (.ref (b + 1)) ∧ (∃ x y, IsPair h (b + 3) x y) ∧ h.IsListIter b Dw i ∧ h.IsListIter (b + 1) l₂ i ∧ h.IsList Dw vs.toArray ∧ h.IsList l₂ (vs.drop 1).toArray) = St at W
  have hN : min vs.toArray.size (vs.drop 1).toArray.size = walk.length - 1 := by simp [hvl]
  rw [hN] at W
  -- the walk is kept by plain statements
  have stab : ∀ i (s s' : Shared) m', LF hB c P s env m' → St i s.heap → Rel (XL P env) noV s s' → St i s'.heap := fun i s s' m' l' st r => by
    subst hSt
    obtain ⟨q1, q2, ⟨x, y, q3⟩, ⟨o4, e4, c4, d4⟩, ⟨o5, e5, c5, d5⟩, ⟨o6, e6, c6, n6, d6⟩, ⟨o7, e7, c7, n7, d7⟩⟩ := st
    refine ⟨l'.fields T r (Nat.le_trans hBb (Nat.le_add_right b 4)) q1 trivial, l'.dk r _ _ q2 trivial, ⟨x, y, l'.dk r _ _ q3 trivial⟩, ⟨o4, l'.fields T r hBb e4 (by unfold Ik; rw [d4]; trivial), c4, d4⟩, ⟨o5, l'.fields T r (Nat.le_trans hBb (Nat.le_succ b)) e5 (by unfold Ik; rw [d5]; trivial), c5, d5⟩,
      ⟨o6, l'.dk r _ _ e6 (by unfold Dk; rw [d6]; trivial), c6, n6, d6⟩, ⟨o7, l'.dk r _ _ e7 (by unfold Dk; rw [d7]; trivial), c7, n7, d7⟩⟩
  have hwr : ∀ x : Nat, x ∈ [b + 4, b + 3, b, b + 1] → b ≤ x := fun x hx => by
    simp only [List.mem_cons, List.not_mem_nil, or_false] at hx
    omega
  have wAt : ∀ i, i < walk.length → ∃ t, vs[i]? = some (.int ((walk.getD i 0 : Nat) : Int) t) := fun i hi => by
    obtain ⟨t, e⟩ := l2 i hi
    rw [natInts_getD] at e
    refine ⟨t, ?_⟩
    rw [← e]
    simp [List.getD, show i < vs.length by omega]
  have st₀ : St 0 h' := by
    subst hSt
    exact ⟨z1, z2, ⟨_, _, z3⟩, z4, z5, hl₁.at fun o e => hk _ o e, hD₁.isList.at fun o e => hk _ o e⟩
  have D0 : RowsAt (kdOf (walk.getD 0 0)) h' D₀ cur₀ := rn.at fun b o e _ => r₁₂.keeps b o e
  refine codeD_forLoop (fun k s' => ∃ i m' D cur, i ≤ walk.length - 1 ∧ k = walk.length - i ∧ Same [Str.ofString "one", Str.ofString "two", Str.ofString "now"] m m' ∧ Rel (XL P env) noV s s' ∧ LF hB c P s' env m' ∧ m' (Str.ofString "now") = some (.ref D) ∧ RowsAt (kdOf (walk.getD i 0)) s'.heap D cur ∧ Math i cur ∧ St i s'.heap)
    (fun k s' hI => ?_) walk.length ⟨0, m, D₀, cur₀, Nat.zero_le _, rfl, Same.refl _ _, r₁₂.up, l.keep T r₁₂, hnow, D0, m0, st₀⟩
  obtain ⟨i, m', D, cur, hi, rfl, S', rel, l', hnow', rn', math, st⟩ := hI
  have bEx : ∀ {s₁ s₂ : Shared}, (∀ b' o, b' ∉ [b + 4, b + 3, b, b + 1] → s₁.heap.get? b' = some o → s₂.heap.get? b' = some o) → Mono s₁ s₂ → s₂.gens = s₁.gens → s₂.os = s₁.os → Rel (fun b' _ => b' ∈ [b + 4, b + 3, b, b + 1]) noV s₁ s₂ := fun hk mz hg ho =>
    ⟨fun b' o e n => hk b' o n e, mz, fun k x _ e => by rw [hg]; exact e, fun hb => by rw [hg]; exact hb, ho⟩
  have notW : ∀ b' o, s'.heap.get? b' = some o → Dk o → o.cls ≠ .type "tuple" → b' ∉ [b + 4, b + 3, b, b + 1] := fun b' o e hd' hc hm => by
    subst hSt
    obtain ⟨q1, q2, ⟨x, y, q3⟩, ⟨o4, e4, c4, d4⟩, ⟨o5, e5, c5, d5⟩, _⟩ := st
    simp only [List.mem_cons, List.not_mem_nil, or_false] at hm
    rcases hm with rfl | rfl | rfl | rfl
    · have q1 : s'.heap.get? _ = some _ := q1
      rw [q1] at e; cases e; exact hd'
    · have q3 : s'.heap.get? _ = some _ := q3
      rw [q3] at e; cases e; exact hc rfl
    · rw [e4] at e; cases e; unfold Dk at hd'; rw [d4] at hd'; exact hd'
    · rw [e5] at e; cases e; unfold Dk at hd'; rw [d5] at hd'; exact hd'
  by_cases hlt : i < walk.length - 1
  · refine wpD_grow (wpD_of ((W A hA.handled).item i s' _ _ hlt st fun Tt vals h₁ tk₁ hP hTn hTu hMid hk₁ => ?_))
    intro mz₁
    refine wpD_grow (wpD_of ((W A hA.handled).go _ _ _ i Tt _ _ _ hMid fun h₂ hst₂ hk₂ => ?_))
    intro mz₂
    obtain ⟨x, y, hx, hy, rfl⟩ := hP
    obtain ⟨tx, ex⟩ := wAt i (by omega)
    obtain ⟨ty, ey⟩ := wAt (i + 1) (by omega)
    have hx' : x = .int ((walk.getD i 0 : Nat) : Int) tx := by
      rw [List.getElem?_toArray, ex] at hx; exact (Option.some.inj hx).symm
    have hy' : y = .int ((walk.getD (i + 1) 0 : Nat) : Int) ty := by
      rw [List.getElem?_toArray, List.getElem?_drop, Nat.add_comm 1 i, ey] at hy; exact (Option.some.inj hy).symm
    subst hx' hy'
    have rA : Rel (fun b' _ => b' ∈ [b + 4, b + 3, b, b + 1]) noV s' { s' with heap := h₁, toks := tk₁ } := bEx hk₁ mz₁ rfl rfl
    have rB : Rel (fun b' _ => b' ∈ [b + 4, b + 3, b, b + 1]) noV { s' with heap := h₁, toks := tk₁ } { s' with heap := h₂, toks := tk₁ } := bEx hk₂ mz₂ rfl rfl
    have rAB := rA.trans rB
    have ownN : ∀ b', Own env b' → b' ∉ [b + 4, b + 3, b, b + 1] := fun b' hb' hm => Nat.lt_irrefl _ (Nat.lt_of_lt_of_le (l.F.own_lt hb') (Nat.le_trans hss (hwr b' hm)))
    have l₂' : LF hB c P { s' with heap := h₂, toks := tk₁ } env m' := ⟨l'.F.rel rAB fun b' o q hb' _ => ownN b' hb' q, l'.g.rel T rAB fun b' o q => Nat.le_trans hBb (hwr b' q), l'.own⟩
    have rel₂ : Rel (XL P env) noV s { s' with heap := h₂, toks := tk₁ } := rel.tf rAB (fun b' o q => .inl (Nat.le_trans hss (hwr b' q))) fun k q => q.elim
    have hTu₂ : h₂.IsTuple Tt #[.int ((walk.getD i 0 : Nat) : Int) tx, .int ((walk.getD (i + 1) 0 : Nat) : Int) ty] := let ⟨o, e, r⟩ := hTu; ⟨o, hk₂ _ o ((W A hA.handled).apart i Tt _ hMid) e, r⟩
    have rn₂ : RowsAt (kdOf (walk.getD i 0)) h₂ D cur := rn'.at2 fun b' o e hd' hc => rAB.heap b' o e (notW b' o e hd' hc)
    refine assign_two (s := { s' with heap := h₂, toks := tk₁ }) hA.handled T l₂' hTu₂ fun s₃ r₃ l₃ => ?_
    have S₃ := (S'.upd (x := Str.ofString "one") (v := .int ((walk.getD i 0 : Nat) : Int) tx) (by simp)).upd (x := Str.ofString "two") (v := .int ((walk.getD (i + 1) 0 : Nat) : Int) ty) (by simp)
    have st₃ : St (i + 1) s₃.heap := stab _ _ _ m' l₂' hst₂ r₃
    have rn₃ : RowsAt (kdOf (walk.getD i 0)) s₃.heap D cur := rn₂.at fun b' o e hd' => l₂'.dk r₃ b' o e hd'
    have now₃ : upd (upd m' (Str.ofString "one") (.int ((walk.getD i 0 : Nat) : Int) tx)) (Str.ofString "two") (.int ((walk.getD (i + 1) 0 : Nat) : Int) ty) (Str.ofString "now") = some (.ref D) := (upd_ne (by decide)).trans ((upd_ne (by decide)).trans hnow')
    obtain ⟨ok, kk, math'⟩ := step i cur (by omega) math
    refine wpD_seq (wpD_Assign (now_value (ks := kdOf (walk.getD i 0)) (ds := List.replicate n (walk.getD i 0)) (t := walk.getD (i + 1) 0) hA hd T l₃ rfl rfl ?_ ok kk))
    refine wpD_of (ev_local l₃.F now₃ (wpD_of (wpAny_BinOp (wpAny_List (wpAny_items_cons (wpAny_Tuple (wpAny_items_cons (ev_local l₃.F ((upd_ne (by decide)).trans upd_self) (wpAny_items_cons (ev_local l₃.F upd_self (Calls.spliced_nil ⟨by show 2 ≤ sizeLine; decide, ?_⟩) rfl)) rfl))))))) rfl)
    refine Calls.spliced_nil ⟨by show 1 ≤ sizeLine; decide, ?_⟩
    have rp1 : Rel noX noV s₃ { s₃ with heap := s₃.heap.push { cls := .type "tuple", data := .seq ([.int ((walk.getD i 0 : Nat) : Int) tx, .int ((walk.getD (i + 1) 0 : Nat) : Int) ty] : List Value).toArray } } := Rel.push (tk := s₃.toks)
    have hT₄ : IsTup (s₃.heap.push { cls := .type "tuple", data := .seq ([.int ((walk.getD i 0 : Nat) : Int) tx, .int ((walk.getD (i + 1) 0 : Nat) : Int) ty] : List Value).toArray }) s₃.heap.objs.size #[.int ((walk.getD i 0 : Nat) : Int) tx, .int ((walk.getD (i + 1) 0 : Nat) : Int) ty] := ⟨_, Heap.get?_push_size _ rfl, rfl, 0, rfl⟩
    generalize hs₄ : s₃.heap.push { cls := .type "tuple", data := .seq ([.int ((walk.getD i 0 : Nat) : Int) tx, .int ((walk.getD (i + 1) 0 : Nat) : Int) ty] : List Value).toArray } = h₄ at *
    have rp2 : Rel noX noV { s₃ with heap := h₄ } { s₃ with heap := h₄.push { cls := .type "list", data := .seq ([.ref s₃.heap.objs.size] : List Value).toArray } } := Rel.push (tk := s₃.toks)
    have hL₅ : (h₄.push { cls := .type "list", data := .seq ([.ref s₃.heap.objs.size] : List Value).toArray }).get? h₄.objs.size = some { cls := .type "list", dict := none, data := .seq #[.ref s₃.heap.objs.size] 0, slots := #[] } := Heap.get?_push_size _ rfl
    generalize hs₅ : h₄.push { cls := .type "list", data := .seq ([.ref s₃.heap.objs.size] : List Value).toArray } = h₅ at *
    have r₃₅ : Rel noX noV s₃ { s₃ with heap := h₅ } := rp1.trans rp2
    have l₅ := l₃.keep T r₃₅
    refine ev_cell (s := { s₃ with heap := h₅ }) l₅.F ((S₃ _ (by decide)).trans hp) ?_ (by rfl)
    refine mul_one_list (s := { s₃ with heap := h₅ }) rfl hL₅ (by omega) ?_
    have rp3 : Rel noX noV { s₃ with heap := h₅ } { s₃ with heap := h₅.push { cls := .type "list", data := .seq (List.replicate n (.ref s₃.heap.objs.size)).toArray } } := Rel.push (tk := s₃.toks)
    refine ⟨D, _, rfl, rfl, r₃₅.trans rp3, rn₃.at fun b' o e _ => (r₃₅.trans rp3).keeps b' o e, ⟨List.replicate n (.ref s₃.heap.objs.size), ⟨_, Heap.get?_push_size _ rfl, rfl, 0, rfl⟩, by simp, fun j hj => ?_⟩, fun D' s₆ r₆ g₆ rows₆ => ?_⟩
    · have hjn : j < n := by simpa using hj
      refine ⟨s₃.heap.objs.size, tx, ty, by simp [hjn], ?_⟩
      have : (List.replicate n (walk.getD i 0)).getD j 0 = walk.getD i 0 := by simp [List.getD, hjn]
      rw [this]
      exact hT₄.keeps fun b' o e => (rp2.trans rp3).keeps b' o e
    · have l₆ := (l₃.keep T (r₃₅.trans rp3)).step T r₆ g₆
      have rAll : Rel (XL P env) noV s₃ s₆ := ((r₃₅.trans rp3).up).trans (r₆.weak (fun b' o q => .inl q) fun _ q => q)
      refine wpD_of (l₆.store_local T (by rfl) fun s₇ r₇ l₇ => ⟨rfl, wpD_nil ⟨rfl, walk.length - (i + 1), by omega, i + 1, _, D', _, by omega, rfl, S₃.upd (x := Str.ofString "now") (v := .ref D') (by simp), ((rel₂.trans r₃).trans rAll).trans r₇, l₇, upd_self, rows₆.at fun b' o e hd' => l₆.dk r₇ b' o e hd', math', stab _ _ _ _ l₆ (stab _ _ _ _ l₃ st₃ rAll) r₇⟩⟩)
  · have hin : i = walk.length - 1 := by omega
    subst hin
    refine wpD_grow (wpD_of ((W A hA.handled).done s' _ _ st fun h₁ tk₁ hk₁ => ?_))
    intro mz₁
    have rA : Rel (fun b' _ => b' ∈ [b + 4, b + 3, b, b + 1]) noV s' { s' with heap := h₁, toks := tk₁ } := bEx hk₁ mz₁ rfl rfl
    have ownN : ∀ b', Own env b' → b' ∉ [b + 4, b + 3, b, b + 1] := fun b' hb' hm => Nat.lt_irrefl _ (Nat.lt_of_lt_of_le (l.F.own_lt hb') (Nat.le_trans hss (hwr b' hm)))
    exact hQ _ m' D cur S' (rel.tf rA (fun b' o q => .inl (Nat.le_trans hss (hwr b' q))) fun k q => q.elim) ⟨l'.F.rel rA fun b' o q hb' _ => ownN b' hb' q, l'.g.rel T rA fun b' o q => Nat.le_trans hBb (hwr b' q), l'.own⟩ hnow' (rn'.at2 fun b' o e hd' hc => rA.heap b' o e (notW b' o e hd' hc)) math
end
end Mine

/-! W13 -/
set_option linter.unusedVariables false
set_option maxRecDepth 100000
namespace Mine
open PySem PySem.W PyProof.Rows
open Sem (wp)

section
variable {prog : Program} {w : World} {A : Around} {E : Value → Shared → Prop} {s : Shared} {d u : Nat} {mg mb : Str → Option Value} {hB : Heap} {aA aR c P : Addr} {cA : Value} {env : Env} {m : Str → Option Value} {ks : Kd}

/-- two lists of lists of the same ints -/
theorem rows_ne {D D' : Addr} {out : List (List Int)} {Q : Value → Shared → Prop} (hu : A.units < cLine) (hu' : A.in1.units < cLine) (r : RowsAt .H s.heap D out) (r' : RowsAt .H s.heap D' out) (h : Q (.bool false) s) : wpAny (model prog w) A (compareOp .NotEq (.ref D) (.ref D')) Q E s := by
  obtain ⟨vs, hl, hn, hr⟩ := r
  obtain ⟨vs', hl', hn', hr'⟩ := r'
  have := SeqAt.RcNeAt.lists (A := A) (e := fun _ => true) hl.isList hl'.isList (by simp [hn, hn']) hu (fun j h1 h2 => ?_) prog w E Q (by
    have e : (List.range vs.toArray.size).all (fun _ => true) = true := by simp
    rw [e]; exact h)
  · exact this
  · obtain ⟨a, e1, ws, ⟨k1, f1⟩, g1⟩ := hr j (by simp at h1; omega)
    obtain ⟨a', e1', ws', ⟨k2, f2⟩, g2⟩ := hr' j (by simp at h1; omega)
    have x1 : vs.toArray[j] = .ref a := by
      have h1' : j < vs.length := by simpa using h1
      rw [List.getElem?_eq_getElem h1'] at e1
      simpa using e1
    have x2 : vs'.toArray[j] = .ref a' := by
      have h2' : j < vs'.length := by simpa using h2
      rw [List.getElem?_eq_getElem h2'] at e1'
      simpa using e1'
    rw [x1, x2]
    by_cases hne : a = a'
    · subst hne
      exact SeqAt.EqAt.same _
    · obtain ⟨l1, l2⟩ := intsAre_at g1
      obtain ⟨l1', l2'⟩ := intsAre_at g2
      have rc := SeqAt.RcAt.lists (A := A.in1) (s := s) (e := fun _ => true) (items := ws.toArray) (items2 := ws'.toArray) ⟨_, f1, rfl, k1, rfl⟩ ⟨_, f2, rfl, k2, rfl⟩ (by simp [l1, l1']) hu' (fun i i1 i2 => by
        have hi : i < (out.getD j []).length := by rw [← l1]; simpa using i1
        obtain ⟨t, q⟩ := l2 i hi
        obtain ⟨t', q'⟩ := l2' i hi
        have i1' : i < ws.length := by simpa using i1
        have i2' : i < ws'.length := by simpa using i2
        have y1 : ws.toArray[i] = .int ((out.getD j []).getD i 0) t := by
          rw [← q]; simp [List.getD, i1']
        have y2 : ws'.toArray[i] = .int ((out.getD j []).getD i 0) t' := by
          rw [← q']; simp [List.getD, i2']
        rw [y1, y2]
        have := SeqAt.EqAt.int_int (A := A.in1.in1) (s := s) ((out.getD j []).getD i 0) t ((out.getD j []).getD i 0) t'
        simpa using this)
      have e : (List.range ws.toArray.size).all (fun _ => true) = true := by simp
      rw [e] at rc
      exact SeqAt.EqAt.of_refs hne rc

/-- [row[c::planes] for row in x] -/
theorem slices_comp {scope : Scope} {x : Str} {p1 p2 p3 p4 p5 p6 p7 pos : Pos} {D₀ : Addr} {xss : List (List Int)} {i n L : Nat} {tc tp : Tok} {Q : Value → Shared → Prop} (ok : ScOk lawSc scope) (hh : A.handled = none) (F : Frm lawSc env s.heap m)
    (hx : m x = some (.ref D₀)) (rx : RowsAt ks s.heap D₀ xss) (hc : m (Str.ofString "c") = some (.int (i : Int) tc)) (hp : m (Str.ofString "planes") = some (.int (n : Int) tp)) (hi : i < n) (hlen : ∀ j, j < xss.length → (xss.getD j []).length = L * n) (hL : L * n ≤ 1000) (hfew : xss.length ≤ 1000)
    (hQ : ∀ D s', Rel noX noV s s' → RowsAt ks s'.heap D (xss.map fun xs => pickL xs i n L) → Q (.ref D) s')
    (kx : lawSc.names.lookup x = some .local := by rfl) (dx : (x == ("__debug__" : Str)) = false := by decide)
    (kr : (relabelS scope lawSc).names.lookup (Str.ofString "row") = some .local := by rfl) (kc : (relabelS scope lawSc).names.lookup (Str.ofString "c") = some .cell := by rfl) (kp : (relabelS scope lawSc).names.lookup (Str.ofString "planes") = some .cell := by rfl)
    (fc : (Str.ofString "c", NameKind.free) ∈ scope.names := by decide +kernel) (fp : (Str.ofString "planes", NameKind.free) ∈ scope.names := by decide +kernel)
    (hs : ∀ y, foldedSetIterable (.Name x p6) env y = pure y := by intro _; rfl) :
    wpD (model prog w) A (eval (.ListComp (.Subscript (.Name (Str.ofString "row") p1) (.Slice (some (.Name (Str.ofString "c") p2)) none (some (.Name (Str.ofString "planes") p3)) p4) p5) [⟨.Name (Str.ofString "row") p7, .Name x p6, [], 0⟩] scope pos) env) Q s := by
  obtain ⟨vs, hl, hn, hr⟩ := rx
  have hsl : vs.length ≤ sizeLine := by
    have : sizeLine ≥ 1000 := by decide
    omega
  have hsl2 : (1000 : Nat) ≤ sizeLine := by decide
  refine wpD_LC_list (m := m) (sc := lawSc) ok hh (wpD_of (ev_local F hx ⟨D₀, vs, rfl, hl.isList, hsl, F, fun hi' hhi => ?_⟩ kx dx)) kr hs
  refine ⟨fun k ys s' => ys.length = k ∧ ∀ j, j < k → ∃ r, ys[j]? = some (.ref r) ∧ hi' ≤ r ∧ RowAt ks s'.heap r (pickL (xss.getD j []) i n L),
    fun k ys s₁ s₂ hJ r => ⟨hJ.1, fun j hj => ?_⟩, fun s₁ r => ⟨rfl, fun j hj => absurd hj (Nat.not_lt_zero _)⟩, fun k ys v cenv s₁ hv' hy hJ hz r F₁ => ?_, fun ys s₁ D hy hJ h1 h2 r hpl => ?_⟩
  · obtain ⟨r', q0, q1, q2⟩ := hJ.2 j hj
    exact ⟨r', q0, q1, q2.at fun o e _ => r.heap _ _ e fun q => Nat.lt_irrefl _ (Nat.lt_of_lt_of_le q.2 q1)⟩
  · have hk : k < vs.length := by
      rcases Nat.lt_or_ge k vs.length with h | h
      · exact h
      · rw [List.getElem?_eq_none h] at hv'; cases hv'
    have hk' : k < xss.length := by omega
    obtain ⟨a, e1, ra⟩ := hr k hk'
    have hva : v = .ref a := by rw [e1] at hv'; exact (Option.some.inj hv').symm
    subst hva
    have ra₁ : RowAt ks s₁.heap a (xss.getD k []) := ra.at fun o e _ => r.keeps _ o e
    refine wpD_of (row_slice (EvV.local F₁ upd_self kr) (EvV.cell F₁ ((free_at fc (by decide)).trans hc) kc) (EvV.cell F₁ ((free_at fp (by decide)).trans hp) kp) ra₁ hi (hlen k hk') (by rw [hlen k hk']; omega) fun D s₂ r₂ hg hD row => ?_)
    refine ⟨r₂, by rw [List.length_append, hJ.1]; rfl, fun j hj => ?_⟩
    by_cases hji : j < k
    · obtain ⟨r', q0, q1, q2⟩ := hJ.2 j hji
      exact ⟨r', by rw [List.getElem?_append_left (by omega)]; exact q0, q1, q2.at fun o e _ => r₂.keeps _ o e⟩
    · have : j = k := by omega
      subst this
      exact ⟨D, by rw [List.getElem?_append_right (by omega), hJ.1]; simp, Nat.le_trans hz hD, row⟩
  · refine hQ D s₁ r ⟨ys, hpl, by rw [hJ.1, hn]; simp, fun j hj => ?_⟩
    have hj' : j < xss.length := by simpa using hj
    obtain ⟨r', q0, q1, q2⟩ := hJ.2 j (by omega)
    refine ⟨r', q0, ?_⟩
    have e : (xss.map fun xs => pickL xs i n L).getD j [] = pickL (xss.getD j []) i n L := by simp [List.getD, hj']
    rw [e]
    exact q2
end
end Mine

/-! W14 -/
set_option linter.unusedVariables false
set_option maxRecDepth 100000
namespace Mine
open PySem PySem.W PyProof.Rows
open Sem (wp)

abbrev homeC1 : Expr := callArg 0 (asgVal ((forBody homeFor).getD 0 (.Pass default)))
theorem homeC1_ok : ScOk lawSc (gxScope homeC1) := ⟨by with_unfolding_all rfl, by decide +kernel, by decide +kernel, by decide +kernel⟩
abbrev homeC2 : Expr := cmpR (ifTest homeIf)
theorem homeC2_ok : ScOk lawSc (gxScope homeC2) := ⟨by with_unfolding_all rfl, by decide +kernel, by decide +kernel, by decide +kernel⟩

section
variable {prog : Program} {w : World} {A : Around} {E : Value → Shared → Prop} {s : Shared} {d u : Nat} {mg mb : Str → Option Value} {hB : Heap} {aA aR c P : Addr} {cA : Value} {env : Env} {m : Str → Option Value}

theorem EvI.neg {h : Heap} {e : Expr} {pos : Pos} {i : Int} (x : EvI (model prog w) A env h e i) : EvI (model prog w) A env h (.UnaryOp .USub e pos) (-i) := fun s Q E hs hq =>
  wpAny_UnaryOp (x s _ _ hs fun t tk => PySem.P.neg_int (hq _ _))

/-- [list(row) for row in home] != [row[c::planes] for row in rows] is False -/
theorem home_if {Dr a : Addr} {c0 g i n L : Nat} {kt : Kd} {orig out : List (List Int)} {tc tp : Tok} {Q : Flow → Shared → Prop} (hA : OkA A d u) (hd : d < 400) (hu : u ≤ 1000) (T : Txt mg mb hB aA aR c P cA) (l : LF hB c P s env m)
    (hown : ∀ b, Own env b → b < c0) (hlo : hB.objs.size ≤ a) (h0 : c0 ≤ a) (has : a < s.heap.objs.size) (hr0 : hB.objs.size ≤ c0)
    (hrows : m (Str.ofString "rows") = some (.ref Dr)) (rows : RowsAt .H s.heap Dr orig)
    (hc : m (Str.ofString "c") = some (.int (i : Int) tc)) (hp : m (Str.ofString "planes") = some (.int (n : Int) tp)) (hi : i < n) (hlen : ∀ j, j < orig.length → (orig.getD j []).length = L * n) (hL : L * n ≤ 1000) (hL1 : L ≤ 1000) (hfew : orig.length ≤ 1000)
    (hout : out = orig.map fun xs => pickL xs i n L) (hhome : m (Str.ofString "home") = some (.ref a))
    (old : ∀ s', Rel (fun b _ => b = P ∨ c0 ≤ b) (· = g) s s' → GS hB c P s'.heap → RowsAt .H s'.heap Dr orig)
    (ready : ∀ A' d' u' s'' hi, OkA A' d' u' → d' < 600 → Rel (fun b o => (a ≤ b ∧ b < hi) ∧ b ≠ a) noV s s'' → a < hi → hi ≤ s''.heap.objs.size → GenSt prog w A' hB c c0 a hi P kt out a g out.length s'')
    (hQ : ∀ s', Rel (fun b _ => b = P ∨ c0 ≤ b) (· = g) s s' → GS hB c P s'.heap → Q .next s') :
    wpD (model prog w) A (exec homeIf env) Q s := by
  have hout' : ∀ j, j < out.length → (out.getD j []).length ≤ 1000 := fun j hj => by
    subst hout
    have hj' : j < orig.length := by simpa using hj
    simp [List.getD, hj', pickL_length, hL1]
  have hfew' : out.length ≤ 1000 := by rw [hout]; simpa using hfew
  refine wpD_If (wpD_isTrue_Compare (home_comp hA hd T l.F l.g (fun b hb => ⟨hown b hb, l.ownP T b hb⟩) hlo h0 has hfew' hout' hhome ready fun D s₁ r₁ g₁ row₁ => ?_))
  have F₁ : Frm lawSc env s₁.heap m := l.F.rel r₁ fun b o q hb _ => by
    rcases q with q | q
    · exact l.ownP T b hb q
    · exact Nat.lt_irrefl _ (Nat.lt_of_lt_of_le (hown b hb) q)
  refine slices_comp homeC2_ok hA.handled F₁ hrows (old s₁ r₁ g₁) hc hp hi hlen hL hfew fun D' s₂ r₂ row₂ => ?_
  have row₁' : RowsAt .H s₂.heap D out := row₁.at fun b o e _ => r₂.keeps b o e
  rw [hout] at row₁'
  have c1 : A.units < cLine := Nat.lt_of_le_of_lt hA.units (Nat.lt_of_le_of_lt hu (by decide))
  have c2 : A.in1.units < cLine := Nat.lt_of_le_of_lt hA.in1.units (Nat.lt_of_le_of_lt (Nat.succ_le_succ hu) (by decide))
  refine wpD_of (rows_ne c1 c2 row₁' row₂ ?_)
  refine wpD_of (wpAny_truthy_bool ?_)
  refine ⟨fun q => Bool.noConfusion q, fun _ => wpD_nil ?_⟩
  exact hQ s₂ (r₁.trans (r₂.weak (fun _ _ q => q.elim) fun _ q => q.elim)) (g₁.rel T r₂ fun _ _ q => q.elim)

/-- for c in range(planes): home = ..; if [..] != [..]: return False -/
theorem law_s10 {Dr Dn Dw ad : Addr} {n L : Nat} {dn : Nat → Nat} {tp : Tok} {walk : List Nat} {orig cur : List (List Int)} {Q : Flow → Shared → Prop} (hA : OkA A d u) (hd : d < 350) (hu : u ≤ 1000) (T : Txt mg mb hB aA aR c P cA) (l : LF hB c P s env m)
    (hp : m (Str.ofString "planes") = some (.int (n : Int) tp)) (hn3 : n ≤ 3) (hw : m (Str.ofString "walk") = some (.ref Dw)) (rw' : RowAt .H s.heap Dw (natInts walk)) (hw0 : 0 < walk.length) (hw8 : walk.length ≤ 8)
    (hdp : m (Str.ofString "depths") = some (.ref ad)) (rd : RowAt .H s.heap ad (dInts dn n)) (hnow : m (Str.ofString "now") = some (.ref Dn)) (rn : RowsAt (kdOf (walk.getD (walk.length - 1) 0)) s.heap Dn cur)
    (hrows : m (Str.ofString "rows") = some (.ref Dr)) (rows : RowsAt .H s.heap Dr orig) (hL : L * n ≤ 1000) (hL1 : L ≤ 1000) (hlenO : ∀ j, j < orig.length → (orig.getD j []).length = L * n) (hlenC : ∀ j, j < cur.length → (cur.getD j []).length = L * n) (hfewO : orig.length ≤ 1000) (hfewC : cur.length ≤ 1000)
    (ok : ∀ i, i < n → ArgsOk [walk.getD (walk.length - 1) 0] (dn i) (cur.map fun xs => pickL xs i n L) L) (kk : ∀ i, i < n → kdOf (dn i) = .H → kdOf (walk.getD (walk.length - 1) 0) = .H)
    (home : ∀ i, i < n → outOf (psOf [walk.getD (walk.length - 1) 0] (dn i)) (cur.map fun xs => pickL xs i n L) = orig.map fun xs => pickL xs i n L)
    (hQ : ∀ s', Rel (XL P env) noV s s' → GS hB c P s'.heap → Q .next s') :
    wpD (model prog w) A (exec homeFor env) Q s := by
  refine wpD_For (wpD_Call (wpD_of (ev_builtin l.F (l.g.glb T) (T.none _ (by simp)) (v := .type "range") (by with_unfolding_all rfl) (by decide) ?_ (by rfl) (by decide))))
  refine wpD_callWith_type rfl (wpD_of (evalArgs_one rfl (ev_cell l.F hp (wpD_of (range_of1 fun ra s₁ r₁ hg₁ hra hr₁ => ?_)) (by rfl))))
  obtain ⟨t1, u1, v1, hr₁⟩ := hr₁
  refine wpD_of (iter_of_range (n := n) hr₁ (by omega) (by decide) (by decide) (by omega) fun s₂ r₂ hg₂ hI => ?_)
  generalize hIeq : s₁.heap.objs.size = I at *
  have hsI : s.heap.objs.size ≤ I := by rw [← hIeq]; exact r₁.mono.1
  have hBI : hB.objs.size ≤ I := Nat.le_trans l.base hsI
  have r₁₂ := r₁.trans r₂
  refine codeD_forRange (a := 0) (n := n) hA.handled (fun i s' => ∃ m', Same [Str.ofString "c", Str.ofString "home"] m m' ∧ Rel (XL P env) noV s s' ∧ LF hB c P s' env m' ∧ IsRangeIter s'.heap I (0 + (i : Int)) ((n : Int) - i) 1)
    ⟨m, Same.refl _ _, r₁₂.up, l.keep T r₁₂, by simpa using hI⟩ (fun i s' hi hJ => ?_) (fun i s' hi hJ s₃ t r₃ hI₃ => ?_) fun s' s₃ hJ r₃ => ?_
  · obtain ⟨m', _, _, _, h⟩ := hJ; exact h
  · obtain ⟨m', q1, q2, q3, hIs⟩ := hJ
    have ownI : ∀ b, Own env b → b ≠ I := fun b hb q => by
      have := l.F.own_lt hb
      rw [q] at this
      exact Nat.lt_irrefl _ (Nat.lt_of_lt_of_le this hsI)
    have l₃ : LF hB c P s₃ env m' := ⟨q3.F.rel r₃ fun b o q hb _ => ownI b hb q, q3.g.rel T r₃ fun b o q => q ▸ hBI, q3.own⟩
    have rel₃ : Rel (XL P env) noV s s₃ := q2.tf r₃ (fun b o q => .inl (q ▸ hsI)) fun k q => q.elim
    rw [Int.zero_add]
    refine wpD_of (l₃.store_cell T (by rfl) fun s₄ r₄ l₄ => ?_)
    have S₄ := q1.upd (x := Str.ofString "c") (v := .int (i : Int) t) (by simp)
    have rel₄ := rel₃.trans r₄
    have at' : ∀ y, y ∉ [Str.ofString "c", Str.ofString "home"] → upd m' (Str.ofString "c") (.int (i : Int) t) y = m y := fun y hy => S₄ y hy
    have dk : ∀ b o, s.heap.get? b = some o → Dk o → s₄.heap.get? b = some o := fun b o e hd' => l.dk rel₄ b o e hd'
    have rn₄ := rn.at dk
    have rows₄ := rows.at dk
    have rd₄ : RowAt .H s₄.heap ad (dInts dn n) := rd.at fun o e hd' => dk _ o e hd'
    have rw₄ : RowAt .H s₄.heap Dw (natInts walk) := rw'.at fun o e hd' => dk _ o e hd'
    have c₄ : upd m' (Str.ofString "c") (.int (i : Int) t) (Str.ofString "c") = some (.int (i : Int) t) := upd_self
    generalize upd m' (Str.ofString "c") (.int (i : Int) t) = m₄ at *
    have p₄ := (at' (Str.ofString "planes") (by decide)).trans hp
    refine wpD_seq (wpD_Assign (wpD_Call (wpD_of (ev_global l₄.F (l₄.g.glb T) T.rscG ?_ (by rfl)))))
    obtain ⟨o, pm, doc, dV, kV, h1, h2, _⟩ := T.rsc.obj
    obtain ⟨fdR, hfd⟩ : ∃ fd, o.data = .func fd := ⟨_, h2⟩
    refine wpD_callWith_fun (o := o) (fd := fdR) rfl (evalArgsD_two rfl ?_)
    refine slices_comp homeC1_ok hA.handled l₄.F ((at' (Str.ofString "now") (by decide)).trans hnow) rn₄ c₄ p₄ hi hlenC hL hfewC fun D₁ s₅ r₅ rows₅ => ?_
    have l₅ := l₄.keep T r₅
    have rd₅ : RowAt .H s₅.heap ad (dInts dn n) := rd₄.at fun o e _ => r₅.keeps _ o e
    have rw₅ : RowAt .H s₅.heap Dw (natInts walk) := rw₄.at fun o e _ => r₅.keeps _ o e
    obtain ⟨vs, hl, hv⟩ := id rw₅
    obtain ⟨w1, w2⟩ := intsAre_at hv
    rw [natInts_length] at w1 w2
    obtain ⟨tw, ew⟩ := w2 (walk.length - 1) (by omega)
    rw [natInts_getD] at ew
    have ew' : vs.toArray[(-1 + (vs.toArray.size : Int)).toNat]? = some (.int ((walk.getD (walk.length - 1) 0 : Nat) : Int) tw) := by
      have e1 : (-1 + (vs.toArray.size : Int)).toNat = walk.length - 1 := by rw [List.size_toArray, w1]; omega
      rw [e1, ← ew]
      simp [List.getD, show walk.length - 1 < vs.length by omega]
    have hk : ∀ p p' p'' p3, EvV (model prog w) A env s₅.heap (.Subscript (.Name (Str.ofString "walk") p) (.UnaryOp .USub (.Constant (.int 1) 0 p') p'') p3) (.int ((walk.getD (walk.length - 1) 0 : Nat) : Int) tw) := fun p p' p'' p3 =>
      EvV.itemNeg (EvV.cell l₅.F ((at' (Str.ofString "walk") (by decide)).trans hw)) hl.isList (EvI.neg EvI.const) (by decide) (by rw [List.size_toArray, w1]; omega) ew' (by decide)
    have hdi : ∀ p p' p'', EvI (model prog w) A env s₅.heap (.Subscript (.Name (Str.ofString "depths") p) (.Name (Str.ofString "c") p') p'') ((dn i : Nat) : Int) := fun p p' p'' => by
      have := EvI.row (pos := p'') (EvV.cell (M := model prog w) (A := A) (pos := p) l₅.F ((at' (Str.ofString "depths") (by decide)).trans hdp)) rd₅ (EvI.of (EvV.cell (pos := p') l₅.F c₄)) (by omega) (by simpa [dInts] using hi) (by omega)
      have e : (dInts dn n).getD ((i : Int)).toNat 0 = ((dn i : Nat) : Int) := by
        unfold dInts
        simp [List.getD, hi]
      rw [e] at this
      exact this
    refine wpD_of (wpAny_List (wpAny_items_cons (wpAny_Tuple (wpAny_items_cons (hk _ _ _ _ s₅ _ _ rfl fun tk1 => wpAny_items_cons (hdi _ _ _ { s₅ with toks := tk1 } _ _ rfl fun td tk2 => Calls.spliced_nil ⟨by show 2 ≤ sizeLine; decide, Calls.spliced_nil ⟨by show 1 ≤ sizeLine; decide, ?_⟩⟩))))))
    have rp1 : Rel noX noV s₅ { s₅ with toks := tk2, heap := s₅.heap.push { cls := .type "tuple", data := .seq ([.int ((walk.getD (walk.length - 1) 0 : Nat) : Int) tw, .int ((dn i : Nat) : Int) td] : List Value).toArray } } := Rel.push (tk := tk2)
    have hT : IsTup (s₅.heap.push { cls := .type "tuple", data := .seq ([.int ((walk.getD (walk.length - 1) 0 : Nat) : Int) tw, .int ((dn i : Nat) : Int) td] : List Value).toArray }) s₅.heap.objs.size #[.int ((walk.getD (walk.length - 1) 0 : Nat) : Int) tw, .int ((dn i : Nat) : Int) td] := ⟨_, Heap.get?_push_size _ rfl, rfl, 0, rfl⟩
    generalize hs₆ : s₅.heap.push { cls := .type "tuple", data := .seq ([.int ((walk.getD (walk.length - 1) 0 : Nat) : Int) tw, .int ((dn i : Nat) : Int) td] : List Value).toArray } = h₆ at *
    have rp2 : Rel noX noV { s₅ with toks := tk2, heap := h₆ } { s₅ with toks := tk2, heap := h₆.push { cls := .type "list", data := .seq ([.ref s₅.heap.objs.size] : List Value).toArray } } := Rel.push (tk := tk2)
    have resc : RescAt (h₆.push { cls := .type "list", data := .seq ([.ref s₅.heap.objs.size] : List Value).toArray }) h₆.objs.size [walk.getD (walk.length - 1) 0] (dn i) := by
      refine ⟨[.ref s₅.heap.objs.size], ⟨_, Heap.get?_push_size _ rfl, rfl, 0, rfl⟩, rfl, fun j hj => ?_⟩
      have hj0 : j = 0 := by simpa using hj
      subst hj0
      exact ⟨s₅.heap.objs.size, tw, td, rfl, hT.keeps fun b' o e => rp2.keeps b' o e⟩
    have r₅₇ := rp1.trans rp2
    generalize hs₇ : ({ s₅ with toks := tk2, heap := h₆.push { cls := .type "list", data := .seq ([.ref s₅.heap.objs.size] : List Value).toArray } } : Shared) = s₇ at *
    have resc₇ : RescAt s₇.heap h₆.objs.size [walk.getD (walk.length - 1) 0] (dn i) := by rw [← hs₇]; exact resc
    have r₄₇ : Rel noX noV s₄ s₇ := r₅.trans r₅₇
    have l₇ := l₄.keep T r₄₇
    refine ⟨⟨l₇.g.keep aR o (by rw [h2]; simp) h1, hfd⟩, ?_⟩
    have rows₇ : RowsAt (kdOf (walk.getD (walk.length - 1) 0)) s₇.heap D₁ (cur.map fun xs => pickL xs i n L) := rows₅.at fun b o e _ => r₅₇.keeps b o e
    have orig₇ : RowsAt .H s₇.heap Dr orig := rows₄.at fun b o e _ => r₄₇.keeps b o e
    refine call_rescale hA (by omega) T l₇.g l₇.base rows₇ resc₇ (ok i hi) (kk i hi) fun a s₈ r₈ ha ha' ready => ?_
    have l₈ := l₇.keep T r₈
    refine wpD_of (Mine.store_local (V := noV) l₈.F (fun s₉ r₉ F₉ => ⟨rfl, ?_⟩) (by rfl))
    have r₉o : Rel (OwnX env) noV s₈ s₉ := r₉.own l₈.F fun b o q => .inl q
    have l₉ : LF hB c P s₉ env (upd m₄ (Str.ofString "home") (.ref a)) := ⟨F₉, l₈.g.rel T r₉o fun b o q => l₈.own b q.1, l₈.own⟩
    have S₉ := S₄.upd (x := Str.ofString "home") (v := .ref a) (by simp)
    have ownS : ∀ b, Own env b → b < s₇.heap.objs.size := fun b hb => l₇.F.own_lt hb
    have hkeep : ∀ b o, s₇.heap.get? b = some o → Dk o → s₉.heap.get? b = some o := fun b o e hd' => r₉o.heap b o (r₈.keeps b o e) fun q => dk_fk hd' q.2
    have eo := home i hi
    refine wpD_seq (home_if (c0 := s₇.heap.objs.size) (g := s₇.gens.size) (a := a) (Dr := Dr) (L := L) (orig := orig) (kt := kdOf (dn i)) (out := outOf (psOf [walk.getD (walk.length - 1) 0] (dn i)) (cur.map fun xs => pickL xs i n L)) hA (by omega) hu T l₉ ownS (Nat.le_trans l₇.base ha) ha (Nat.lt_of_lt_of_le ha' r₉o.mono.1) l₇.base
      ((S₉ _ (by decide)).trans hrows) (orig₇.at hkeep) ((upd_ne (by decide)).trans c₄) ((S₉ _ (by decide)).trans hp) hi hlenO hL hL1 hfewO eo upd_self (fun s' r g' => orig₇.at fun b o e hd' => r.heap b o (hkeep b o e hd') fun q => ?_) (fun A' d' u' s'' hi' z1 z2 z3 z4 z5 => ?_) fun s' r g' => ?_)
    · rcases q with q | q
      · subst q; exact l₇.g.notDk e hd'
      · exact Nat.lt_irrefl _ (Nat.lt_of_lt_of_le (Heap.lt_size e) q)
    · have := ready A' d' u' s'' hi' z1 z2 ((r₉o.weak (fun b o q => .inr ⟨l₇.own b q.1, ownS b q.1, q.2⟩) fun _ q => q).trans (z3.weak (fun _ _ q => .inl q) fun _ q => q)) z4 z5
      simpa using this
    · have relE : Rel (XL P env) noV s₄ s' := (((r₄₇.up).trans (r₈.up)).trans (r₉o.weak (fun b o q => .inr q) fun _ q => q)).tf r (fun b o q => by
        rcases q with q | q
        · exact .inr (.inl q)
        · exact .inl (Nat.le_trans r₄₇.mono.1 q)) fun k q => .inl (q ▸ r₄₇.mono.2)
      refine ⟨rfl, wpD_nil ⟨rfl, _, S₉, rel₄.trans relE, ⟨l₉.F.rel r fun b o q hb _ => ?_, g', l₉.own⟩, l₃.fields T (r₄.trans relE) hBI hI₃ trivial⟩⟩
      rcases q with q | q
      · exact l₉.ownP T b hb q
      · exact Nat.lt_irrefl _ (Nat.lt_of_lt_of_le (ownS b hb) q)
  · obtain ⟨m', q1, q2, q3, hIs⟩ := hJ
    exact hQ s₃ (q2.tf r₃ (fun b o q => .inl (q ▸ hsI)) fun k q => q.elim) (q3.g.rel T r₃ fun b o q => q ▸ hBI)
end
end Mine

/-! W15 -/
set_option linter.unusedVariables false
set_option maxRecDepth 100000
namespace Mine

theorem nums (cs : List Int) : ∃ lN n L H : Nat, liftOf cs = (lN : Int) ∧ (lN = 0 ∨ lN = 8) ∧ planesOf cs = (n : Int) ∧ 0 < n ∧ n ≤ 3 ∧ lengthOf cs = (L : Int) ∧ 0 < L ∧ L ≤ 3 ∧ highOf cs = (H : Int) ∧ H ≤ 2 ∧
    ∃ dn : Nat → Nat, ∀ c, depthAt (lN : Int) cs c = ((dn c : Nat) : Int) ∧ lN + 1 ≤ dn c ∧ dn c ≤ lN + 6 := by
  obtain ⟨a0, a1⟩ : 0 ≤ (cs.getD 0 0).fmod 2 ∧ (cs.getD 0 0).fmod 2 < 2 := fmod_range (n := 2) (by decide)
  obtain ⟨b0, b1⟩ : 0 ≤ ((cs.getD 0 0).fdiv 2).fmod 3 ∧ ((cs.getD 0 0).fdiv 2).fmod 3 < 3 := fmod_range (n := 3) (by decide)
  obtain ⟨c0, c1⟩ : 0 ≤ ((cs.getD 0 0).fdiv 6).fmod 3 ∧ ((cs.getD 0 0).fdiv 6).fmod 3 < 3 := fmod_range (n := 3) (by decide)
  obtain ⟨d0, d1⟩ : 0 ≤ ((cs.getD 0 0).fdiv 18).fmod 2 ∧ ((cs.getD 0 0).fdiv 18).fmod 2 < 2 := fmod_range (n := 2) (by decide)
  unfold liftOf planesOf lengthOf highOf
  generalize (cs.getD 0 0).fmod 2 = a at *
  generalize ((cs.getD 0 0).fdiv 2).fmod 3 = b at *
  generalize ((cs.getD 0 0).fdiv 6).fmod 3 = e at *
  generalize ((cs.getD 0 0).fdiv 18).fmod 2 = f at *
  refine ⟨(8 * a).toNat, (1 + b).toNat, (1 + e).toNat, (1 + f).toNat, by omega, by omega, by omega, by omega, by omega, by omega, by omega, by omega, by omega, by omega, fun c => (depthAt ((8 * a).toNat : Int) cs c).toNat, fun c => ?_⟩
  unfold depthAt
  dsimp only
  obtain ⟨g0, g1⟩ : 0 ≤ ((cs.getD 1 0).fdiv (6 ^ c)).fmod 6 ∧ ((cs.getD 1 0).fdiv (6 ^ c)).fmod 6 < 6 := fmod_range (n := 6) (by decide)
  generalize ((cs.getD 1 0).fdiv (6 ^ c)).fmod 6 = g at *
  omega

theorem dInts_of {cs : List Int} {lN : Nat} {dn : Nat → Nat} (h : ∀ c, depthAt (lN : Int) cs c = ((dn c : Nat) : Int)) (n : Nat) : (List.range n).map (depthAt (lN : Int) cs) = dInts dn n := by
  unfold dInts
  exact List.map_congr_left fun c _ => h c

/-- the depths walked through -/
structure WalkOk (dn : Nat → Nat) (n lN : Nat) (walk : List Nat) : Prop where
  nodup : walk.Nodup
  gt : ∀ v ∈ walk, ∀ c, c < n → dn c < v
  le : ∀ v ∈ walk, v ≤ lN + 8

theorem walkOk {dn : Nat → Nat} {n lN mx : Nat} {walk left' : List Nat} (h : ∀ c, c < n → dn c ≤ mx) (hp : (walk ++ left').Perm (leftInit mx lN)) (hmx : mx ≤ lN + 6) : WalkOk dn n lN walk := by
  have nd : (leftInit mx lN).Nodup := by
    unfold leftInit List.Nodup
    rw [List.pairwise_map]
    exact List.Pairwise.imp (fun {a b} h e => h (by omega)) (List.nodup_range (n := lN + 8 - mx))
  have mem : ∀ v ∈ walk, v ∈ leftInit mx lN := fun v hv => hp.subset (List.mem_append_left _ hv)
  have bnd : ∀ v ∈ walk, mx < v ∧ v ≤ lN + 8 := fun v hv => by
    have := mem v hv
    unfold leftInit at this
    obtain ⟨k, hk, rfl⟩ := List.mem_map.mp this
    rw [List.mem_range] at hk
    omega
  refine ⟨?_, fun v hv c hc => Nat.lt_of_le_of_lt (h c hc) (bnd v hv).1, fun v hv => (bnd v hv).2⟩
  exact (List.nodup_append.mp (hp.nodup_iff.mpr nd)).1

section
variable {cs : List Int} {dn : Nat → Nat} {n L H lN : Nat} {walk : List Nat}

theorem getD_mem {walk : List Nat} {i : Nat} (hi : i < walk.length) : walk.getD i 0 ∈ walk := by
  have e : walk.getD i 0 = walk[i] := by simp [List.getD, hi]
  rw [e]; exact List.getElem_mem hi
theorem take_snoc {walk : List Nat} {i : Nat} (hi : i < walk.length) : walk.take (i + 1) = walk.take i ++ [walk.getD i 0] := by
  rw [List.take_add_one]
  simp [List.getD, hi]

theorem rowsOf_getD {y : Nat} (hy : y < H) : (rowsOf cs dn n L H).getD y [] = rowOf cs dn n L y := by
  unfold rowsOf
  simp [List.getD, hy]
theorem rowOf_length (y : Nat) : (rowOf cs dn n L y).length = L * n := by simp [rowOf]
theorem rowsOf_length : (rowsOf cs dn n L H).length = H := by simp [rowsOf]

theorem rowOf_rng (y j : Nat) (hj : j < (rowOf cs dn n L y).length) : 0 ≤ (rowOf cs dn n L y).getD j 0 ∧ (rowOf cs dn n L y).getD j 0 ≤ Dd (dn (j % n)) := by
  rw [rowOf_length] at hj
  have e : (rowOf cs dn n L y).getD j 0 = rowVal cs dn n (y * L * n + j) := by
    unfold rowOf
    simp [List.getD, hj]
  rw [e]
  unfold rowVal
  have em : (y * L * n + j) % n = j % n := by
    rw [Nat.add_comm, Nat.mul_comm (y * L) n, Nat.add_mul_mod_self_left]
  rw [em]
  generalize (if y * L * n + j + 3 < cs.length then cs.getD (y * L * n + j + 3) 0 else 4321 * ((y * L * n + j : Nat) : Int) + 1) = x
  have hp : (0 : Nat) < 2 ^ dn (j % n) := Nat.pow_pos (by decide)
  obtain ⟨h0, h1⟩ := fmod_range (a := x) hp
  have ec : ((2 ^ dn (j % n) : Nat) : Int) = (2 : Int) ^ dn (j % n) := by simp
  rw [ec] at h0 h1
  refine ⟨h0, ?_⟩
  unfold Dd
  omega

/-- the rows after the i-th depth of the walk -/
def MathAt (cs : List Int) (dn : Nat → Nat) (n L H lN : Nat) (walk : List Nat) (i : Nat) (cur : List (List Int)) : Prop :=
  cur.length = H ∧ ∀ y, y < H → RowSt (lN + 8) n dn (walk.take (i + 1)) (fun _ => walk.getD i 0) (rowOf cs dn n L y) (cur.getD y [])

structure Small (dn : Nat → Nat) (n L H lN : Nat) : Prop where
  l8 : lN = 0 ∨ lN = 8
  n0 : 0 < n
  n3 : n ≤ 3
  L0 : 0 < L
  L3 : L ≤ 3
  H2 : H ≤ 2
  d : ∀ c, lN + 1 ≤ dn c ∧ dn c ≤ lN + 6

theorem kd_same {lN a b : Nat} (h : lN = 0 ∨ lN = 8) (ha : lN < a) (ha' : a ≤ lN + 8) (hb : lN < b) (hb' : b ≤ lN + 8) : (a ≤ 8 → b ≤ 8) ∧ (kdOf a = .H → kdOf b = .H) := by
  refine ⟨fun _ => by omega, fun hk => ?_⟩
  unfold kdOf at *
  by_cases h1 : a > 8
  · rw [if_pos (by omega)]
  · rw [if_neg (by omega)] at hk; cases hk

theorem Small.Ln (S : Small dn n L H lN) : L * n ≤ 9 := Nat.le_trans (Nat.mul_le_mul S.L3 S.n3) (by decide)
theorem rangeMap_getD (dn : Nat → Nat) {n c : Nat} (hc : c < n) : ((List.range n).map dn).getD c 0 = dn c := by simp [List.getD, hc]
theorem rep_getD {n c a : Nat} (hc : c < n) : (List.replicate n a).getD c 0 = a := by simp [List.getD, hc]

theorem args_first (S : Small dn n L H lN) (W : WalkOk dn n lN walk) (hw : 0 < walk.length) : ArgsOk ((List.range n).map dn) (walk.getD 0 0) (rowsOf cs dn n L H) L where
  rows := fun j hj => by
    rw [rowsOf_length] at hj
    rw [rowsOf_getD hj]
    have hm := getD_mem hw
    exact (RowSt.start (M := lN + 8) (n := n) (dep0 := dn) (rowOf_rng j)).rowOk (by simp) S.n0 (fun c hc => rangeMap_getD dn hc) (fun c _ => by have := S.d c; omega) (rowOf_length j) (by rw [rowOf_length]; have := S.Ln; omega)
      (fun h8 c hc => by have := W.gt _ hm c hc; omega)
  L1 := S.L0
  n0 := by simpa using S.n0
  few := by have := S.n3; simp; omega
  fewR := by rw [rowsOf_length]; have := S.H2; omega
  t1 := by have := W.le _ (getD_mem hw); have := S.l8; omega
  d1 := fun j hj => by
    have hj' : j < n := by simpa using hj
    rw [rangeMap_getD dn hj']
    have := S.d j; have := S.l8; omega

theorem math_first (S : Small dn n L H lN) (W : WalkOk dn n lN walk) (hw : 0 < walk.length) : MathAt cs dn n L H lN walk 0 (outOf (psOf ((List.range n).map dn) (walk.getD 0 0)) (rowsOf cs dn n L H)) := by
  refine ⟨by simp [rowsOf_length], fun y hy => ?_⟩
  have e : (outOf (psOf ((List.range n).map dn) (walk.getD 0 0)) (rowsOf cs dn n L H)).getD y [] = scaleRow (psOf ((List.range n).map dn) (walk.getD 0 0)) (rowOf cs dn n L y) := by
    unfold outOf rowsOf
    simp [List.getD, hy]
  rw [e, take_snoc hw]
  exact (RowSt.start (M := lN + 8) (n := n) (dep0 := dn) (rowOf_rng y)).step (by simp) S.n0 (fun c hc => rangeMap_getD dn hc) (fun c _ => by have := S.d c; omega) (fun c hc => W.gt _ (getD_mem hw) c hc) (W.le _ (getD_mem hw))

theorem walk_lo (S : Small dn n L H lN) (W : WalkOk dn n lN walk) {i : Nat} (hi : i < walk.length) : lN < walk.getD i 0 ∧ walk.getD i 0 ≤ lN + 8 := by
  have h1 := W.gt _ (getD_mem hi) 0 S.n0
  have := (S.d 0).1
  exact ⟨by omega, W.le _ (getD_mem hi)⟩

theorem math_step (S : Small dn n L H lN) (W : WalkOk dn n lN walk) (i : Nat) (cur : List (List Int)) (hi : i + 1 < walk.length) (m : MathAt cs dn n L H lN walk i cur) :
    ArgsOk (List.replicate n (walk.getD i 0)) (walk.getD (i + 1) 0) cur L ∧ (kdOf (walk.getD (i + 1) 0) = .H → kdOf (walk.getD i 0) = .H) ∧
      MathAt cs dn n L H lN walk (i + 1) (outOf (psOf (List.replicate n (walk.getD i 0)) (walk.getD (i + 1) 0)) cur) := by
  obtain ⟨hl, hr⟩ := m
  have b1 := walk_lo S W (Nat.lt_of_succ_lt hi)
  have b2 := walk_lo S W hi
  have k := kd_same S.l8 b2.1 b2.2 b1.1 b1.2
  have l8 := S.l8
  refine ⟨⟨fun j hj => ?_, S.L0, by simpa using S.n0, ?_, ?_, by omega, fun j hj => ?_⟩, k.2, by simpa using hl, fun y hy => ?_⟩
  · exact (hr j (hl ▸ hj)).rowOk (by simp) S.n0 (fun c hc => rep_getD hc) (fun c _ => by omega) (rowOf_length j) (by rw [rowOf_length]; have := S.Ln; omega) (fun h8 c hc => k.1 h8)
  · have := S.n3; simp; omega
  · have := S.H2; omega
  · have hj' : j < n := by simpa using hj
    rw [rep_getD hj']
    omega
  · have e : (outOf (psOf (List.replicate n (walk.getD i 0)) (walk.getD (i + 1) 0)) cur).getD y [] = scaleRow (psOf (List.replicate n (walk.getD i 0)) (walk.getD (i + 1) 0)) (cur.getD y []) := by
      unfold outOf
      simp [List.getD, hl ▸ hy]
    rw [e, take_snoc hi]
    exact (hr y hy).step (by simp) S.n0 (fun c hc => rep_getD hc) (fun c _ => by omega) (fun c hc => W.gt _ (getD_mem hi) c hc) (W.le _ (getD_mem hi))

theorem math_home (S : Small dn n L H lN) (W : WalkOk dn n lN walk) (hw : 0 < walk.length) (cur : List (List Int)) (m : MathAt cs dn n L H lN walk (walk.length - 1) cur) (i : Nat) (hi : i < n) :
    ArgsOk [walk.getD (walk.length - 1) 0] (dn i) (cur.map fun xs => pickL xs i n L) L ∧ (kdOf (dn i) = .H → kdOf (walk.getD (walk.length - 1) 0) = .H) ∧
      outOf (psOf [walk.getD (walk.length - 1) 0] (dn i)) (cur.map fun xs => pickL xs i n L) = (rowsOf cs dn n L H).map fun xs => pickL xs i n L := by
  obtain ⟨hl, hr⟩ := m
  have b1 := walk_lo S W (show walk.length - 1 < walk.length by omega)
  have b2 := S.d i
  have k := kd_same S.l8 (show lN < dn i by omega) (by omega) b1.1 b1.2
  have l8 := S.l8
  have et : walk.take (walk.length - 1 + 1) = walk := by rw [Nat.sub_add_cancel hw, List.take_length]
  rw [et] at hr
  refine ⟨⟨fun j hj => ?_, S.L0, by simp, by simp, ?_, by omega, fun j hj => ?_⟩, k.2, ?_⟩
  · have hj' : j < H := by simpa [hl] using hj
    have e : (cur.map fun xs => pickL xs i n L).getD j [] = pickL (cur.getD j []) i n L := by simp [List.getD, hl ▸ hj']
    rw [e]
    exact (hr j hj').homeOk hi (rowOf_length j) (by omega) (by rw [rowOf_length]; have := S.Ln; omega) k.1
  · rw [List.length_map, hl]; have := S.H2; omega
  · have hj0 : j = 0 := by simpa using hj
    subst hj0
    show 1 ≤ walk.getD (walk.length - 1) 0 ∧ walk.getD (walk.length - 1) 0 ≤ 16
    omega
  · refine List.ext_getElem (by simp [hl, rowsOf_length]) fun y h1 h2 => ?_
    have hy : y < H := by simpa [hl] using h1
    have hyc : y < cur.length := hl ▸ hy
    have h := (hr y hy).home hi (rowOf_length y) (by omega) W.nodup (fun v hv => ⟨W.gt v hv i hi, W.le v hv⟩)
    have e1 : cur.getD y [] = cur[y] := by simp [List.getD, hyc]
    rw [e1] at h
    simpa [outOf, rowsOf] using h
end
end Mine

/-! W16 -/
set_option linter.unusedVariables false
set_option maxRecDepth 100000
namespace Mine
open PySem PySem.W PyProof.Rows
open Sem (wp)

theorem up1 {m : Str → Option Value} {x y : Str} {v : Value} {r : Option Value} (h : m y = r) (hne : y ≠ x) : upd m x v y = r := (upd_ne hne).trans h
theorem lawBody_eq : lawBody = [lawSt 0, lawSt 1, lawSt 2, lawSt 3, lawSt 4, lawSt 5, lawSt 6, lawSt 7, lawSt 8, lawSt 9, lawSt 10, lawSt 11] := by rfl

section
variable {prog : Program} {w : World} {A : Around} {E : Value → Shared → Prop} {s : Shared} {d u : Nat} {mg mb : Str → Option Value} {hB : Heap} {aA aR c P : Addr} {cA : Value} {env : Env} {m : Str → Option Value}

/-- the whole body of the law -/
theorem law_body {ax : Addr} {vs : List Value} {xs : List Int} {Q : Flow → Shared → Prop} (hA : OkA A d u) (hd : d < 350) (hu : u ≤ 1000) (T : Txt mg mb hB aA aR c P cA) (l : LF hB c P s env m) (hin : interactive env = false)
    (hm : m (Str.ofString "script") = some (.ref ax)) (hl : s.heap.IsList ax vs.toArray) (hv : IntsAre vs xs) (hz : xs.length ≤ 63)
    (hQ : ∀ s', Rel (XL P env) noV s s' → GS hB c P s'.heap → Q (.ret (.bool true)) s') : wpD (model prog w) A (execs lawBody env) Q s := by
  rw [lawBody_eq]
  obtain ⟨lN, n, L, H, elf, h8, epl, n0, n3, eL, L0, L3, eH, H2, dn, hdn⟩ := nums (cellsOf xs)
  have S : Small dn n L H lN := ⟨h8, n0, n3, L0, L3, H2, fun c => (hdn c).2⟩
  obtain ⟨z3, z27⟩ := cellsOf_len xs
  generalize hcs : cellsOf xs = cs at *
  refine wpD_seq (law_s0 T l hm hl hv hz fun ac s₀ r₀ l₀ rc => ⟨rfl, ?_⟩)
  rw [hcs] at rc
  have c₀ : upd m (Str.ofString "cells") (.ref ac) (Str.ofString "cells") = some (.ref ac) := upd_self
  generalize upd m (Str.ofString "cells") (.ref ac) = m₀ at *
  -- lift
  refine wpD_seq (law_s1 T l₀ c₀ rc z3 fun tl s₁ r₁ l₁ => ⟨rfl, ?_⟩)
  rw [elf] at l₁
  have c₁ := up1 (x := Str.ofString "lift") (v := .int (lN : Int) tl) c₀ (by decide)
  have f₁ : upd m₀ (Str.ofString "lift") (.int (lN : Int) tl) (Str.ofString "lift") = some (.int (lN : Int) tl) := upd_self
  generalize upd m₀ (Str.ofString "lift") (.int (lN : Int) tl) = m₁ at *
  have rc₁ : RowAt .H s₁.heap ac cs := rc.at fun o e hd' => l₀.dk r₁ _ o e hd'
  have R₁ := r₀.trans r₁
  -- planes, length, high
  refine wpD_seq (law_s2 hA.handled T l₁ c₁ rc₁ z3 fun t1 t2 t3 s₂ r₂ l₂ => ⟨rfl, ?_⟩)
  rw [epl, eL, eH] at l₂
  have c₂ := up1 (x := Str.ofString "high") (v := .int (H : Int) t3) (up1 (x := Str.ofString "length") (v := .int (L : Int) t2) (up1 (x := Str.ofString "planes") (v := .int (n : Int) t1) c₁ (by decide)) (by decide)) (by decide)
  have f₂ := up1 (x := Str.ofString "high") (v := .int (H : Int) t3) (up1 (x := Str.ofString "length") (v := .int (L : Int) t2) (up1 (x := Str.ofString "planes") (v := .int (n : Int) t1) f₁ (by decide)) (by decide)) (by decide)
  have p₂ := up1 (x := Str.ofString "high") (v := .int (H : Int) t3) (up1 (x := Str.ofString "length") (v := .int (L : Int) t2) (upd_self (m := m₁) (x := Str.ofString "planes") (v := .int (n : Int) t1)) (by decide)) (by decide)
  have L₂ := up1 (x := Str.ofString "high") (v := .int (H : Int) t3) (upd_self (m := upd m₁ (Str.ofString "planes") (.int (n : Int) t1)) (x := Str.ofString "length") (v := .int (L : Int) t2)) (by decide)
  have H₂ : upd (upd (upd m₁ (Str.ofString "planes") (.int (n : Int) t1)) (Str.ofString "length") (.int (L : Int) t2)) (Str.ofString "high") (.int (H : Int) t3) (Str.ofString "high") = some (.int (H : Int) t3) := upd_self
  generalize upd (upd (upd m₁ (Str.ofString "planes") (.int (n : Int) t1)) (Str.ofString "length") (.int (L : Int) t2)) (Str.ofString "high") (.int (H : Int) t3) = m₂ at *
  have rc₂ : RowAt .H s₂.heap ac cs := rc₁.at fun o e hd' => l₁.dk r₂ _ o e hd'
  have R₂ := R₁.trans r₂
  -- depths
  refine wpD_seq (law_s3 hA.handled T l₂ c₂ rc₂ z3 f₂ p₂ n3 fun ad s₃ r₃ l₃ rd => ⟨rfl, ?_⟩)
  rw [dInts_of (fun c => (hdn c).1) n] at rd
  have c₃ := up1 (x := Str.ofString "depths") (v := .ref ad) c₂ (by decide)
  have f₃ := up1 (x := Str.ofString "depths") (v := .ref ad) f₂ (by decide)
  have p₃ := up1 (x := Str.ofString "depths") (v := .ref ad) p₂ (by decide)
  have L₃ := up1 (x := Str.ofString "depths") (v := .ref ad) L₂ (by decide)
  have H₃ := up1 (x := Str.ofString "depths") (v := .ref ad) H₂ (by decide)
  have d₃ : upd m₂ (Str.ofString "depths") (.ref ad) (Str.ofString "depths") = some (.ref ad) := upd_self
  generalize upd m₂ (Str.ofString "depths") (.ref ad) = m₃ at *
  have rc₃ : RowAt .H s₃.heap ac cs := rc₂.at fun o e hd' => l₂.dk r₃ _ o e hd'
  have R₃ := R₂.trans r₃
  -- rows = []
  refine wpD_seq (law_s4 T l₃ fun Dr s₄ r₄ l₄ hDr hDr0 => ⟨rfl, ?_⟩)
  have c₄ := up1 (x := Str.ofString "rows") (v := .ref Dr) c₃ (by decide)
  have f₄ := up1 (x := Str.ofString "rows") (v := .ref Dr) f₃ (by decide)
  have p₄ := up1 (x := Str.ofString "rows") (v := .ref Dr) p₃ (by decide)
  have L₄ := up1 (x := Str.ofString "rows") (v := .ref Dr) L₃ (by decide)
  have H₄ := up1 (x := Str.ofString "rows") (v := .ref Dr) H₃ (by decide)
  have d₄ := up1 (x := Str.ofString "rows") (v := .ref Dr) d₃ (by decide)
  have w₄ : upd m₃ (Str.ofString "rows") (.ref Dr) (Str.ofString "rows") = some (.ref Dr) := upd_self
  generalize upd m₃ (Str.ofString "rows") (.ref Dr) = m₄ at *
  have rc₄ : RowAt .H s₄.heap ac cs := rc₃.at fun o e hd' => l₃.dk r₄ _ o e hd'
  have rd₄ : RowAt .H s₄.heap ad (dInts dn n) := rd.at fun o e hd' => l₃.dk r₄ _ o e hd'
  have R₄ := R₃.trans r₄
  -- the rows
  refine wpD_seq (law_s5 (dn := dn) hA T l₄ hin c₄ rc₄ (by omega) d₄ rd₄ (fun c hc => by have := S.d c; omega) p₄ L₄ H₄ n0 n3 L3 L0 H2 w₄ hDr0 (Nat.le_trans l₃.base hDr) (Nat.ne_of_lt (Nat.lt_of_lt_of_le rc₃.lt hDr)) (Nat.ne_of_lt (Nat.lt_of_lt_of_le rd.lt hDr)) fun s₅ m₅ S₅ r₅ l₅ rows => ⟨rfl, ?_⟩)
  have c₅ := (S₅ _ (by decide)).trans c₄
  have f₅ := (S₅ _ (by decide)).trans f₄
  have p₅ := (S₅ _ (by decide)).trans p₄
  have d₅ := (S₅ _ (by decide)).trans d₄
  have w₅ := (S₅ _ (by decide)).trans w₄
  have dk₅ : ∀ b o, s₃.heap.get? b = some o → Dk o → s₅.heap.get? b = some o := fun b o e hd' => r₅.heap b o (l₃.dk r₄ b o e hd') fun q => by
    rcases q with (q | q) | q
    · subst q; exact l₃.g.notDk e hd'
    · exact dk_fk hd' q.2
    · exact Nat.lt_irrefl _ (Nat.lt_of_lt_of_le (Heap.lt_size e) (q ▸ hDr))
  have rc₅ : RowAt .H s₅.heap ac cs := rc₃.at fun o e hd' => dk₅ _ o e hd'
  have rd₅ : RowAt .H s₅.heap ad (dInts dn n) := rd.at fun o e hd' => dk₅ _ o e hd'
  have R₅ : Rel (XL P env) noV s s₅ := by
    have q : Rel (fun b o => XL P env b o ∨ b = Dr) noV s₃ s₅ := (r₄.weak (fun b o q => .inl q) fun _ q => q).trans r₅
    refine R₃.tf q (fun b o q => ?_) fun k q => q.elim
    rcases q with q | q
    · exact .inr q
    · exact .inl (q ▸ Nat.le_trans R₃.mono.1 hDr)
  -- left, walk
  refine wpD_seq (law_s6 hA.handled T l₅ d₅ rd₅ n0 (fun c hc => (S.d c).2) f₅ (by omega) fun mx Dl Dw s₆ hmx hmx6 r₆ l₆ hDl hDw hDlw rl hDw0 => ⟨rfl, ?_⟩)
  have c₆ := up1 (x := Str.ofString "walk") (v := .ref Dw) (up1 (x := Str.ofString "left") (v := .ref Dl) c₅ (by decide)) (by decide)
  have p₆ := up1 (x := Str.ofString "walk") (v := .ref Dw) (up1 (x := Str.ofString "left") (v := .ref Dl) p₅ (by decide)) (by decide)
  have d₆ := up1 (x := Str.ofString "walk") (v := .ref Dw) (up1 (x := Str.ofString "left") (v := .ref Dl) d₅ (by decide)) (by decide)
  have w₆ := up1 (x := Str.ofString "walk") (v := .ref Dw) (up1 (x := Str.ofString "left") (v := .ref Dl) w₅ (by decide)) (by decide)
  have x₆ := up1 (x := Str.ofString "walk") (v := .ref Dw) (upd_self (m := m₅) (x := Str.ofString "left") (v := .ref Dl)) (by decide)
  have y₆ : upd (upd m₅ (Str.ofString "left") (.ref Dl)) (Str.ofString "walk") (.ref Dw) (Str.ofString "walk") = some (.ref Dw) := upd_self
  generalize upd (upd m₅ (Str.ofString "left") (.ref Dl)) (Str.ofString "walk") (.ref Dw) = m₆ at *
  have rc₆ : RowAt .H s₆.heap ac cs := rc₅.at fun o e hd' => l₅.dk r₆ _ o e hd'
  -- the walk
  have hll : (leftInit mx lN).length = lN + 8 - mx := by simp [leftInit]
  have hmx1 : lN + 1 ≤ mx := Nat.le_trans (S.d 0).1 (hmx 0 n0)
  refine wpD_seq (law_s7 hA T l₆ hin c₆ rc₆ z3 x₆ rl (by omega) (by omega) y₆ hDw0 hDlw ⟨Nat.ne_of_lt (Nat.lt_of_lt_of_le rc₅.lt hDl), Nat.ne_of_lt (Nat.lt_of_lt_of_le rc₅.lt hDw)⟩ ⟨Nat.le_trans l₅.base hDl, Nat.le_trans l₅.base hDw⟩
    fun s₇ m₇ walk left' hw0 hwl hperm S₇ r₇ l₇ rw₇ => ⟨rfl, ?_⟩)
  have W : WalkOk dn n lN walk := walkOk hmx hperm hmx6
  have hw8 : walk.length ≤ 8 := by omega
  have p₇ := (S₇ _ (by decide)).trans p₆
  have d₇ := (S₇ _ (by decide)).trans d₆
  have w₇ := (S₇ _ (by decide)).trans w₆
  have y₇ := (S₇ _ (by decide)).trans y₆
  have dk₇ : ∀ b o, s₅.heap.get? b = some o → Dk o → s₇.heap.get? b = some o := fun b o e hd' => r₇.heap b o (l₅.dk r₆ b o e hd') fun q => by
    rcases q with (q | q) | q | q
    · subst q; exact l₅.g.notDk e hd'
    · exact dk_fk hd' q.2
    · exact Nat.lt_irrefl _ (Nat.lt_of_lt_of_le (Heap.lt_size e) (q ▸ hDl))
    · exact Nat.lt_irrefl _ (Nat.lt_of_lt_of_le (Heap.lt_size e) (q ▸ hDw))
  have rd₇ : RowAt .H s₇.heap ad (dInts dn n) := rd₅.at fun o e hd' => dk₇ _ o e hd'
  have rows₇ := rows.at dk₇
  have R₇ : Rel (XL P env) noV s s₇ := by
    have q : Rel (fun b o => XL P env b o ∨ b = Dl ∨ b = Dw) noV s₅ s₇ := (r₆.weak (fun b o q => .inl q) fun _ q => q).trans r₇
    refine R₅.tf q (fun b o q => ?_) fun k q => q.elim
    rcases q with q | q | q
    · exact .inr q
    · exact .inl (q ▸ Nat.le_trans R₅.mono.1 hDl)
    · exact .inl (q ▸ Nat.le_trans R₅.mono.1 hDw)
  -- now
  refine wpD_seq (law_s8 (dn := dn) hA hd T l₇ w₇ rows₇ d₇ rd₇ n3 y₇ rw₇ hw0 (args_first S W hw0) fun Dn s₈ r₈ l₈ rn => ⟨rfl, ?_⟩)
  have p₈ := up1 (x := Str.ofString "now") (v := .ref Dn) p₇ (by decide)
  have d₈ := up1 (x := Str.ofString "now") (v := .ref Dn) d₇ (by decide)
  have w₈ := up1 (x := Str.ofString "now") (v := .ref Dn) w₇ (by decide)
  have y₈ := up1 (x := Str.ofString "now") (v := .ref Dn) y₇ (by decide)
  have v₈ : upd m₇ (Str.ofString "now") (.ref Dn) (Str.ofString "now") = some (.ref Dn) := upd_self
  generalize upd m₇ (Str.ofString "now") (.ref Dn) = m₈ at *
  have rd₈ : RowAt .H s₈.heap ad (dInts dn n) := rd₇.at fun o e hd' => l₇.dk r₈ _ o e hd'
  have rw₈ : RowAt .H s₈.heap Dw (natInts walk) := rw₇.at fun o e hd' => l₇.dk r₈ _ o e hd'
  have rows₈ := rows₇.at fun b o e hd' => l₇.dk r₈ b o e hd'
  have R₈ := R₇.trans r₈
  -- zip
  refine wpD_seq (law_s9 (L := L) (Math := MathAt cs dn n L H lN walk) hA hd T l₈ p₈ n3 y₈ rw₈ hw0 hw8 v₈ rn (math_first S W hw0) (fun i cur hi mi => math_step S W i cur hi mi) fun s₉ m₉ Dz cur S₉ r₉ l₉ v₉ rn₉ mth => ⟨rfl, ?_⟩)
  have p₉ := (S₉ _ (by decide)).trans p₈
  have d₉ := (S₉ _ (by decide)).trans d₈
  have w₉ := (S₉ _ (by decide)).trans w₈
  have y₉ := (S₉ _ (by decide)).trans y₈
  have rd₉ : RowAt .H s₉.heap ad (dInts dn n) := rd₈.at fun o e hd' => l₈.dk r₉ _ o e hd'
  have rw₉ : RowAt .H s₉.heap Dw (natInts walk) := rw₈.at fun o e hd' => l₈.dk r₉ _ o e hd'
  have rows₉ := rows₈.at fun b o e hd' => l₈.dk r₉ b o e hd'
  have R₉ := R₈.trans r₉
  have hLn := S.Ln
  -- home
  refine wpD_seq (law_s10 (L := L) (orig := rowsOf cs dn n L H) (cur := cur) hA hd hu T l₉ p₉ n3 y₉ rw₉ hw0 hw8 d₉ rd₉ v₉ rn₉ w₉ rows₉ (by omega) (by omega) (fun j hj => ?_) (fun j hj => ?_) (by rw [rowsOf_length]; omega) (by rw [mth.1]; omega)
    (fun i hi => (math_home S W hw0 cur mth i hi).1) (fun i hi => (math_home S W hw0 cur mth i hi).2.1) (fun i hi => (math_home S W hw0 cur mth i hi).2.2) fun s' r g' => ⟨rfl, ?_⟩)
  · rw [rowsOf_length] at hj
    rw [rowsOf_getD hj, rowOf_length]
  · rw [mth.1] at hj
    rw [(mth.2 j hj).len, rowOf_length]
  · exact wpD_Return (wpD_of (wpAny_pure (hQ s' (R₉.trans r) g')))
end
end Mine

/-! D1 -/
open PySem PySem.W PyProof.Rows
namespace Mine

theorem thread_endsD {prog : Program} {w : World} {t : Sem Fin} {s : Shared} {R : Result → Shared → Prop} (hreg : s.asleep)
    (h : wpD (model prog w) callerA t (fun fin s' => ∃ f, fin = .done f ∧ (R (.ok f) s' ∧ leftWithCleanup s'.gens = false)) s) :
    ∃ n r s' s'', runN (denote table) prog w n s ⟨t, .builtin "claim.caller" {}, default, []⟩ = .halted (outcomeOf r) s' ∧
      schedN (denote table) prog w n (.single s ⟨t, .builtin "claim.caller" {}, default, []⟩) = .halted (outcomeOf r) s' ∧ s'.forget = s''.forget ∧ R r s'' := by
  have hcl : Cl (⟨.builtin "claim.caller" {}, none, none, [], none⟩ : Ctx) := ⟨by decide +kernel, fun x hx => nomatch hx⟩
  obtain ⟨n, r, s₁, s₂, hs, hn, hfo, hR⟩ := wp_halts_full (M := model prog w) (c := .builtin "claim.caller" {}) (t := t) (R := R) (p := default) hreg
    (Sem.wp_mono _ _ t (fun fin p' s' h' => by obtain ⟨f, rfl, hf⟩ := h'; exact hf) (fun _ _ _ x => x.elim) default s (h _ default caller_in hcl))
  exact ⟨n, r, s₂, s₁, hn, hs, hfo, hR⟩

theorem callFrom_of_specD {c : ClaimW} {tree : List Value → Sem Fin} {w : World} {s : Shared} {free : Addr → Prop} {gens : Prop} {kept : Heap → Prop} (hz : s.asleep) (hgens : s.gens = #[])
    (hspec : ∀ args, c.pre args = true → WData.layableAll args = true →
      ∀ ord : List DictEntry → List DictEntry, (∀ l, (ord l).Perm l) →
      ∃ vs s₁, layAllW c.records (classAt s.heap) w.params ord args s = some (vs, s₁) ∧
        wpD (model c.prog w) callerA (tree vs) (fun fin s' => ∃ f, fin = .done f ∧ (c.Ends s args vs s₁ (.ok f) s' ∧ s'.os = s.os ∧ AllBare s'.gens ∧ kept s'.heap)) s₁) :
    c.CallFrom (fun vs => ⟨tree vs, .builtin "claim.caller" {}, default, []⟩) w free gens kept s := by
  intro args hpre hlay ord hord
  obtain ⟨vs, s₁, hlaid, hcode⟩ := hspec args hpre hlay ord hord
  have hal := layAllW_rest _ _ _ hlaid
  obtain ⟨k, r, s', s'', hrun, hsched, hfo, hcase, hos, hkp⟩ := thread_endsD (prog := c.prog) (w := w) (t := tree vs) (s := s₁)
    (R := fun r s' => c.Ends s args vs s₁ r s' ∧ s'.os = s.os ∧ kept s'.heap)
    (Shared.asleep_of_life hal.2.2.2 hz)
    (wpD_mono hcode (by
      rintro fin s' ⟨f, e, h1, h2, h3, h4⟩
      exact ⟨f, e, ⟨h1, h2, h4⟩, leftWithCleanup_false_of_bare h3⟩))
  obtain ⟨eh, _, _, eo, _⟩ := Shared.forget_eq hfo
  have hcase := hcase.congr eh
  have hkp : kept s'.heap := by rw [eh]; exact hkp
  rw [← eo] at hos
  have hlife : s'.heap.life = s.heap.life := (runN_life _ _ _ hrun).trans hal.2.2.2
  refine ⟨vs, s₁, hlaid, k, _, s', hsched, ?_, (fun _ i x hx => by rw [hgens] at hx; simp at hx), hkp, by rw [hlife], Shared.rest_eq hos⟩
  rcases hcase with ⟨v, rfl, d1, d2, d3, d4, d5⟩ | ⟨e, ob, cls, rfl, d1, d2, d3, d4, d5⟩
  · exact .inl ⟨v, rfl, d1, d2, d3, fun b o y _ => d4 b o y, d5⟩
  · exact .inr ⟨e, ob, cls, rfl, d1, d2, d3, d4, fun b o y _ => d5 b o y⟩

abbrev WalkD (q : Program) (loose : List Str) (XP : (Str → Option Value) → Heap → Prop) (YP : World → Heap → Prop) (r : RowW) (d : DefRec) (kwd : List (Str × Expr)) (run : Value → List Value → Sem Value) : Prop :=
  ∀ (w : World) (s₀ s₁ : Shared) (mg mb : Str → Option Value), Ground q loose r.records XP w s₀ mg mb s₁.heap → YP w s₁.heap → ∀ (a : Addr) (o : Obj) (pm cd doc dV kV : Value), s₁.heap.get? a = some o →
    o.data = .func { Calls.docDef d.name d.params d.body d.scope pm cd doc with defaults := dV, kwdefaults := kV } → s₁.heap.CodeRec cd d.name → Dflts mg s₁.heap d.params kwd dV kV → mg d.name = some (.ref a) → s₁.gens = #[] →
    ∀ (args : List WData) (vals : List Value) (as : List Addr), r.claim.pre args = true → WData.layableAll args = true → ReadsAllW r.records (classAt s₀.heap) s₁.heap vals args as → WellAll w.params s₁.heap vals args → (∀ a ∈ as, (a == sysModules) = false) →
      wpD (model r.prog w) callerA (run (.ref a) vals) (fun v s' => GoodWG r.claim (classAt s₀.heap) (ExcName.means s₀.heap) args s₁ (.ok (.ret v)) s') s₁

theorem PySem.W.holds_open {r : OpenRow} {q : Program} {loose : List Str} {Xt : Shared → Bool} {XP : (Str → Option Value) → Heap → Prop} {α : Type} {Yf : Shared → α} {Ya : World → α} {YP : World → Heap → Prop} {d : DefRec} {kwd : List (Str × Expr)} {N : Nat}
    (left : LeftO r.prog q loose Xt Yf Ya N) (hY : ∀ w s, Yf s = Ya w → YP w s.heap) (hYk : ∀ w h h', YP w h → (∀ b o, h.get? b = some o → h'.get? b = some o) → YP w h')
    (hX : ∀ s, Xt s = true → XP (s.heap.nsMap mainGlobals) s.heap) (hXk : ∀ mg h h', XP mg h → (∀ b o, h.get? b = some o → h'.get? b = some o) → XP mg h')
    (hdef : defOf q r.name = some (d, kwd)) (hp : r.prog.theDef r.name = some (d.params, d.body, d.scope)) (hk : kwWritten? d.params.kwonlyargs d.params.kw_defaults = some kwd) (hRf : ∀ s, Xt s = true → RecFacts r.records s.heap) (hwr : (!r.writes || r.records.isEmpty) = true)
    (k1 : r.wellSaid = true) (ok : (chainsOk q && opensWell r.prog && (frees r.toRowW && r.within.isEmpty)) = true) (hb : r.prog.bare) (hw : r.toRowW.promised)
    (call : WalkD q loose XP YP r.toRowW d kwd fun f vs => PySem.call f vs) : r.Holds := by
  refine ⟨k1, hw, ?_⟩
  obtain ⟨ok, k5⟩ := Bool.and_eq_true_iff.mp ok
  obtain ⟨hch, o1⟩ := Bool.and_eq_true_iff.mp ok
  obtain ⟨k5, k6⟩ := Bool.and_eq_true_iff.mp k5
  obtain ⟨hsame, hu, ha, hap, hm⟩ := frees_parts k5
  refine ⟨⟨hb, o1, by show r.makers.map _ = []; rw [hm]; rfl⟩, hw.witness, fun w => ⟨(left.behind hX hch w).1, fun s' hs' => ?_⟩⟩
  obtain ⟨s₀, hf, hg0, s, hT, hz, hgens, hg, G00, y⟩ := (left.behind (XP := fun mg h => XP mg h ∧ RecFacts r.records h) (fun s hs => ⟨hX s hs, hRf s hs⟩) hch w).2 s' hs'
  have G0 : Ground q loose [] XP w s (s.heap.nsMap mainGlobals) (s.heap.nsMap builtinsNs) s.heap := ⟨G00.T, G00.B, G00.D, G00.TE, G00.TD, G00.W, G00.X.1, G00.cls, G00.has, G00.apart, G00.once, G00.K⟩
  have RF := G00.X.2
  have hT' := hT
  refine ⟨s₀, hf, hg0, s, hT, (fun n hn => ?_), RF.1, RF.2.1, ?_⟩
  · obtain rfl : n = r.name := by split at hn <;> simp_all
    exact pinned_of_view hg G0 hdef hp hk
  have hgens : s.gens = #[] := Array.eq_empty_of_size_eq_zero (beq_iff_eq.mp hgens)
  have G : Ground q loose r.records XP w s _ _ s.heap := RF.ground G0
  refine callFrom_of_specD (c := r.claim) (tree := fun vs => do match ← nsGet mainNs r.name with
      | some f => do ret (← PySem.call f vs)
      | none => unsupported "claim.caller:no-such-global") hz hgens fun args hpre hlay ord hord => ?_
  obtain ⟨⟨vs, s₁⟩, hlaid⟩ := Option.isSome_iff_exists.mp (layAllW_isSome (P := w.params) (ord := ord) G.has args r.args s (pre_splitW hpre).1)
  have keeps := layAllW_keeps _ _ _ hlaid
  have hal := layAllW_rest _ _ _ hlaid
  obtain ⟨as, hrd, hin, hold⟩ := reads_layAllW hord _ _ _ hlaid hlay s₁.heap (fun _ _ e => e)
  have L : Laid r.records w s s₁ args vs as := ⟨⟨ord, hord, hlaid⟩, hrd, hin, hold, keeps, hal.1.trans hgens, hal.2.2.1⟩
  have G₁ := G.keeps hXk keeps
  obtain ⟨a, o, pm, cd, doc, dV, kV, h1, h2, h3, h4, h5⟩ := G₁.fn hdef
  have h := call w s s₁ _ _ G₁ (hYk _ _ _ (hY w s y) keeps) a o pm cd doc dV kV h2 h3 h4 h5 (defOf_name hdef ▸ h1) L.gens args vs as hpre hlay L.reads L.well (L.low G.low)
  have hi := ident_freeW hu ha hap
  have hwi : r.claim.within = [] := List.isEmpty_iff.mp k6
  refine ⟨vs, s₁, hlaid, wpD_bind (wpD_of (wpAny_nsGet G₁.T.g ?_))⟩
  rw [h1]
  refine wpD_bind (wpD_mono h fun v s' g => wpD_pure ⟨_, rfl, ?_⟩)
  have z := g.laid (c := r.claim) hsame hwi hi L
  exact ⟨z.1, z.2.1, z.2.2, fun q => ⟨namesKept_of hT' hg _ keeps g.2.1.old, noTable hwr q⟩⟩

set_option maxRecDepth 100000 in
set_option maxHeartbeats 8000000 in
open_top hd for PySem.Challenge.rw_fi0019_01

end Mine

/-! W17 -/
set_option linter.unusedVariables false
set_option maxRecDepth 100000
open PySem PySem.W PyProof.Rows
namespace Mine

theorem OkA.callerX : OkA callerA 301 10 := ⟨by first | rfl | decide, by first | rfl | decide, by decide, by decide⟩

abbrev recAt (name : Str) (i : Nat) (p : Pos) : DefRec := { name := name, params := dParams (stAt i), body := dBody (stAt i), scope := dScope (stAt i), pos := p }

theorem txt_of {q : Program} {loose : List Str} {R : WRecords} {XP : (Str → Option Value) → Heap → Prop} {w : World} {s₀ : Shared} {mg mb : Str → Option Value} {h : Heap} {pR : Pos} {aA : Addr} {cA : Value} (G : Ground q loose R XP w s₀ mg mb h)
    (gA : mg (Str.ofString "array") = some (.ref aA)) (fA : FnAt h (Str.ofString "array") 1 aA cA) (eR : defOf q (Str.ofString "rescale_rows") = some (recAt (Str.ofString "rescale_rows") 3 pR, []))
    (fR : (recsOf q).find? (fun e => e.name == Str.ofString "rescale_rows") = some (recAt (Str.ofString "rescale_rows") 3 pR))
    (free : ∀ x ∈ [Str.ofString "bytearray", Str.ofString "list", Str.ofString "set", Str.ofString "len", Str.ofString "range", Str.ofString "iter", Str.ofString "zip", Str.ofString "max"], mg x = none)
    (dR : (dParams (stAt 3)).defaults = []) : ∃ aR c P, Txt mg mb h aA aR c P cA := by
  obtain ⟨aR, oR, pmR, cdR, docR, dVR, kVR, r1, r2, r3, r4, r5⟩ := G.fn eR
  obtain ⟨aR', oR', fd, c, P, t1, t2, t3, t4, t5, t6⟩ := G.T.tab _ (List.mem_of_find?_eq_some fR)
  have ea : aR' = aR := by
    have t1 : mg (Str.ofString "rescale_rows") = _ := t1
    rw [r1] at t1
    injection t1 with t1
    injection t1 with t1
    exact t1.symm
  subst ea
  rw [r2] at t2
  have eo : oR = oR' := Option.some.inj t2
  subst eo
  rw [r3] at t3
  injection t3 with t3
  subst t3
  have ec : cdR = .ref c := t4
  subst ec
  refine ⟨aR', c, P, ⟨G.T.g, G.T.b, G.T.nolimit, G.T.builtins, G.T.bmain⟩, fA, gA, ⟨⟨oR, pmR, docR, dVR, kVR, r2, r3, fun h => absurd h (by decide), fun _ => ?_⟩, r4⟩, r1, free, t5, t6⟩
  rcases r5.pos with ⟨_, h1⟩ | ⟨h1, _⟩
  · exact h1
  · exact absurd dR h1

theorem oldK_of {mg mb : Str → Option Value} {s s' : Shared} {aA aR c P : Addr} {cA : Value} {X : Addr → Obj → Prop} (T : Txt mg mb s.heap aA aR c P cA) (r : Rel X noV s s') (hX : ∀ b o, X b o → b = P ∨ s.heap.objs.size ≤ b) (g : GS s.heap c P s'.heap) : OldK s.heap s'.heap := by
  have hP := T.tabB.2.2
  obtain ⟨ps, _, hT⟩ := g.tab
  have kept : ∀ b o, b ≠ P → s.heap.get? b = some o → s'.heap.get? b = some o := fun b o hb e => r.heap b o e fun q => by
    rcases hX b o q with h | h
    · exact hb h
    · exact Nat.lt_irrefl _ (Nat.lt_of_lt_of_le (Heap.lt_size e) h)
  refine ⟨fun b o e => ?_, fun b o e => ?_⟩
  · by_cases hb : b = P
    · subst hb
      rw [hP] at e
      cases e
      refine .inr (.inl ⟨T.tabB.2.isCodeTable, rfl, #[], ps, rfl, ?_⟩)
      have := hT.2
      simpa using this
    · exact .inl (kept b o hb e)
  · by_cases hb : b = P
    · subst hb; exact ⟨_, hT.2⟩
    · exact ⟨o, kept b o hb e⟩

theorem law_call {prog : Program} {w : World} {s : Shared} {mg mb : Str → Option Value} {aA aR c P fa ax : Addr} {cA : Value} {o : Obj} {pm cd doc dV kV : Value} {vs : List Value} {xs : List Int} {Q : Value → Shared → Prop}
    (T : Txt mg mb s.heap aA aR c P cA) (hdv : dV = .none) (ho : s.heap.get? fa = some o) (hd : o.data = .func { Calls.docDef (Str.ofString "law") (dParams (stAt 5)) lawBody lawSc pm cd doc with defaults := dV, kwdefaults := kV }) (hcd : s.heap.CodeRec cd (Str.ofString "law"))
    (hl : s.heap.IsList ax vs.toArray) (hv : IntsAre vs xs) (hz : xs.length ≤ 63) (hg : s.gens = #[])
    (hQ : ∀ s', OldK s.heap s'.heap → s'.os = s.os → AllBare s'.gens → Q (.bool true) s') : wpD (model prog w) callerA (call (.ref fa) [.ref ax]) Q s := by
  subst hdv
  refine wpD_call_user (binds := [(Str.ofString "script", .ref ax)]) lawSc [Str.ofString "script"] (by decide) ho hd T.glb.lim hcd rfl (BindsTo.of_eq rfl) rfl rfl rfl rfl law_sc rfl (by decide +kernel) (fun env s₂ he r own F => ?_) rfl rfl
  obtain ⟨L, he⟩ := he
  have g₀ : GS s.heap c P s.heap := ⟨fun b o _ e => e, #[], T.tabB⟩
  have l : LF s.heap c P s₂ env (updAll [(Str.ofString "script", .ref ax)] fun _ => none) := ⟨F, g₀.rel T r fun _ _ q => q.elim, own⟩
  refine law_body (OkA.callerX.deeper env) (by decide) (by decide) T l (by rw [he]; rfl) (by show upd (fun _ => none) (Str.ofString "script") (.ref ax) (Str.ofString "script") = _; exact upd_self) (hl.at fun o e => r.keeps _ o e) hv hz fun s' r' g' => ?_
  have R : Rel (XL P env) noV s s' := (r.up).trans r'
  exact hQ s' (oldK_of T R (fun b o q => by
    rcases q with q | q
    · exact .inl q
    · exact .inr (own b q.1)) g') R.os (R.bare (by rw [hg]; intro x hx; simp at hx))

def dPos : Stmt → Pos
  | .FunctionDef (pos := p) .. => p
  | _ => default
theorem fR : (recsOf hd.view_39).find? (fun e => e.name == Str.ofString "rescale_rows") = some (recAt (Str.ofString "rescale_rows") 3 (dPos (stAt 3))) := by
  first | rfl | with_unfolding_all rfl | kernel_rfl
theorem eR : defOf hd.view_39 (Str.ofString "rescale_rows") = some (recAt (Str.ofString "rescale_rows") 3 (dPos (stAt 3)), []) := by
  unfold defOf
  rw [fR]
  rfl
theorem post_true (d : WData) : PySem.Challenge.rw_fi0019_01.row.claim.post [d] (.bool true) [d] = true := by
  first | rfl | with_unfolding_all rfl | kernel_rfl

theorem holdsX : PySem.Challenge.rw_fi0019_01.Holds := by
  refine Mine.hd ?_
  intro w s₀ s₁ mg mb G Y fa o pm cd doc dV kV ho hdd hcd hD hmg hg args vals as hpre hlay hrd hwl hlo
  have free : ∀ x ∈ [Str.ofString "bytearray", Str.ofString "list", Str.ofString "set", Str.ofString "len", Str.ofString "range", Str.ofString "iter", Str.ofString "zip", Str.ofString "max"], mg x = none := fun x hx => by
    have h1 : ∀ y ∈ [Str.ofString "bytearray", Str.ofString "list", Str.ofString "set", Str.ofString "len", Str.ofString "range", Str.ofString "iter", Str.ofString "zip", Str.ofString "max"], y ∉ startupNames := by decide +kernel
    have h2 : ∀ y ∈ [Str.ofString "bytearray", Str.ofString "list", Str.ofString "set", Str.ofString "len", Str.ofString "range", Str.ofString "iter", Str.ofString "zip", Str.ofString "max"], y ∉ looseW hd.view_39 [Str.ofString "array"] := by decide +kernel
    have h3 : ∀ y ∈ [Str.ofString "bytearray", Str.ofString "list", Str.ofString "set", Str.ofString "len", Str.ofString "range", Str.ofString "iter", Str.ofString "zip", Str.ofString "max"], y ∉ (recsOf hd.view_39).map (·.name) := by decide +kernel
    have h4 : ∀ y ∈ [Str.ofString "bytearray", Str.ofString "list", Str.ofString "set", Str.ofString "len", Str.ofString "range", Str.ofString "iter", Str.ofString "zip", Str.ofString "max"], y ∉ (litsOf hd.view_39).map (·.1) := by decide +kernel
    have h5 : ∀ y ∈ [Str.ofString "bytearray", Str.ofString "list", Str.ofString "set", Str.ofString "len", Str.ofString "range", Str.ofString "iter", Str.ofString "zip", Str.ofString "max"], y ∉ (clssOf hd.view_39 (looseW hd.view_39 [Str.ofString "array"])).map (·.name) := by decide +kernel
    exact G.T.free x (h1 x hx) (h2 x hx) (h3 x hx) (h4 x hx) (h5 x hx)
  have KX := kIn_of Y
  have fA : FnAt s₁.heap (Str.ofString "array") 1 23 (.ref 22) := by
    refine ⟨⟨_, _, _, _, _, KX 23 _ (by rfl), by rfl, fun _ => ⟨16, _, _, _, by rfl, KX 16 _ (by rfl), by rfl⟩, fun h => absurd rfl h⟩, ?_⟩
    exact ⟨22, _, _, _, rfl, KX 22 _ (by rfl), by rfl, by rfl⟩
  have gA : mg (Str.ofString "array") = some (.ref 23) := mg_of KX G.T.g (by rfl)
  obtain ⟨aR, c, P, T⟩ := txt_of (pR := dPos (stAt 3)) G gA fA eR fR free rfl
  have hdv : dV = .none := by
    rcases hD.pos with ⟨_, h⟩ | ⟨h, _⟩
    · exact h
    · exact absurd rfl h
  wrow_args hpre hlay hrd hwl hlo
  rename_i xs _ _ _ _ _ _ _ ax vs _ hL _ _ _ hI _ hz _
  refine law_call T hdv ho hdd hcd hL hI ?_ hg fun s' k1 k2 k3 => ⟨.inl ⟨.bool true, .bool true, [], rfl, fun _ => rfl, .bool true, post_true _, fun _ => ⟨List.nodup_nil, fun a ha => nomatch ha⟩⟩, k1, k2, k3⟩
  omega
end Mine

theorem PySem.Challenge.cw_fi0019_01_holds : PySem.Challenge.rw_fi0019_01.Holds := by
  exact Mine.holdsX
