/-
  A region that draws its order, walked once in the order of the text: operations may call functions and make memory, so long as each leaves a world that extends the one it got (a preorder R), and what is told of a made value stays true under R. No condition of the statements' own.
-/
import Derived.Still
import Derived.StillTail
import Derived.Deep.Quiet
import Derived.Deep.QuietTactic
import Derived.Below
set_option linter.unusedVariables false
set_option linter.unusedSimpArgs false
namespace Go.Stab

/-- a world that extends the base -/
structure Ext (R : World → World → Prop) (w0 : World) where
  w : World
  h : R w0 w

def Cls (R : World → World → Prop) (w0 : World) : World → Prop := fun w => ∃ x : Ext R w0, w = x.w

abbrev Facts := Nat → World → Prop
def noFacts : Facts := fun _ _ => True
def setF (fs : Facts) (k : Nat) (p : World → Prop) : Facts := fun j w => (j = k → p w) ∧ fs j w
theorem setF_comm (fs : Facts) (i j : Nat) (p q : World → Prop) : setF (setF fs i p) j q = setF (setF fs j q) i p := by
  funext k w
  exact propext (by unfold setF; exact and_left_comm)
theorem setF_new {fs : Facts} {k : Nat} {p : World → Prop} {w : World} (h : setF fs k p k w) : p w := h.1 rfl
theorem setF_mk {fs : Facts} {k m : Nat} {p : World → Prop} {w : World} (h : fs m w) (hp : p w) : setF fs k p m w := ⟨fun _ => hp, h⟩

section
variable {P : Program} {ops : Array Oper} {md : Region.Mode} {R : World → World → Prop} {w0 : World} {D : Nat → Nat → Bool} {F : Nat → Value → World → Prop} {ab pc : Nat → Bool}

def Kn (R : World → World → Prop) (w0 : World) (D : Nat → Nat → Bool) (fs : Facts) (k : Nat) (w : World) : Prop := R w0 w ∧ ∀ m, D k m = true → fs m w

def upon (P : Program) (R : World → World → Prop) (w : World) (G : Value → World → Prop) : Result Next → Prop
  | .ok (.value u) w' => R w w' ∧ G u w'
  | .ok .skip w' => R w w' ∧ G undef w'
  | .ok (.enter f args) w' => Calls P f args w' (fun e w'' => ∃ v, e = .returned v ∧ R w w'' ∧ G v w'')
  | _ => False

/-- an operation whose result is told of by F -/
def absOp (P : Program) (R : World → World → Prop) (w0 : World) (D : Nat → Nat → Bool) (F : Nat → Value → World → Prop) (k : Nat) (o : Oper) (a : Act) (fs : Facts) (K : Act → Facts → Prop) : Prop :=
  (∀ w, Kn R w0 D fs k w → upon P R w (F k) ((execOp a.eval o).run P w)) ∧ ∀ v, (∃ w, R w0 w ∧ (∀ m, fs m w) ∧ F k v w) → K (a.put o.dst v) (setF fs k (F k v))

/-- an operation (a call) that gives one value in every world -/
def oneOp (P : Program) (R : World → World → Prop) (w0 : World) (o : Oper) (a : Act) (K : Act → Prop) : Prop :=
  ∃ v, (∀ w, R w0 w → upon P R w (fun u _ => u = v) ((execOp a.eval o).run P w)) ∧ K (a.put o.dst v)

def plainB' : Callee → Bool
  | .builtin .len | .builtin .cap | .builtin .min | .builtin .max => true
  | _ => false
def plain : Op → Bool
  | .call c => plainB' c.callee
  | .go _ | .defer _ | .send .. | .recv .. | .select .. => false
  | _ => true

def doOp (P : Program) (R : World → World → Prop) (w0 : World) (D : Nat → Nat → Bool) (F : Nat → Value → World → Prop) (ab pc : Nat → Bool) (k : Nat) (o : Oper) (a : Act) (fs : Facts) (K : Act → Facts → Prop) : Prop :=
  if ab k then absOp P R w0 D F k o a fs K else if pc k then oneOp P R w0 o a (fun a' => K a' fs) else o.quiet P a (Cls R w0) (fun a' => K a' fs)

def wpStab (P : Program) (ops : Array Oper) (R : World → World → Prop) (w0 : World) (D : Nat → Nat → Bool) (F : Nat → Value → World → Prop) (ab pc : Nat → Bool) (Q : Act → Facts → Prop) : Nat → List Oper → Act → Facts → Prop
  | _, [], a, fs => Q a fs
  | k, o :: rest, a, fs =>
    if Region.wanted o (yielded ops a.tmps) then doOp P R w0 D F ab pc k o a fs (wpStab P ops R w0 D F ab pc Q (k + 1) rest)
    else wpStab P ops R w0 D F ab pc Q (k + 1) rest (a.put o.dst undef) fs

def sOp (P : Program) (ops : Array Oper) (R : World → World → Prop) (w0 : World) (D : Nat → Nat → Bool) (F : Nat → Value → World → Prop) (ab pc : Nat → Bool) (i : Nat) (K : Act → Facts → Prop) (a : Act) (fs : Facts) : Prop :=
  match ops[i]? with
  | none => K a fs
  | some o => if Region.wanted o (yielded ops a.tmps) then doOp P R w0 D F ab pc i o a fs K else K (a.put o.dst undef) fs

theorem doOp_mono {k : Nat} {o : Oper} {a : Act} {fs : Facts} {K K' : Act → Facts → Prop} (h : ∀ a fs, K a fs → K' a fs) (hh : doOp P R w0 D F ab pc k o a fs K) : doOp P R w0 D F ab pc k o a fs K' := by
  unfold doOp at *
  split
  · rename_i hab
    simp only [hab, if_true] at hh
    exact ⟨hh.1, fun v hv => h _ _ (hh.2 v hv)⟩
  · rename_i hab
    simp only [hab] at hh
    split
    · rename_i hpc
      simp only [hpc, if_true] at hh
      obtain ⟨v, h1, h2⟩ := hh
      exact ⟨v, h1, h _ _ h2⟩
    · rename_i hpc
      simp only [hpc] at hh
      obtain ⟨v, h1, h2⟩ := hh
      exact ⟨v, h1, h _ _ h2⟩

theorem sOp_mono {i : Nat} {a : Act} {fs : Facts} {K K' : Act → Facts → Prop} (h : ∀ a fs, K a fs → K' a fs) (hh : sOp P ops R w0 D F ab pc i K a fs) : sOp P ops R w0 D F ab pc i K' a fs := by
  unfold sOp at *
  split
  · rename_i hn; simp only [hn] at hh; exact h _ _ hh
  · rename_i o ho
    simp only [ho] at hh
    split
    · rename_i hw; simp only [hw, if_true] at hh; exact doOp_mono h hh
    · rename_i hw; simp only [hw] at hh; exact h _ _ hh

def wpAnyT (P : Program) (md : Region.Mode) (ops : Array Oper) (R : World → World → Prop) (w0 : World) (D : Nat → Nat → Bool) (F : Nat → Value → World → Prop) (ab pc : Nat → Bool) (n : Nat) (L : Array Bool → Act → Facts → Prop) : Nat → Array Bool → Act → Facts → Prop
  | 0, listed, a, fs => L listed a fs
  | fuel + 1, listed, a, fs =>
    Region.ready md ops listed ≠ [] ∧ ∀ i ∈ Region.ready md ops listed, i < n ∧ sOp P ops R w0 D F ab pc i (wpAnyT P md ops R w0 D F ab pc n L fuel (listed.setIfInBounds i true)) a fs

theorem plain_no_enter {o : Oper} {ρ : Operand → Value} {w w' : World} {f : FuncId} {args : Array Value} (hp : plain o.op = true) : (execOp ρ o).run P w ≠ .ok (.enter f args) w' := by
  have hv : ∀ (s : Sem Value), ((do pure (Next.value (← s)) : Sem Next)).run P w ≠ .ok (.enter f args) w' := by
    intro s h
    simp only [Sem.run_bind] at h
    cases hs : s.run P w with
    | ok x w1 => rw [hs] at h; cases h
    | halt x w1 => rw [hs] at h; cases h
  have hu : ∀ (s : Sem Unit), ((do s; pure Next.skip : Sem Next)).run P w ≠ .ok (.enter f args) w' := by
    intro s h
    simp only [Sem.run_bind] at h
    cases hs : s.run P w with
    | ok x w1 => rw [hs] at h; cases h
    | halt x w1 => rw [hs] at h; cases h
  obtain ⟨dst, op, type, pos, after, guard⟩ := o
  cases op
  case nilCheck x =>
    intro h
    simp only [execOp] at h
    repeat' split at h
    all_goals first
      | (cases h; done)
      | (simp only [Sem.run_bind] at h
         rename_i t w2 _
         cases hq : (program).run P w with
         | halt x w1 => rw [hq] at h; cases h
         | ok p w1 =>
           rw [hq] at h
           simp only [Result.andThen_ok] at h
           cases hn : (nilAhead (p.types.size + Made.depth) t w2 _).run P w1 with
           | halt x w1 => rw [hn] at h; cases h
           | ok b w3 =>
             rw [hn] at h
             simp only [Result.andThen_ok] at h
             split at h
             · cases h
             · cases h)
  case call c =>
    obtain ⟨callee, cargs, ctypes⟩ := c
    cases callee
    case builtin b =>
      cases b
      all_goals first
        | (cases hp; done)
        | (simp only [execOp, resolve]; exact hv _)
    all_goals (cases hp; done)
  case pick c x y =>
    intro h
    simp only [execOp, Sem.run_bind] at h
    cases hs : (asBool (ρ c)).run P w with
    | ok x w1 => rw [hs] at h; cases h
    | halt x w1 => rw [hs] at h; cases h
  all_goals first
    | (cases hp; done)
    | exact hv _
    | exact hu _
    | (intro h; cases h; done)

structure Pre (R : World → World → Prop) (F : Nat → Value → World → Prop) : Prop where
  refl : ∀ w, R w w
  trans : ∀ {a b c}, R a b → R b c → R a c
  stable : ∀ k v w w', R w w' → F k v w → F k v w'

/-- facts that hold on under R, and a world in which they all hold -/
def Held (R : World → World → Prop) (w0 : World) (fs : Facts) : Prop := (∀ m w w', R w w' → fs m w → fs m w') ∧ ∃ w, R w0 w ∧ ∀ m, fs m w

theorem Held.set (p : Pre R F) {fs : Facts} (h : Held R w0 fs) {k : Nat} {v : Value} (hv : ∃ w, R w0 w ∧ (∀ m, fs m w) ∧ F k v w) : Held R w0 (setF fs k (F k v)) := by
  obtain ⟨w, h1, h2, h3⟩ := hv
  exact ⟨fun m a b hab hm => ⟨fun e => p.stable _ _ _ _ hab (hm.1 e), h.1 _ _ _ hab hm.2⟩, w, h1, fun m => setF_mk (h2 m) h3⟩

theorem upon_some (p : Pre R F) {w : World} {G : Value → World → Prop} {r : Result Next} (h : upon P R w G r) : ∃ v w', R w w' ∧ G v w' := by
  cases r with
  | halt x w' => exact h.elim
  | ok n w' =>
    cases n <;> simp only [upon] at h
    case value u => exact ⟨u, w', h.1, h.2⟩
    case skip => exact ⟨undef, w', h.1, h.2⟩
    case enter f args =>
      obtain ⟨e, w'', fr, ⟨v, _, h1, h2⟩, _⟩ := h []
      exact ⟨v, w'', h1, h2⟩

theorem upon_mono {w : World} {G G' : Value → World → Prop} {r : Result Next} (hG : ∀ v w, G v w → G' v w) (h : upon P R w G r) : upon P R w G' r := by
  cases r with
  | halt x w' => exact h.elim
  | ok n w' =>
    cases n <;> simp only [upon] at h ⊢
    case value u => exact ⟨h.1, hG _ _ h.2⟩
    case skip => exact ⟨h.1, hG _ _ h.2⟩
    case enter f args => exact h.mono fun e w'' ⟨v, he, h1, h2⟩ => ⟨v, he, h1, hG _ _ h2⟩

/-- what the operation whose value is 'u' makes no difference to -/
theorem sOp_unput {i j : Nat} {oi oj : Oper} {u : Value} (hj : ops[j]? = some oj) (hap : oi.apart ops oj = true)
    (hsj : ∀ cs b, oj.op ≠ .select cs b) {K : Act → Facts → Prop} {a : Act} {fs : Facts} (h : sOp P ops R w0 D F ab pc j K (a.put oi.dst u) fs) :
    sOp P ops R w0 D F ab pc j (fun a' fs' => (∃ v, a' = a.put oj.dst v) ∧ K (a'.put oi.dst u) fs') a fs := by
  obtain ⟨h1, h2, h3⟩ := Oper.apart_spec hap
  unfold sOp at *
  simp only [hj] at *
  rw [wanted_put oj a oi.dst u h1] at h
  have he : execOp (a.put oi.dst u).eval oj = execOp a.eval oj := execOp_put oj hsj a oi.dst u h1
  have hc : ∀ v, (a.put oi.dst u).put oj.dst v = (a.put oj.dst v).put oi.dst u := fun v => Act.put_comm a u v h2
  split
  · rename_i hw
    simp only [hw, if_true] at h
    unfold doOp absOp oneOp at *
    split
    · rename_i hab
      simp only [hab, if_true] at h
      rw [he] at h
      exact ⟨h.1, fun v hv => ⟨⟨v, rfl⟩, by rw [← hc]; exact h.2 v hv⟩⟩
    · rename_i hab
      simp only [hab] at h
      split
      · rename_i hpc
        simp only [hpc, if_true] at h
        obtain ⟨v, hv, hk⟩ := h
        rw [he] at hv
        exact ⟨v, hv, ⟨v, rfl⟩, by rw [← hc]; exact hk⟩
      · rename_i hpc
        simp only [hpc] at h
        obtain ⟨v, hv, hk⟩ := h
        refine ⟨v, fun w hw' => ?_, ⟨v, rfl⟩, by rw [← hc]; exact hk⟩
        have := hv w hw'
        unfold Oper.quietAt at *
        rwa [he] at this
  · rename_i hw
    simp only [hw] at h
    exact ⟨⟨undef, rfl⟩, by rw [← hc]; exact h⟩

theorem kn_unset {fs : Facts} {i j : Nat} {p : World → Prop} {w : World} (hD : D j i = false) (h : Kn R w0 D fs j w) : Kn R w0 D (setF fs i p) j w :=
  ⟨h.1, fun m hm => ⟨fun e => (by subst e; rw [hD] at hm; cases hm), h.2 m hm⟩⟩
theorem quiet_det {o : Oper} {ρ : Operand → Value} {w : World} {C C' : World → Prop} {u v : Value} (hp : plain o.op = true) (h : Oper.quietUpon P C w u ((execOp ρ o).run P w)) (h' : Oper.quietUpon P C' w v ((execOp ρ o).run P w)) : u = v := by
  have hne := fun w' f args => plain_no_enter (P := P) (o := o) (ρ := ρ) (w := w) (w' := w') (f := f) (args := args) hp
  generalize (execOp ρ o).run P w = r at *
  cases r with
  | halt x w' => exact h.elim
  | ok n w' =>
    cases n <;> simp only [Oper.quietUpon] at h h'
    case value x => exact h.2.symm.trans h'.2
    case skip => exact h.2.trans h'.2.symm
    case enter f args => exact absurd rfl (hne w' f args)

theorem sOp_swap (p : Pre R F) {i j : Nat} {oi oj : Oper} (hi : ops[i]? = some oi) (hj : ops[j]? = some oj) (hap : oi.apart ops oj = true)
    (hsi : ∀ cs b, oi.op ≠ .select cs b) (hsj : ∀ cs b, oj.op ≠ .select cs b) (hD : D j i = false)
    (hpl : ab j = false → pc j = false → plain oj.op = true) (hpc : ab i = true → ab j = false → pc j = true → False)
    {K : Act → Facts → Prop} {a : Act} {fs : Facts} (hh : Held R w0 fs) (h : sOp P ops R w0 D F ab pc i (fun a' fs' => sOp P ops R w0 D F ab pc j K a' fs') a fs) :
    sOp P ops R w0 D F ab pc j (fun a' fs' => sOp P ops R w0 D F ab pc i K a' fs') a fs := by
  obtain ⟨h1, h2, h3⟩ := Oper.apart_spec hap
  have hei : ∀ v, execOp (a.put oj.dst v).eval oi = execOp a.eval oi := fun v => execOp_put oi hsi a oj.dst v h3
  have hwi : ∀ v, Region.wanted oi (yielded ops (a.put oj.dst v).tmps) = Region.wanted oi (yielded ops a.tmps) := fun v => wanted_put oi a oj.dst v h3
  have hej : ∀ v, execOp (a.put oi.dst v).eval oj = execOp a.eval oj := fun v => execOp_put oj hsj a oi.dst v h1
  have hwj : ∀ v, Region.wanted oj (yielded ops (a.put oi.dst v).tmps) = Region.wanted oj (yielded ops a.tmps) := fun v => wanted_put oj a oi.dst v h1
  have hcm : ∀ u v, (a.put oi.dst u).put oj.dst v = (a.put oj.dst v).put oi.dst u := fun u v => Act.put_comm a u v h2
  -- an operation with one value
  have fixed : ∀ u, sOp P ops R w0 D F ab pc j K (a.put oi.dst u) fs → (∀ v fs', K ((a.put oj.dst v).put oi.dst u) fs' → sOp P ops R w0 D F ab pc i K (a.put oj.dst v) fs') →
      sOp P ops R w0 D F ab pc j (fun a' fs' => sOp P ops R w0 D F ab pc i K a' fs') a fs := fun u hu hk =>
    sOp_mono (fun a' fs' hx => by
      obtain ⟨⟨v, rfl⟩, hx2⟩ := hx
      exact hk v fs' hx2) (sOp_unput (i := i) (oi := oi) hj hap hsj hu)
  generalize hK2 : (fun a' fs' => sOp P ops R w0 D F ab pc j K a' fs') = K2 at h
  unfold sOp at h
  simp only [hi] at h
  by_cases hw : Region.wanted oi (yielded ops a.tmps) = true
  · simp only [hw, if_true] at h
    by_cases hab : ab i = true
    · simp only [doOp, hab, if_true] at h
      obtain ⟨hr, hk⟩ := h
      subst hK2
      obtain ⟨hst, ws, hws, hall⟩ := hh
      obtain ⟨vi0, wi0, hwi1, hwi2⟩ := upon_some p (hr ws ⟨hws, fun m _ => hall m⟩)
      have hex : ∃ w, R w0 w ∧ (∀ m, fs m w) ∧ F i vi0 w := ⟨wi0, p.trans hws hwi1, fun m => hst m _ _ hwi1 (hall m), hwi2⟩
      -- 'i' behind 'j'
      have back : ∀ v fs', (∀ m w, fs' m w → fs m w) →
          (∀ vi, (∃ w, R w0 w ∧ (∀ m, fs' m w) ∧ F i vi w) → K ((a.put oj.dst v).put oi.dst vi) (setF fs' i (F i vi))) → sOp P ops R w0 D F ab pc i K (a.put oj.dst v) fs' := by
        intro v fs' hD' hK
        unfold sOp
        simp only [hi, hwi, hw, if_true, doOp, hab]
        unfold absOp
        rw [hei]
        exact ⟨fun w hw' => hr w ⟨hw'.1, fun m hm => hD' m w (hw'.2 m hm)⟩, hK⟩
      have hk0 := hk vi0 hex
      unfold sOp at hk hk0 ⊢
      simp only [hj, hwj] at hk hk0 ⊢
      by_cases hwj' : Region.wanted oj (yielded ops a.tmps) = true
      · simp only [hwj', if_true] at hk hk0 ⊢
        unfold doOp at hk hk0 ⊢
        by_cases habj : ab j = true
        · simp only [habj, if_true] at hk hk0 ⊢
          unfold absOp at hk hk0 ⊢
          rw [hej] at hk0
          refine ⟨fun w hkn => hk0.1 w (kn_unset hD hkn), fun vj hvj => back vj _ (fun m w hm => hm.2) fun vi hvi => ?_⟩
          obtain ⟨w, hw1, hw2, hw3⟩ := hvi
          have := (hk vi ⟨w, hw1, fun m => (hw2 m).2, hw3⟩).2 vj ⟨w, hw1, fun m => setF_mk (hw2 m).2 hw3, (hw2 j).1 rfl⟩
          rw [hcm, setF_comm] at this
          exact this
        · simp only [habj] at hk hk0 ⊢
          by_cases hpcj : pc j = true
          · exact (hpc hab (by simpa using habj) hpcj).elim
          · simp only [hpcj] at hk hk0 ⊢
            have hplj := hpl (by simpa using habj) (by simpa using hpcj)
            obtain ⟨u0, hu0, _⟩ := hk0
            refine ⟨u0, fun w hc => ?_, back u0 fs (fun m w hm => hm) fun vi hvi => ?_⟩
            · have := hu0 w hc
              unfold Oper.quietAt at *
              rwa [hej] at this
            · obtain ⟨u, hu, hk'⟩ := hk vi hvi
              have e1 := hu0 ws ⟨⟨ws, hws⟩, rfl⟩
              have e2 := hu ws ⟨⟨ws, hws⟩, rfl⟩
              unfold Oper.quietAt at e1 e2
              rw [hej] at e1 e2
              have := quiet_det hplj e1 e2
              subst this
              rw [← hcm]
              exact hk'
      · simp only [hwj'] at hk hk0 ⊢
        exact back undef fs (fun m w hm => hm) fun vi hvi => by rw [← hcm]; exact hk vi hvi
    · simp only [doOp, hab] at h
      by_cases hpci : pc i = true
      · simp only [hpci, if_true] at h
        obtain ⟨u, hu, hk⟩ := h
        subst hK2
        exact fixed u hk fun v fs' hk' => by
          unfold sOp
          simp only [hi, hwi, hw, if_true, doOp, hab, hpci]
          exact ⟨u, fun w hw' => by rw [hei]; exact hu w hw', hk'⟩
      · simp only [hpci] at h
        obtain ⟨u, hu, hk⟩ := h
        subst hK2
        exact fixed u hk fun v fs' hk' => by
          unfold sOp
          simp only [hi, hwi, hw, if_true, doOp, hab, hpci]
          exact ⟨u, fun w hw' => by unfold Oper.quietAt at *; rw [hei]; exact hu w hw', hk'⟩
  · simp only [hw] at h
    subst hK2
    exact fixed undef h fun v fs' hk => by
      unfold sOp
      simp only [hi, hwi, hw]
      exact hk

theorem sOp_mono_held (p : Pre R F) {i : Nat} {a : Act} {fs : Facts} {K K' : Act → Facts → Prop} (hh : Held R w0 fs) (h : ∀ a fs, Held R w0 fs → K a fs → K' a fs) (hs : sOp P ops R w0 D F ab pc i K a fs) : sOp P ops R w0 D F ab pc i K' a fs := by
  unfold sOp at *
  split
  · rename_i hn; simp only [hn] at hs; exact h _ _ hh hs
  · rename_i o ho
    simp only [ho] at hs
    split
    · rename_i hw
      simp only [hw, if_true] at hs
      unfold doOp at *
      split
      · rename_i hab
        simp only [hab, if_true] at hs
        exact ⟨hs.1, fun v hv => h _ _ (hh.set p hv) (hs.2 v hv)⟩
      · rename_i hab
        simp only [hab] at hs
        split
        · rename_i hpc
          simp only [hpc, if_true] at hs
          obtain ⟨v, h1, h2⟩ := hs
          exact ⟨v, h1, h _ _ hh h2⟩
        · rename_i hpc
          simp only [hpc] at hs
          obtain ⟨v, h1, h2⟩ := hs
          exact ⟨v, h1, h _ _ hh h2⟩
    · rename_i hw; simp only [hw] at hs; exact h _ _ hh hs

theorem sOp_some (p : Pre R F) {i : Nat} {a : Act} {fs : Facts} {K : Act → Facts → Prop} (hh : Held R w0 fs) (hs : sOp P ops R w0 D F ab pc i K a fs) : ∃ a' fs', K a' fs' := by
  unfold sOp at hs
  split at hs
  · exact ⟨_, _, hs⟩
  · split at hs
    · unfold doOp at hs
      split at hs
      · obtain ⟨hst, ws, hws, hall⟩ := hh
        obtain ⟨v, w', h1, h2⟩ := upon_some p (hs.1 ws ⟨hws, fun m _ => hall m⟩)
        exact ⟨_, _, hs.2 v ⟨w', p.trans hws h1, fun m => hst m _ _ h1 (hall m), h2⟩⟩
      · split at hs
        · obtain ⟨v, _, h2⟩ := hs; exact ⟨_, _, h2⟩
        · obtain ⟨v, _, h2⟩ := hs; exact ⟨_, _, h2⟩
    · exact ⟨_, _, hs⟩

theorem wpAnyT_first (p : Pre R F) {n i : Nat} {oi : Oper} {L : Array Bool → Act → Facts → Prop} (hi : ops[i]? = some oi) (hsel : ∀ (j : Nat) (o : Oper) cs b, ops[j]? = some o → o.op ≠ .select cs b)
    (hin : i < n) (hsafe : ∀ listed, HeadInv md ops n listed → listed.getD i true = false → ∀ j ∈ Region.ready md ops listed, j < n)
    (hD : ∀ listed, HeadInv md ops n listed → ∀ j ∈ Region.ready md ops listed, ∀ m, listed.getD m true = false → D j m = false)
    (hpl : ∀ j o, ops[j]? = some o → j < n → ab j = false → pc j = false → plain o.op = true) (hpc : ∀ j, i < j → j < n → ab i = true → ab j = false → pc j = true → D j i = true)
    (hdone : ∀ listed a fs, L listed a fs → ∀ j ∈ Region.ready md ops listed, n ≤ j) :
    ∀ (f : Nat) (listed : Array Bool) (a : Act) (fs : Facts), HeadInv md ops n listed → Held R w0 fs → (∀ j, j < i → listed.getD j true = true) →
      (∀ j oj, ops[j]? = some oj → j ≠ i → listed.getD j true = false → (∀ e ∈ oj.after, Region.binds md e = true → e.on ≠ i) → oi.apart ops oj = true) →
      i ∈ Region.ready md ops listed → sOp P ops R w0 D F ab pc i (wpAnyT P md ops R w0 D F ab pc n L f (listed.setIfInBounds i true)) a fs → wpAnyT P md ops R w0 D F ab pc n L (f + 1) listed a fs := by
  intro f
  induction f with
  | zero =>
    intro listed a fs inv hh _ _ hr H
    have hun := (mem_ready.1 hr).1
    refine ⟨fun h => (by rw [h] at hr; cases hr), fun j hj => ?_⟩
    have hjn := hsafe listed inv hun j hj
    refine ⟨hjn, ?_⟩
    by_cases hji : j = i
    · subst hji; exact H
    · obtain ⟨a', fs', hL⟩ := sOp_some p hh H
      have := hdone _ _ _ hL j (ready_mono hj hji)
      omega
  | succ f ih =>
    intro listed a fs inv hh hlow hfree hr H
    have hun := (mem_ready.1 hr).1
    refine ⟨fun h => (by rw [h] at hr; cases hr), fun j hj => ?_⟩
    have hjn := hsafe listed inv hun j hj
    refine ⟨hjn, ?_⟩
    by_cases hji : j = i
    · subst hji; exact H
    · obtain ⟨hjun, oj, hoj, hall⟩ := mem_ready.1 hj
      have hnot : ∀ e ∈ oj.after, Region.binds md e = true → e.on ≠ i := fun e he hb heq => by
        have h1 := hall e he hb
        rw [heq, getD_both hun] at h1
        cases h1
      have hij : i < j := by
        rcases Nat.lt_trichotomy i j with h | h | h
        · exact h
        · exact absurd h.symm hji
        · have := hlow j h; rw [hjun] at this; cases this
      have hDji := hD listed inv j hj i hun
      have h1 : sOp P ops R w0 D F ab pc i (fun a' fs' => sOp P ops R w0 D F ab pc j (wpAnyT P md ops R w0 D F ab pc n L f ((listed.setIfInBounds i true).setIfInBounds j true)) a' fs') a fs :=
        sOp_mono (fun a' fs' h => (h.2 j (ready_mono hj hji)).2) H
      have h2 := sOp_swap p hi hoj (hfree j oj hoj hji hjun hnot) (fun cs b => hsel i oi cs b hi) (fun cs b => hsel j oj cs b hoj) hDji (hpl j oj hoj hjn)
        (fun h1 h2 h3 => by have := hpc j hij hjn h1 h2 h3; rw [hDji] at this; cases this) hh h1
      have hfree' : ∀ k ok, ops[k]? = some ok → k ≠ i → (listed.setIfInBounds j true).getD k true = false →
          (∀ e ∈ ok.after, Region.binds md e = true → e.on ≠ i) → oi.apart ops ok = true := fun k ok hk hki hun hno => by
        refine hfree k ok hk hki ?_ hno
        by_cases hjk : j = k
        · subst hjk; exact hjun
        · rw [getD_set_ne true hjk] at hun; exact hun
      have hlow' : ∀ k, k < i → (listed.setIfInBounds j true).getD k true = true := fun k hk => by
        rw [getD_set_ne true (by omega)]; exact hlow k hk
      refine sOp_mono_held p hh (fun a' fs' hh' h3 => ih (listed.setIfInBounds j true) a' fs' (inv.set hj hjn) hh' hlow' hfree' (ready_mono hr (Ne.symm hji)) ?_) h2
      rw [Array.setIfInBounds_comm _ _ hji]
      exact h3

/-- what each operation hangs on, as bits, and that this is what its edges say -/
def depOf (B : Array Nat) (k m : Nat) : Bool := (B.getD k 0).testBit m
def depOk (md : Region.Mode) (ops : Array Oper) (B : Array Nat) : Bool := (List.range ops.size).all fun j => (List.range ops.size).all fun m =>
  !depOf B j m || match ops[j]? with
    | some o => o.after.any fun e => Region.binds md e && decide (e.on < j) && (e.on == m || depOf B e.on m)
    | none => false
def sizeOk (ops : Array Oper) (B : Array Nat) : Bool := (List.range ops.size).all fun j => decide (B.getD j 0 < 2 ^ ops.size)

theorem depOk_spec {B : Array Nat} (h : depOk md ops B = true) (hs : sizeOk ops B = true) {j m : Nat} {o : Oper} (ho : ops[j]? = some o) (hd : depOf B j m = true) :
    ∃ e ∈ o.after, Region.binds md e = true ∧ e.on < j ∧ (e.on = m ∨ depOf B e.on m = true) := by
  have hj : j < ops.size := (Array.getElem?_eq_some_iff.1 ho).1
  have hm : m < ops.size := by
    have h1 := List.all_eq_true.1 hs j (List.mem_range.2 hj)
    simp only [decide_eq_true_eq] at h1
    rcases Nat.lt_or_ge m ops.size with h' | h'
    · exact h'
    · unfold depOf at hd
      rw [Nat.testBit_lt_two_pow (Nat.lt_of_lt_of_le h1 (Nat.pow_le_pow_right (by omega) h'))] at hd
      cases hd
  have h2 := List.all_eq_true.1 (List.all_eq_true.1 h j (List.mem_range.2 hj)) m (List.mem_range.2 hm)
  simp only [hd, Bool.not_true, Bool.false_or, ho] at h2
  obtain ⟨e, he, hb⟩ := Array.any_eq_true'.1 h2
  simp only [Bool.and_eq_true, Bool.or_eq_true, decide_eq_true_eq, beq_iff_eq] at hb
  exact ⟨e, he, hb.1.1, hb.1.2, hb.2⟩

theorem dep_listed {B : Array Nat} (h : depOk md ops B = true) (hs : sizeOk ops B = true) {n : Nat} {listed : Array Bool} (inv : HeadInv md ops n listed) :
    ∀ (d j m : Nat), j ≤ d → listed.getD j false = true → depOf B j m = true → listed.getD m false = true := by
  intro d
  induction d with
  | zero =>
    intro j m hj hl hd
    have : j = 0 := by omega
    subst this
    cases ho : ops[0]? with
    | none =>
      have : ops.size = 0 := by simpa using ho
      have h0 := inv.size
      rw [this] at h0
      have : listed = #[] := Array.eq_empty_of_size_eq_zero h0
      subst this
      simp at hl
    | some o =>
      obtain ⟨e, _, _, h3, _⟩ := depOk_spec h hs ho hd
      omega
  | succ d ih =>
    intro j m hj hl hd
    cases ho : ops[j]? with
    | none =>
      have h1 : ops.size ≤ j := by simpa using ho
      have h2 : listed[j]? = none := by rw [Array.getElem?_eq_none_iff, inv.size]; exact h1
      simp [Array.getD_eq_getD_getElem?, h2] at hl
    | some o =>
      obtain ⟨e, he, hb, h3, h4⟩ := depOk_spec h hs ho hd
      have h5 := inv.closed j o ho hl e he hb
      rcases h4 with h4 | h4
      · rw [← h4]; exact h5
      · exact ih e.on m (by omega) h5 h4

theorem dep_ready {B : Array Nat} (h : depOk md ops B = true) (hs : sizeOk ops B = true) {n : Nat} (listed : Array Bool) (inv : HeadInv md ops n listed) (j : Nat) (hj : j ∈ Region.ready md ops listed) (m : Nat)
    (hm : listed.getD m true = false) : depOf B j m = false := by
  obtain ⟨_, oj, hoj, hall⟩ := mem_ready.1 hj
  cases hd : depOf B j m with
  | false => rfl
  | true =>
    obtain ⟨e, he, hb, _, h4⟩ := depOk_spec h hs hoj hd
    have h5 := hall e he hb
    have h6 : listed.getD m false = true := by
      rcases h4 with h4 | h4
      · rw [← h4]; exact h5
      · exact dep_listed h hs inv e.on e.on m (Nat.le_refl _) h5 h4
    rw [getD_both hm] at h6
    cases h6

theorem wpOp_of_sOp (p : Pre R F) {i : Nat} {a : Act} {fs : Facts} {w : World} {K : Act → Facts → Prop} {K' : Act → World → Prop} {Q' : Exit → Act → World → Prop} (hw : R w0 w) (hfs : ∀ m, fs m w) (hst : ∀ m w w', R w w' → fs m w → fs m w')
    (hpl : ∀ o, ops[i]? = some o → ab i = false → pc i = false → plain o.op = true)
    (hK : ∀ a fs w, R w0 w → (∀ m, fs m w) → (∀ m w w', R w w' → fs m w → fs m w') → K a fs → K' a w) (h : sOp P ops R w0 D F ab pc i K a fs) : wpOp P ops Q' i K' a w := by
  unfold sOp at h
  unfold wpOp
  split
  · rename_i hn; simp only [hn] at h; exact hK _ _ _ hw hfs hst h
  · rename_i o ho
    simp only [ho] at h
    split
    · rename_i hwt
      simp only [hwt, if_true] at h
      left
      unfold Oper.wp
      have uponK : ∀ G : Value → World → Prop, upon P R w G ((execOp a.eval o).run P w) → (∀ v w', R w w' → G v w' → K' (a.put o.dst v) w') → o.upon P a K' Q' ((execOp a.eval o).run P w) := by
        intro G hu hk
        generalize (execOp a.eval o).run P w = r at *
        cases r with
        | halt x w' => exact hu.elim
        | ok nx w' =>
          cases nx <;> simp only [upon] at hu <;> simp only [Oper.upon]
          case value u => exact hk _ _ hu.1 hu.2
          case skip => exact hk _ _ hu.1 hu.2
          case enter f args => exact hu.mono fun e w'' ⟨v, he, h1, h2⟩ => by subst he; exact hk _ _ h1 h2
      unfold doOp at h
      split at h
      · obtain ⟨h1, h2⟩ := h
        refine uponK _ (h1 w ⟨hw, fun m _ => hfs m⟩) fun v w' hr hF => ?_
        have hw' := p.trans hw hr
        have hfs' : ∀ m, fs m w' := fun m => hst m _ _ hr (hfs m)
        exact hK _ _ _ hw' (fun m => setF_mk (hfs' m) hF) (fun m a b hab hm => ⟨fun e => p.stable _ _ _ _ hab (hm.1 e), hst _ _ _ hab hm.2⟩) (h2 v ⟨w', hw', hfs', hF⟩)
      · rename_i hab
        split at h
        · obtain ⟨v, h1, h2⟩ := h
          refine uponK _ (h1 w hw) fun u w' hr hu => ?_
          subst hu
          exact hK _ _ _ (p.trans hw hr) (fun m => hst m _ _ hr (hfs m)) hst h2
        · rename_i hpci
          obtain ⟨v, h1, h2⟩ := h
          have hp := hpl o ho (by simpa using hab) (by simpa using hpci)
          have h3 := h1 w ⟨⟨w, hw⟩, rfl⟩
          have hne := fun w' f args => plain_no_enter (P := P) (o := o) (ρ := a.eval) (w := w) (w' := w') (f := f) (args := args) hp
          unfold Oper.quietAt at h3
          generalize (execOp a.eval o).run P w = r at *
          cases r with
          | halt x w' => exact h3.elim
          | ok nx w' =>
            cases nx <;> simp only [Oper.quietUpon] at h3 <;> simp only [Oper.upon]
            case value u =>
              obtain ⟨e1, e2⟩ := h3
              rw [e1, e2]
              exact hK _ _ _ hw hfs hst h2
            case skip =>
              obtain ⟨e1, e2⟩ := h3
              rw [e1, ← e2]
              exact hK _ _ _ hw hfs hst h2
            case enter f args => exact absurd rfl (hne w' f args)
    · rename_i hwt; simp only [hwt] at h; exact hK _ _ _ hw hfs hst h

theorem wpAny_of_T (p : Pre R F) {n g : Nat} {L : Array Bool → Act → Facts → Prop} {Q' : Exit → Act → World → Prop} (hpl : ∀ j o, ops[j]? = some o → j < n → ab j = false → pc j = false → plain o.op = true)
    (hL : ∀ listed a fs w, R w0 w → (∀ m, fs m w) → L listed a fs → wpAny P md ops Q' g listed a w) :
    ∀ (f : Nat) (listed : Array Bool) (a : Act) (fs : Facts) (w : World), R w0 w → (∀ m, fs m w) → (∀ m w w', R w w' → fs m w → fs m w') → wpAnyT P md ops R w0 D F ab pc n L f listed a fs → wpAny P md ops Q' (f + g) listed a w
  | 0, listed, a, fs, w, hw, hfs, _, h => by rw [Nat.zero_add]; exact hL _ _ _ _ hw hfs h
  | f + 1, listed, a, fs, w, hw, hfs, hst, h => by
    rw [show f + 1 + g = (f + g) + 1 by omega]
    exact ⟨fun h0 => absurd h0 h.1, fun i hi => wpOp_of_sOp p hw hfs hst (fun o ho => hpl i o ho (h.2 i hi).1) (fun a fs w hw hfs hst h' => wpAny_of_T p hpl hL f _ a fs w hw hfs hst h') (h.2 i hi).2⟩

theorem wpAnyT_lex (p : Pre R F) {n g : Nat} {Lq : Act → Facts → Prop} (hsel : Region.noSelect ops = true)
    (hsafe : ∀ i, i < n → ∀ listed, HeadInv md ops n listed → listed.getD i true = false → ∀ j ∈ Region.ready md ops listed, j < n)
    (hD : ∀ listed, HeadInv md ops n listed → ∀ j ∈ Region.ready md ops listed, ∀ m, listed.getD m true = false → D j m = false)
    (hpl : ∀ j o, ops[j]? = some o → j < n → ab j = false → pc j = false → plain o.op = true) (hpc : ∀ i j, i < j → j < n → ab i = true → ab j = false → pc j = true → D j i = true) :
    ∀ (l : List Oper) (k : Nat) (listed : Array Bool) (a : Act) (fs : Facts), (∀ j, j < l.length → l[j]? = ops[k + j]?) → k + l.length = n → HeadInv md ops n listed → Held R w0 fs → (∀ j, j < k → listed.getD j true = true) →
    Region.lexHead md ops g l.length k listed = true → wpStab P ops R w0 D F ab pc Lq k l a fs →
    wpAnyT P md ops R w0 D F ab pc n (fun listed' a' fs' => Region.seqB md ops g n listed' = true ∧ Lq a' fs') l.length listed a fs
  | [], k, listed, a, fs, _, hk, _, _, _, hB, h => by
    have : k = n := by simpa using hk
    subst this
    exact ⟨by simpa [Region.lexHead] using hB, h⟩
  | o :: l, k, listed, a, fs, hl, hk, inv, hh, hlow, hB, h => by
    have h0 : ops[k]? = some o := by simpa using (hl 0 (by simp)).symm
    simp only [List.length_cons, Region.lexHead, Bool.and_eq_true] at hB
    obtain ⟨⟨hr, hf⟩, hB'⟩ := hB
    have hkn : k < n := by simp only [List.length_cons] at hk; omega
    have hr' : k ∈ Region.ready md ops listed := by simpa using hr
    have hst : sOp P ops R w0 D F ab pc k (wpStab P ops R w0 D F ab pc Lq (k + 1) l) a fs := by unfold sOp; simp only [h0]; exact h
    refine wpAnyT_first p h0 (Region.noSelect_spec hsel) hkn (hsafe k hkn) hD hpl (hpc k) (fun listed' a' fs' hL => seqB_ready hL.1) l.length listed a fs inv hh hlow (Region.free_spec h0 hf) hr' ?_
    refine sOp_mono_held p hh (fun a' fs' hh' h' => wpAnyT_lex p hsel hsafe hD hpl hpc l (k + 1) _ a' fs' (fun j hj => by have := hl (j + 1) (by simp; omega); simpa [Nat.add_assoc, Nat.add_comm 1 j] using this) (by simp only [List.length_cons] at hk; omega) (inv.set hr' hkn) hh' ?_ hB' h') hst
    intro j hj
    by_cases hjk : k = j
    · subst hjk
      have : k < listed.size := by rw [inv.size]; exact (Array.getElem?_eq_some_iff.1 h0).1
      simp [this]
    · rw [getD_set_ne true hjk]; exact hlow j (by omega)

def plainB (ops : Array Oper) (n : Nat) (ab pc : Nat → Bool) : Bool := (List.range n).all fun j => ab j || pc j || match ops[j]? with | some o => plain o.op | none => true
def callB (n : Nat) (D : Nat → Nat → Bool) (ab pc : Nat → Bool) : Bool := (List.range n).all fun j => ab j || !pc j || (List.range j).all fun i => !ab i || D j i

theorem plainB_spec {n : Nat} (h : plainB ops n ab pc = true) : ∀ j o, ops[j]? = some o → j < n → ab j = false → pc j = false → plain o.op = true := by
  intro j o ho hj h1 h2
  have := List.all_eq_true.1 h j (List.mem_range.2 hj)
  simpa [h1, h2, ho] using this
theorem callB_spec {n : Nat} (h : callB n D ab pc = true) : ∀ i j, i < j → j < n → ab i = true → ab j = false → pc j = true → D j i = true := by
  intro i j hij hj h1 h2 h3
  have := List.all_eq_true.1 h j (List.mem_range.2 hj)
  simp only [h2, h3, Bool.not_true, Bool.or_self, Bool.false_or] at this
  have := List.all_eq_true.1 this i (List.mem_range.2 hij)
  simpa [h1] using this

/-- what is asked of the region's text alone, where the whole of it is walked -/
def allB (ops : Array Oper) (ab pc : Nat → Bool) : Bool :=
  Region.lexB .any ops && depOk .any ops (Region.before ops) && sizeOk ops (Region.before ops) && plainB ops ops.size ab pc && callB ops.size (depOf (Region.before ops)) ab pc
/-- .. where its first n operations are walked and the others stand in one order behind them -/
def tailB (ops : Array Oper) (n : Nat) (ab pc : Nat → Bool) : Bool :=
  Region.lexTailB .any ops n && depOk .any ops (Region.before ops) && sizeOk ops (Region.before ops) && plainB ops n ab pc && callB n (depOf (Region.before ops)) ab pc

theorem held_none (p : Pre R F) : Held R w0 noFacts := ⟨fun _ _ _ _ _ => trivial, w0, p.refl _, fun _ => trivial⟩

theorem lexHead_of_lexFrom : ∀ (f k : Nat) (listed : Array Bool), Region.lexFrom md ops f k listed = true → Region.lexHead md ops 0 f k listed = true
  | 0, _, _, h => by simpa [Region.lexFrom, Region.lexHead, Region.seqB] using h
  | f + 1, k, listed, h => by
    simp only [Region.lexFrom, Region.lexHead, Bool.and_eq_true] at h ⊢
    exact ⟨h.1, lexHead_of_lexFrom f _ _ h.2⟩

/-- THE REGION, WALKED ONCE. -/
theorem wp_region {id : Nat} {Q : Exit → Act → World → Prop} {a : Act} {w : World} {l : List Oper} (R : World → World → Prop) (F : Nat → Value → World → Prop) (ab pc : Nat → Bool) (p : Pre R F) (hm : P.follows .mixedOrders = true)
    (hB : allB l.toArray ab pc = true) (hw : R w { w with drawn := w.drawn + 1 })
    (h : wpStab P l.toArray R w (depOf (Region.before l.toArray)) F ab pc (fun a' fs' => ∀ w', R w w' → (∀ m, fs' m w') → Q .normal a' w') 0 l a noFacts) : (Code.region id l.toArray true).wp P Q a w := by
  simp only [allB, Bool.and_eq_true] at hB
  obtain ⟨⟨⟨⟨hlex, hdep⟩, hsz⟩, hplain⟩, hcall⟩ := hB
  simp only [Region.lexB, Bool.and_eq_true] at hlex
  have hsize : l.toArray.size = l.length := by simp
  have inv0 : HeadInv .any l.toArray l.length (Array.replicate l.toArray.size false) :=
    ⟨by simp, fun j oj _ hl => (by rw [getD_replicate_false] at hl; cases hl), fun t _ ht => getD_in (by simpa using ht) (getD_replicate_false _ _)⟩
  rw [hsize] at hplain hcall
  have H := wpAnyT_lex (md := .any) (g := 0) (n := l.length) p hlex.1 (fun i hi listed inv hun j hj => by
      obtain ⟨_, oj, hoj, _⟩ := mem_ready.1 hj
      have := (Array.getElem?_eq_some_iff.1 hoj).1
      simpa using this) (fun listed inv j hj m hm => dep_ready hdep hsz listed inv j hj m hm) (plainB_spec hplain) (callB_spec hcall) l 0 _ a noFacts (fun j hj => by simp) (by simp) inv0 (held_none p) (fun j hj => by omega)
      (lexHead_of_lexFrom _ _ _ (by simpa using hlex.2)) h
  refine wp_region_any hm ?_
  have := wpAny_of_T (Q' := Q) (g := 0) p (plainB_spec hplain) (fun listed a' fs' w' h1 h2 hL => ⟨by simpa [Region.seqB] using hL.1, hL.2 w' h1 h2⟩) _ _ _ _ _ hw (fun _ => trivial) (fun _ _ _ _ _ => trivial) H
  simpa using this

/-- THE REGION, ITS FIRST n OPERATIONS WALKED ONCE, the others one behind another. -/
theorem wp_region_tail {id : Nat} {Q : Exit → Act → World → Prop} {a : Act} {w : World} {l : List Oper} (n : Nat) (R : World → World → Prop) (F : Nat → Value → World → Prop) (ab pc : Nat → Bool) (p : Pre R F) (hm : P.follows .mixedOrders = true)
    (hB : tailB l.toArray n ab pc = true) (hw : R w { w with drawn := w.drawn + 1 })
    (h : wpStab P l.toArray R w (depOf (Region.before l.toArray)) F ab pc (fun a' fs' => ∀ w', R w w' → (∀ m, fs' m w') → wpList P l.toArray Q (l.drop n) a' w') 0 (l.take n) a noFacts) : (Code.region id l.toArray true).wp P Q a w := by
  simp only [tailB, Region.lexTailB, Bool.and_eq_true, decide_eq_true_eq] at hB
  obtain ⟨⟨⟨⟨⟨⟨⟨⟨hsel, hn⟩, hs⟩, hc⟩, hlex⟩, hdep⟩, hsz⟩, hplain⟩, hcall⟩ := hB
  have hn' : n < l.length := by simpa using hn
  have htl : (l.take n).length = n := by simp; omega
  have hdl : (l.drop n).length = l.toArray.size - n := by simp
  have inv0 : HeadInv .any l.toArray n (Array.replicate l.toArray.size false) :=
    ⟨by simp, fun j oj _ hl => (by rw [getD_replicate_false] at hl; cases hl), fun t _ ht => getD_in (by simpa using ht) (getD_replicate_false _ _)⟩
  have H := wpAnyT_lex (md := .any) (g := l.toArray.size - n) (n := n) p hsel (fun i hi listed inv hun j hj => by
      rcases Nat.lt_or_ge j n with h | h
      · exact h
      · exact absurd hj (tail_waits hs hc hn inv _ i rfl hi hun j h)) (fun listed inv j hj m hm => dep_ready hdep hsz listed inv j hj m hm) (plainB_spec hplain) (callB_spec hcall) (l.take n) 0 _ a noFacts (fun j hj => by
      have hj' : j < n := by rw [htl] at hj; exact hj
      simp [hj']) (by simpa using htl) inv0 (held_none p) (fun j hj => by omega) (by rw [htl]; exact hlex) h
  refine wp_region_any hm ?_
  have := wpAny_of_T (Q' := Q) (g := l.toArray.size - n) p (plainB_spec hplain) (fun listed a' fs' w' h1 h2 hL => by
    have := wpAny_of_seq (md := .any) (Q' := Q) (l.drop n) n listed a' w' (fun j => by simp [List.getElem?_drop]) (by rw [hdl]; exact hL.1) (hL.2 w' h1 h2)
    rwa [hdl] at this) _ _ _ _ _ hw (fun _ => trivial) (fun _ _ _ _ _ => trivial) H
  rw [htl, show n + (l.toArray.size - n) = l.toArray.size by omega] at this
  exact this
end

section
variable {P : Program} {ops : Array Oper} {R : World → World → Prop} {w0 : World} {D : Nat → Nat → Bool} {F : Nat → Value → World → Prop} {ab pc : Nat → Bool} {Q : Act → Facts → Prop} {k : Nat} {o : Oper} {rest : List Oper} {a : Act} {fs : Facts}
theorem nil (h : Q a fs) : wpStab P ops R w0 D F ab pc Q k [] a fs := h
theorem quiet (hw : Region.wanted o (yielded ops a.tmps) = true) (hab : ab k = false) (hpc : pc k = false) (h : ∀ K : Act → Prop, (∀ a', wpStab P ops R w0 D F ab pc Q (k + 1) rest a' fs → K a') → o.quiet P a (Cls R w0) K) :
    wpStab P ops R w0 D F ab pc Q k (o :: rest) a fs := by
  unfold wpStab doOp
  rw [if_pos hw, hab, hpc]
  exact h _ (fun _ h => h)
theorem one (hw : Region.wanted o (yielded ops a.tmps) = true) (hab : ab k = false) (hpc : pc k = true) (h : ∃ v, (∀ w, R w0 w → upon P R w (fun u _ => u = v) ((execOp a.eval o).run P w)) ∧
    ∀ K : Act → Prop, (∀ a', wpStab P ops R w0 D F ab pc Q (k + 1) rest a' fs → K a') → K (a.put o.dst v)) : wpStab P ops R w0 D F ab pc Q k (o :: rest) a fs := by
  obtain ⟨v, h1, h2⟩ := h
  unfold wpStab doOp
  rw [if_pos hw, hab, hpc]
  exact ⟨v, h1, h2 _ (fun _ h => h)⟩
theorem made (hw : Region.wanted o (yielded ops a.tmps) = true) (hab : ab k = true) (h1 : ∀ w, Kn R w0 D fs k w → upon P R w (F k) ((execOp a.eval o).run P w))
    (h2 : ∀ v, (∃ w, R w0 w ∧ (∀ m, fs m w) ∧ F k v w) → ∀ K : Act → Prop, (∀ a', wpStab P ops R w0 D F ab pc Q (k + 1) rest a' (setF fs k (F k v)) → K a') → K (a.put o.dst v)) : wpStab P ops R w0 D F ab pc Q k (o :: rest) a fs := by
  unfold wpStab doOp
  rw [if_pos hw, hab]
  exact ⟨h1, fun v hv => h2 v hv _ (fun _ h => h)⟩
end

open Go.RowKit
/-- the worlds that keep what was there -/
def Keeps (a b : World) : Prop := Below a.heap.size a b
theorem Keeps.refl (w : World) : Keeps w w := Below.refl _ _
theorem Keeps.trans {a b c : World} (h : Keeps a b) (h' : Keeps b c) : Keeps a c := Below.trans h (Below.mono h' h.size)
theorem pre_none : Pre Keeps (fun _ _ _ => True) := ⟨Keeps.refl, Keeps.trans, fun _ _ _ _ _ h => h⟩
theorem Keeps.drawn (w : World) : Keeps w { w with drawn := w.drawn + 1 } := ⟨rfl, rfl, rfl, Nat.le_refl _, fun _ _ => rfl⟩
theorem Ext.cell {w : World} (x : Ext Keeps w) (b o : Nat) (h : b < w.heap.size) : x.w.cell? ⟨b, o, none⟩ = w.cell? ⟨b, o, none⟩ := Below.cell (p := ⟨b, o, none⟩) x.h h
theorem Keeps.alloc {a w : World} (h : Keeps a w) (o : Obj) : Keeps a (w.alloc o) := Below.alloc h h.size o
theorem Keeps.drew {a w : World} (h : Keeps a w) : Keeps a w.drew := Below.drew h
theorem Keeps.drewN {a w : World} (h : Keeps a w) (n : Nat) : Keeps a (w.drewN n) := ⟨h.os, h.tape, h.output, h.size, h.block⟩
theorem Keeps.setCell {a w : World} {p : Addr} (hp : a.heap.size ≤ p.block) (h : Keeps a w) (u : Value) : Keeps a (w.setCell p u) := Below.setCell h hp u
instance (w : World) : Nonempty (Ext Keeps w) := ⟨⟨w, Keeps.refl w⟩⟩
/-- the two theorems at 'Keeps', with what its worlds read -/
theorem keep_region {P : Program} {id : Nat} {Q : Exit → Act → World → Prop} {a : Act} {w : World} {l : List Oper} (F : Nat → Value → World → Prop) (ab pc : Nat → Bool) (p : Pre Keeps F) (hm : P.follows .mixedOrders = true)
    (hB : allB l.toArray ab pc = true)
    (h : (∀ (x : Ext Keeps w) (b o : Nat), b < w.heap.size → x.w.cell? ⟨b, o, none⟩ = w.cell? ⟨b, o, none⟩) → wpStab P l.toArray Keeps w (depOf (Region.before l.toArray)) F ab pc (fun a' fs' => ∀ w', Keeps w w' → (∀ m, fs' m w') → Q .normal a' w') 0 l a noFacts) : (Code.region id l.toArray true).wp P Q a w :=
  wp_region Keeps F ab pc p hm hB (Keeps.drawn _) (h fun x => x.cell)
theorem keep_tail {P : Program} {id : Nat} {Q : Exit → Act → World → Prop} {a : Act} {w : World} {l : List Oper} (n : Nat) (F : Nat → Value → World → Prop) (ab pc : Nat → Bool) (p : Pre Keeps F) (hm : P.follows .mixedOrders = true)
    (hB : tailB l.toArray n ab pc = true)
    (h : (∀ (x : Ext Keeps w) (b o : Nat), b < w.heap.size → x.w.cell? ⟨b, o, none⟩ = w.cell? ⟨b, o, none⟩) → wpStab P l.toArray Keeps w (depOf (Region.before l.toArray)) F ab pc (fun a' fs' => ∀ w', Keeps w w' → (∀ m, fs' m w') → wpList P l.toArray Q (l.drop n) a' w') 0 (l.take n) a noFacts) : (Code.region id l.toArray true).wp P Q a w :=
  wp_region_tail n Keeps F ab pc p hm hB (Keeps.drawn _) (h fun x => x.cell)
theorem cell_lt {w : World} {a : Addr} {v : Value} (h : w.cell? a = some v) : a.block < w.heap.size := by
  rcases Nat.lt_or_ge a.block w.heap.size with h' | h'
  · exact h'
  · unfold World.cell? at h
    simp [Array.getElem?_eq_none h'] at h
theorem own_cell {w w' : World} (h : Keeps w w') (b : Nat) (hb : b < w.heap.size) : (∀ o, w'.cell? ⟨b, o, none⟩ = w.cell? ⟨b, o, none⟩) ∧ (∀ o, w'.frozen? ⟨b, o, none⟩ = w.frozen? ⟨b, o, none⟩) :=
  ⟨fun o => Below.cell (p := ⟨b, o, none⟩) h hb, fun o => Below.frozen (p := ⟨b, o, none⟩) h hb⟩
attribute [go_sem] upon Cls
end Go.Stab

namespace Go.Kx
open Go.Stab
theorem r (w : World) : Keeps w w := Keeps.refl w
theorem a {v w : World} (h : Keeps v w) (o : Obj) : Keeps v (w.alloc o) := h.alloc o
theorem d {v w : World} (h : Keeps v w) : Keeps v w.drew := h.drew
theorem e {v w : World} (h : Keeps v w) (n : Nat) : Keeps v (w.drewN n) := h.drewN n
theorem s {v w : World} {p : Addr} (hp : v.heap.size ≤ p.block) (h : Keeps v w) (u : Value) : Keeps v (w.setCell p u) := Keeps.setCell hp h u
theorem t {u v w : World} (h : Keeps u v) (h' : Keeps v w) : Keeps u w := Keeps.trans h h'
end Go.Kx
