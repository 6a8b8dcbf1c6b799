import PyProof.Rows.All
import Wide.All
import OpenK.AllK
import Wide.FinOn
import Lean
import PySem.Challenge.RW_nb0079_01
set_option maxRecDepth 100000
set_option maxHeartbeats 0
set_option Elab.async false
set_option linter.unusedVariables false
local macro_rules | `(tactic| rfl') => `(tactic| (constructor <;> (repeat' apply And.intro) <;> first | exact True.intro | kernel_rfl))
local macro_rules | `(tactic| ac_rfl) => `(tactic| first | ((repeat (first | exact List.Mem.head _ | refine List.Mem.tail _ ?_)); done) | simp)
local macro_rules | `(tactic| omega) => `(tactic| first | ((repeat (rename Array.size (PySem.Heap.objs _) = _ => hx; clear hx)); omega (config := {})) | omega (config := {}))
set_option genInjectivity false
set_option genSizeOf false
set_option genSizeOfSpec false
noncomputable section
namespace Mine
open PySem PySem.W PySem.W.X PyProof.Rows
theorem mC {α : Type} {p : α → Prop} {a : α} {l : List α} (h : p a) (g : ∀ x ∈ l, p x) : ∀ x ∈ a :: l, p x := List.forall_mem_cons.mpr ⟨h, g⟩
theorem mN {α : Type} {p : α → Prop} : ∀ x ∈ ([] : List α), p x := fun _ h => nomatch h
theorem fmc {α : Type} {p : α → Prop} {a : α} {l : List α} : (∀ x ∈ a :: l, p x) ↔ p a ∧ ∀ x ∈ l, p x := List.forall_mem_cons
theorem nmn {α : Type} {a : α} : (a ∈ ([] : List α)) = False := by simp
noncomputable abbrev Led := List (Addr × Obj)
inductive Kn where
  | base
  | ret (c : Code) (k : Result → Sem Fin) (κ : Kn)
inductive Out where
  | bad (n a : Nat)
  | fin (f : Fin)
  | err (e : Value)
  | call (c' : Code) (k : Result → Sem Fin) (c : Code) (κ : Kn)
  | stk (k : List (Code × Pos) → Sem Fin) (c : Code) (κ : Kn)
structure Orc where
  c : Code
  v : Nat → Value
  d : Nat
structure HV where
  ask : Setting
  kt : KT
  N : Nat
  T : Nat
structure Res where
  out : Out
  led : Led
  m : Nat
  i : Nat
  adr : List (Addr × Addr)
  cod : List (Code × Code)
  hs : List Nat
noncomputable abbrev RunTy := List Nat → List Orc → Code → Kn → Sem Fin → Led → Nat → Nat → List (Addr × Addr) → List (Code × Code) → Res
noncomputable def hintOf : List Nat → Nat
  | [] => 0
  | x :: _ => x
noncomputable def restOf : List Nat → List Nat
  | [] => []
  | _ :: l => l
noncomputable def pick : Led → Nat → Option (Addr × Obj)
  | [], _ => none
  | p :: l, j => match j with
    | 0 => some p
    | j + 1 => pick l j
noncomputable def put : Led → Nat → Obj → Led
  | [], _, _ => []
  | p :: l, j, o => match j with
    | 0 => (p.1, o) :: l
    | j + 1 => p :: put l j o
noncomputable def snoc : Led → Addr → Obj → Led
  | [], a, o => [(a, o)]
  | p :: l, a, o => p :: snoc l a o
noncomputable def stepS (V : HV) (ih : RunTy) (hs : List Nat) (os : List Orc) (c : Code) (κ : Kn) (t : Sem Fin) (led : Led) (m i : Nat) (ad : List (Addr × Addr)) (cd : List (Code × Code)) : Res := match t with
  | .pure fin => match κ with
    | .base => ⟨.fin fin, led, m, i, ad, cd, hs⟩
    | .ret c₁ k κ' => match fin with
      | .done f => ih hs os c₁ κ' (k (.ok f)) led m i ad cd
      | .again c' => match c'.quiet with
        | false => ⟨.bad 5 0, led, m, i, ad, cd, hs⟩
        | true => ih hs os c' (.ret c₁ k κ') (denote table c') led m i ad cd
  | .raise e => match κ with
    | .base => ⟨.err e, led, m, i, ad, cd, hs⟩
    | .ret c₁ k κ' => ih hs os c₁ κ' (k (.error e)) led m i ad cd
  | .rule _ k => ih hs os c κ (k ()) led m i ad cd
  | .at _ k => ih hs os c κ (k ()) led m i ad cd
  | .point _ k => ih hs os c κ (k ()) led m i ad cd
  | .ask k => ih hs os c κ (k V.ask) led m i ad cd
  | .load a _ k => match hintOf hs with
    | 0 => match V.kt.get a with
      | some o => ih (restOf hs) os c κ (k o) led m i ad cd
      | none => ⟨.bad 1 a, led, m, i, ad, cd, hs⟩
    | j + 1 => match pick led j with
      | some p => ih (restOf hs) os c κ (k p.2) led m i ((a, p.1) :: ad) cd
      | none => ⟨.bad 2 a, led, m, i, ad, cd, hs⟩
  | .alloc o k => match o.isFreed with
    | true => ⟨.bad 3 0, led, m, i, ad, cd, hs⟩
    | false => ih hs os c κ (k (V.N + m)) (snoc led (V.N + m) o) (m + 1) i ad cd
  | .update a _ f k => match hintOf hs with
    | 0 => ⟨.bad 4 a, led, m, i, ad, cd, hs⟩
    | j + 1 => match pick led j with
      | some p => match (f p.2).isFreed with
        | true => ⟨.bad 6 a, led, m, i, ad, cd, hs⟩
        | false => ih (restOf hs) os c κ (k ()) (put led j (f p.2)) m i ((a, p.1) :: ad) cd
      | none => ⟨.bad 7 a, led, m, i, ad, cd, hs⟩
  | .fresh k => ih hs os c κ (k (V.T + i)) led m (i + 1) ad cd
  | .handled own k => match own with
    | false => ih hs os c κ (k none) led m i ad cd
    | true => ⟨.bad 8 0, led, m, i, ad, cd, hs⟩
  | .call c' hd _ _ k => match hd with
    | some _ => ⟨.bad 9 0, led, m, i, ad, cd, hs⟩
    | none => match hintOf hs with
      | 0 => ih (restOf hs) os c' (.ret c k κ) (denote table c') led m i ad cd
      | n + 1 => match n with
        | 0 => ⟨.call c' k c κ, led, m, i, ad, cd, restOf hs⟩
        | _ + 1 => match os with
          | [] => ⟨.bad 10 0, led, m, i, ad, cd, hs⟩
          | o :: os' => ih (restOf hs) os' c κ (k (.ok (.ret (o.v (V.T + i))))) led m (i + o.d) ad ((c', o.c) :: cd)
  | .loadIfAlive a k => match hintOf hs with
    | 0 => match V.kt.get a with
      | some o => ih (restOf hs) os c κ (k (some o)) led m i ad cd
      | none => ⟨.bad 11 a, led, m, i, ad, cd, hs⟩
    | j + 1 => match pick led j with
      | some p => ih (restOf hs) os c κ (k (some p.2)) led m i ((a, p.1) :: ad) cd
      | none => ⟨.bad 12 a, led, m, i, ad, cd, hs⟩
  | .unsupported _ => ⟨.bad 20 0, led, m, i, ad, cd, hs⟩
  | .finish _ => ⟨.bad 21 0, led, m, i, ad, cd, hs⟩
  | .register .. => ⟨.bad 22 0, led, m, i, ad, cd, hs⟩
  | .choose .. => ⟨.bad 23 0, led, m, i, ad, cd, hs⟩
  | .os .. => ⟨.bad 24 0, led, m, i, ad, cd, hs⟩
  | .newGen .. => ⟨.bad 25 0, led, m, i, ad, cd, hs⟩
  | .genState .. => ⟨.bad 26 0, led, m, i, ad, cd, hs⟩
  | .resume .. => ⟨.bad 27 0, led, m, i, ad, cd, hs⟩
  | .yield .. => ⟨.bad 28 0, led, m, i, ad, cd, hs⟩
  | .stack k => ⟨.stk k c κ, led, m, i, ad, cd, hs⟩
  | .fork .. => ⟨.bad 30 0, led, m, i, ad, cd, hs⟩
  | .thread _ => ⟨.bad 31 0, led, m, i, ad, cd, hs⟩
  | .await .. => ⟨.bad 32 0, led, m, i, ad, cd, hs⟩
noncomputable abbrev pkd (r : Res) (j : Nat) (p : Addr × Obj) : Prop := pick r.led j = some p
noncomputable def run (V : HV) : Nat → RunTy
  | 0 => fun hs _ _ _ _ led m i ad cd => ⟨.bad 40 0, led, m, i, ad, cd, hs⟩
  | n + 1 => stepS V (run V n)
theorem pick_mem : ∀ {led : Led} {j : Nat} {p : Addr × Obj}, pick led j = some p → p ∈ led
  | [], _, _, e => nomatch e
  | _ :: _, 0, _, e => by cases e; exact .head _
  | _ :: l, j + 1, _, e => .tail _ (pick_mem (led := l) (j := j) e)
theorem put_keys : ∀ (led : Led) (j : Nat) (o : Obj), (put led j o).map (·.1) = led.map (·.1)
  | [], _, _ => rfl
  | _ :: _, 0, _ => rfl
  | p :: l, j + 1, o => by show p.1 :: (put l j o).map (·.1) = p.1 :: l.map (·.1); rw [put_keys l j o]
theorem put_mem : ∀ {led : Led} {j : Nat} {p : Addr × Obj} {o : Obj}, pick led j = some p → ∀ q ∈ put led j o, q = (p.1, o) ∨ (q ∈ led ∧ ((led.map (·.1)).Nodup → q.1 ≠ p.1))
  | [], _, _, _, e => nomatch e
  | x :: l, 0, p, o, e => by
    cases e
    intro q hq
    rcases List.mem_cons.mp hq with h | h
    · exact .inl h
    · refine .inr ⟨.tail _ h, fun nd z => ?_⟩
      have := (List.nodup_cons.mp nd).1
      exact this (by show x.1 ∈ _; rw [← z]; exact List.mem_map_of_mem h)
  | x :: l, j + 1, p, o, e => by
    intro q hq
    have e' : pick l j = some p := e
    rcases List.mem_cons.mp hq with h | h
    · refine .inr ⟨by rw [h]; exact .head _, fun nd z => ?_⟩
      have := (List.nodup_cons.mp nd).1
      exact this (by show x.1 ∈ _; rw [← h, z]; exact List.mem_map_of_mem (pick_mem e'))
    · rcases put_mem e' q h with h' | ⟨h1, h2⟩
      · exact .inl h'
      · exact .inr ⟨.tail _ h1, fun nd => h2 (List.nodup_cons.mp nd).2⟩
theorem snoc_eq : ∀ (led : Led) (a : Addr) (o : Obj), snoc led a o = led ++ [(a, o)]
  | [], _, _ => rfl
  | p :: l, a, o => by show p :: snoc l a o = _; rw [snoc_eq l a o]; rfl
structure Hold (V : HV) (h₀ : Heap) (L₀ : List Addr) (h : Heap) (led : Led) (m : Nat) : Prop where
  size : h.objs.size = V.N + m
  at_ : ∀ p ∈ led, h.get? p.1 = some p.2
  nd : (led.map (·.1)).Nodup
  stat : ∀ a o, V.kt.get a = some o → h.get? a = some o
  off : ∀ p ∈ led, V.kt.get p.1 = none
  dom : ∀ p ∈ led, p.1 ∈ L₀ ∨ V.N ≤ p.1
  low : h₀.objs.size ≤ V.N
  keep : ∀ b o, h₀.get? b = some o → b ∉ L₀ → h.get? b = some o
section
variable {V : HV} {h₀ h : Heap} {L₀ : List Addr} {led : Led} {m : Nat}
theorem Hold.alloc (D : Hold V h₀ L₀ h led m) {o : Obj} (hf : o.isFreed = false) : Hold V h₀ L₀ (h.push o) (snoc led (V.N + m) o) (m + 1) := by
  rw [snoc_eq]
  refine ⟨by rw [Heap.size_push, D.size, Nat.add_assoc], fun p hp => ?_, ?_, fun a o' e => Heap.get?_push_of_some _ (D.stat a o' e), fun p hp => ?_, fun p hp => ?_, D.low, fun b o' e q => Heap.get?_push_of_some _ (D.keep b o' e q)⟩
  · rcases List.mem_append.mp hp with hp | hp
    · exact Heap.get?_push_of_some _ (D.at_ p hp)
    · cases List.mem_singleton.mp hp
      show (h.push o).get? (V.N + m) = some o
      rw [← D.size]; exact Heap.get?_push_size _ hf
  · rw [List.map_append]
    refine List.nodup_append.mpr ⟨D.nd, by simp, fun a ha b hb => ?_⟩
    obtain ⟨p, hp, rfl⟩ := List.mem_map.mp ha
    cases List.mem_singleton.mp hb
    exact Nat.ne_of_lt (by rw [← D.size]; exact Heap.lt_size (D.at_ p hp))
  · rcases List.mem_append.mp hp with hp | hp
    · exact D.off p hp
    · cases List.mem_singleton.mp hp
      cases q : V.kt.get (V.N + m) with
      | none => rfl
      | some o' =>
        have := Heap.lt_size (D.stat _ _ q)
        rw [D.size] at this
        exact absurd this (Nat.lt_irrefl _)
  · rcases List.mem_append.mp hp with hp | hp
    · exact D.dom p hp
    · cases List.mem_singleton.mp hp
      exact .inr (Nat.le_add_right ..)
theorem Hold.update (D : Hold V h₀ L₀ h led m) {j : Nat} {p : Addr × Obj} {f : Obj → Obj} (e : pick led j = some p) (hf : (f p.2).isFreed = false) : Hold V h₀ L₀ (h.update p.1 f) (put led j (f p.2)) m := by
  have hp := pick_mem e
  have hs : Heap.SameBut p.1 h (h.update p.1 f) := Heap.SameBut.update ..
  have ge : (h.update p.1 f).get? p.1 = some (f p.2) := Heap.get?_update_self f (D.at_ p hp) hf
  refine ⟨by rw [hs.1, D.size], fun q hq => ?_, by rw [put_keys]; exact D.nd, fun a o e' => ?_, fun q hq => ?_, fun q hq => ?_, D.low, fun b o e' hb => ?_⟩
  · rcases put_mem e q hq with h1 | ⟨h1, h2⟩
    · rw [h1]; exact ge
    · exact (hs.2 _ (h2 D.nd)).trans (D.at_ q h1)
  · refine (hs.2 a fun z => ?_).trans (D.stat a o e')
    have := D.off p hp
    rw [← z, e'] at this; cases this
  · rcases put_mem e q hq with h1 | ⟨h1, _⟩
    · rw [h1]; exact D.off p hp
    · exact D.off q h1
  · rcases put_mem e q hq with h1 | ⟨h1, _⟩
    · rw [h1]; exact D.dom p hp
    · exact D.dom q h1
  · refine (hs.2 b fun z => ?_).trans (D.keep b o e' hb)
    rcases D.dom p hp with h1 | h1
    · exact hb (z ▸ h1)
    · have q1 := Heap.lt_size e'
      have q2 := D.low
      rw [z] at q1
      exact absurd (Nat.lt_of_lt_of_le q1 (Nat.le_trans q2 h1)) (Nat.lt_irrefl _)
end
section
variable (prog : Program) (w : World) (A : Around) (QB : Fin → Shared → Prop) (EB : Value → Shared → Prop) (cB : Code)
noncomputable def aro : Kn → Around
  | .base => A
  | .ret c _ κ => ((aro κ).under c).mark none
noncomputable def Means (c : Code) (κ : Kn) (t : Sem Fin) (s : Shared) : Prop := match κ with
  | .base => wpOwn (model prog w) A c t QB EB s
  | .ret c₁ k κ' => wpOwn (model prog w) (aro A (.ret c₁ k κ')) c t (postC prog w (aro A (.ret c₁ k κ')) fun r s' => Means c₁ κ' (k r) s') (postE fun r s' => Means c₁ κ' (k r) s') s
variable {prog w A QB EB}
theorem aro_handled (hA : A.handled = none) : ∀ κ, (aro A κ).handled = none
  | .base => hA
  | .ret c k κ => aro_handled hA κ
theorem means_of {c : Code} {κ : Kn} {t : Sem Fin} {s : Shared} (h : ∀ (Q : Fin → Shared → Prop) (E : Value → Shared → Prop), (∀ t' s', Means prog w A QB EB c κ t' s' ↔ wpOwn (model prog w) (aro A κ) c t' Q E s') → wpOwn (model prog w) (aro A κ) c t Q E s) : Means prog w A QB EB c κ t s := by
  cases κ with
  | base => exact h QB EB fun t' s' => Iff.rfl
  | ret c₁ k κ' => exact h _ _ fun t' s' => Iff.rfl
noncomputable def OrcOk (prog : Program) (w : World) (o : Orc) : Prop := ∀ (A : Around) (R : Result → Shared → Prop) (s : Shared), R (.ok (.ret (o.v s.toks))) { s with toks := s.toks + o.d } → codeAny (model prog w) A o.c R s
noncomputable def Ful (V : HV) (h₀ : Heap) (L₀ : List Addr) (g : Array GenState) (d : Drawn) (ost : OsState) (prog : Program) (w : World) (A : Around) (QB : Fin → Shared → Prop) (EB : Value → Shared → Prop) (r : Res) : Prop := match r.out with
  | .bad _ _ => False
  | .fin f => ∀ h, Hold V h₀ L₀ h r.led r.m → QB f ⟨h, g, d, V.T + r.i, ost⟩
  | .err e => ∀ h, Hold V h₀ L₀ h r.led r.m → EB e ⟨h, g, d, V.T + r.i, ost⟩
  | .call c' k c κ => ∀ h, Hold V h₀ L₀ h r.led r.m → codeAny (model prog w) (((aro A κ).under c).mark none) c' (fun x s' => Means prog w A QB EB c κ (k x) s') ⟨h, g, d, V.T + r.i, ost⟩
  | .stk k c κ => ∀ h, Hold V h₀ L₀ h r.led r.m → Means prog w A QB EB c κ (.stack k) ⟨h, g, d, V.T + r.i, ost⟩
end
theorem run_grows (V : HV) : ∀ (n : Nat) (hs : List Nat) (os : List Orc) (c : Code) (κ : Kn) (t : Sem Fin) (led : Led) (m i : Nat) (ad : List (Addr × Addr)) (cd : List (Code × Code)),
    (∀ p ∈ ad, p ∈ (run V n hs os c κ t led m i ad cd).adr) ∧ (∀ p ∈ cd, p ∈ (run V n hs os c κ t led m i ad cd).cod)
  | 0, _, _, _, _, _, _, _, _, _, _ => ⟨fun _ h => h, fun _ h => h⟩
  | n + 1, hs, os, c, κ, t, led, m, i, ad, cd => by
    have IH := run_grows V n
    have same : (∀ p ∈ ad, p ∈ ad) ∧ (∀ p ∈ cd, p ∈ cd) := ⟨fun _ h => h, fun _ h => h⟩
    have one : ∀ {x : Addr × Addr} {hs os c κ t led m i}, (∀ p ∈ ad, p ∈ (run V n hs os c κ t led m i (x :: ad) cd).adr) ∧ (∀ p ∈ cd, p ∈ (run V n hs os c κ t led m i (x :: ad) cd).cod) :=
      fun {x hs os c κ t led m i} => ⟨fun p hp => (IH hs os c κ t led m i (x :: ad) cd).1 p (.tail _ hp), (IH hs os c κ t led m i (x :: ad) cd).2⟩
    have two : ∀ {x : Code × Code} {hs os c κ t led m i}, (∀ p ∈ ad, p ∈ (run V n hs os c κ t led m i ad (x :: cd)).adr) ∧ (∀ p ∈ cd, p ∈ (run V n hs os c κ t led m i ad (x :: cd)).cod) :=
      fun {x hs os c κ t led m i} => ⟨(IH hs os c κ t led m i ad (x :: cd)).1, fun p hp => (IH hs os c κ t led m i ad (x :: cd)).2 p (.tail _ hp)⟩
    show (∀ p ∈ ad, p ∈ (stepS V (run V n) hs os c κ t led m i ad cd).adr) ∧ (∀ p ∈ cd, p ∈ (stepS V (run V n) hs os c κ t led m i ad cd).cod)
    unfold stepS
    repeat' split
    all_goals first | exact same | exact IH .. | exact one | exact two
section
variable {prog : Program} {w : World} {A : Around} {QB : Fin → Shared → Prop} {EB : Value → Shared → Prop} {V : HV} {h₀ : Heap} {L₀ : List Addr} {g : Array GenState} {d : Drawn} {ost : OsState}
theorem means_iff {c : Code} {κ : Kn} : ∃ (Q : Fin → Shared → Prop) (E : Value → Shared → Prop), ∀ t' s', Means prog w A QB EB c κ t' s' = wpOwn (model prog w) (aro A κ) c t' Q E s' := by
  cases κ with
  | base => exact ⟨QB, EB, fun t' s' => rfl⟩
  | ret c₁ k κ' => exact ⟨_, _, fun t' s' => rfl⟩
theorem run_sound (hask : V.ask = ⟨prog, w.params⟩) (hA : A.handled = none) : ∀ (n : Nat) (hs : List Nat) (os : List Orc) (c : Code) (κ : Kn) (t : Sem Fin) (led : Led) (m i : Nat) (ad : List (Addr × Addr)) (cd : List (Code × Code)) (h : Heap),
    (∀ o ∈ os, OrcOk prog w o) → (∀ p ∈ (run V n hs os c κ t led m i ad cd).adr, p.1 = p.2) → (∀ p ∈ (run V n hs os c κ t led m i ad cd).cod, p.1 = p.2) →
    Ful V h₀ L₀ g d ost prog w A QB EB (run V n hs os c κ t led m i ad cd) → Hold V h₀ L₀ h led m → Means prog w A QB EB c κ t ⟨h, g, d, V.T + i, ost⟩
  | 0, _, _, _, _, _, _, _, _, _, _, _, _, _, _, H, _ => H.elim
  | n + 1, hs, os, c, κ, t, led, m, i, ad, cd, h, ho, ha, hc, H, D => by
    have IH := run_sound hask hA n
    have G := run_grows V n
    change ∀ p ∈ (stepS V (run V n) hs os c κ t led m i ad cd).adr, p.1 = p.2 at ha
    change ∀ p ∈ (stepS V (run V n) hs os c κ t led m i ad cd).cod, p.1 = p.2 at hc
    change Ful V h₀ L₀ g d ost prog w A QB EB (stepS V (run V n) hs os c κ t led m i ad cd) at H
    cases t with
    | pure fin =>
      cases κ with
      | base => exact y_pure _ _ _ _ _ _ _ _ _ (H h D)
      | ret c₁ k κ' =>
        cases fin with
        | done f => exact y_pure _ _ _ _ _ _ _ _ _ (y_done _ _ _ _ _ _ (IH _ _ _ _ _ _ _ _ _ _ h ho ha hc H D))
        | again c' =>
          cases q : c'.quiet with
          | false => simp only [stepS, q] at H; exact H.elim
          | true =>
            simp only [stepS, q] at ha hc H
            have z := IH _ _ _ _ _ _ _ _ _ _ h ho ha hc H D
            exact y_pure _ _ _ _ _ _ _ _ _ (y_again _ _ _ _ _ _ q (y_code _ _ _ _ _ _ z))
    | raise e =>
      cases κ with
      | base => exact y_raise _ _ _ _ _ _ _ _ _ (H h D)
      | ret c₁ k κ' => exact y_raise _ _ _ _ _ _ _ _ _ (y_err _ _ _ (IH _ _ _ _ _ _ _ _ _ _ h ho ha hc H D))
    | rule tag k =>
      obtain ⟨Q, E, e⟩ := means_iff (prog := prog) (w := w) (A := A) (QB := QB) (EB := EB) (c := c) (κ := κ)
      have z := IH _ _ _ _ _ _ _ _ _ _ h ho ha hc H D
      rw [e] at z ⊢
      exact y_skim _ _ _ _ _ _ _ _ _ 1 z
    | «at» q k =>
      obtain ⟨Q, E, e⟩ := means_iff (prog := prog) (w := w) (A := A) (QB := QB) (EB := EB) (c := c) (κ := κ)
      have z := IH _ _ _ _ _ _ _ _ _ _ h ho ha hc H D
      rw [e] at z ⊢
      exact y_skim _ _ _ _ _ _ _ _ _ 1 z
    | point l k =>
      obtain ⟨Q, E, e⟩ := means_iff (prog := prog) (w := w) (A := A) (QB := QB) (EB := EB) (c := c) (κ := κ)
      have z := IH _ _ _ _ _ _ _ _ _ _ h ho ha hc H D
      rw [e] at z ⊢
      exact y_skim _ _ _ _ _ _ _ _ _ 1 z
    | ask k =>
      obtain ⟨Q, E, e⟩ := means_iff (prog := prog) (w := w) (A := A) (QB := QB) (EB := EB) (c := c) (κ := κ)
      have z := IH _ _ _ _ _ _ _ _ _ _ h ho ha hc H D
      rw [e, hask] at z
      rw [e]
      exact y_skim _ _ _ _ _ _ _ _ _ 1 z
    | load a q k =>
      obtain ⟨Q, E, e⟩ := means_iff (prog := prog) (w := w) (A := A) (QB := QB) (EB := EB) (c := c) (κ := κ)
      simp only [stepS] at ha hc H
      cases hh : hintOf hs with
      | zero =>
        simp only [hh] at ha hc H
        cases hk : V.kt.get a with
        | none => simp only [hk] at H; exact H.elim
        | some o =>
          simp only [hk] at ha hc H
          have z := IH _ _ _ _ _ _ _ _ _ _ h ho ha hc H D
          rw [e] at z ⊢
          exact y_load _ _ _ _ _ _ _ _ _ _ _ _ _ _ _ _ (D.stat _ _ hk) z
      | succ j =>
        simp only [hh] at ha hc H
        cases hk : pick led j with
        | none => simp only [hk] at H; exact H.elim
        | some p =>
          simp only [hk] at ha hc H
          have z := IH _ _ _ _ _ _ _ _ _ _ h ho ha hc H D
          have ea : a = p.1 := ha (a, p.1) ((G _ _ _ _ _ _ _ _ _ _).1 _ (.head _))
          rw [e] at z ⊢
          exact y_load _ _ _ _ _ _ _ _ _ _ _ _ _ _ _ _ (by rw [ea]; exact D.at_ p (pick_mem hk)) z
    | loadIfAlive a k =>
      obtain ⟨Q, E, e⟩ := means_iff (prog := prog) (w := w) (A := A) (QB := QB) (EB := EB) (c := c) (κ := κ)
      simp only [stepS] at ha hc H
      cases hh : hintOf hs with
      | zero =>
        simp only [hh] at ha hc H
        cases hk : V.kt.get a with
        | none => simp only [hk] at H; exact H.elim
        | some o =>
          simp only [hk] at ha hc H
          have z := IH _ _ _ _ _ _ _ _ _ _ h ho ha hc H D
          rw [e] at z ⊢
          exact y_alive _ _ _ _ _ _ _ _ _ _ _ _ _ _ _ (D.stat _ _ hk) z
      | succ j =>
        simp only [hh] at ha hc H
        cases hk : pick led j with
        | none => simp only [hk] at H; exact H.elim
        | some p =>
          simp only [hk] at ha hc H
          have z := IH _ _ _ _ _ _ _ _ _ _ h ho ha hc H D
          have ea : a = p.1 := ha (a, p.1) ((G _ _ _ _ _ _ _ _ _ _).1 _ (.head _))
          rw [e] at z ⊢
          exact y_alive _ _ _ _ _ _ _ _ _ _ _ _ _ _ _ (by rw [ea]; exact D.at_ p (pick_mem hk)) z
    | alloc o k =>
      obtain ⟨Q, E, e⟩ := means_iff (prog := prog) (w := w) (A := A) (QB := QB) (EB := EB) (c := c) (κ := κ)
      cases hf : o.isFreed with
      | true => simp only [stepS, hf] at H; exact H.elim
      | false =>
        simp only [stepS, hf] at ha hc H
        have z := IH _ _ _ _ _ _ _ _ _ _ (h.push o) ho ha hc H (D.alloc hf)
        rw [e] at z ⊢
        have ea : h.objs.size = V.N + m := D.size
        exact wpOwn_bind (m := PySem.alloc o) (f := k) (wpOwn_of_wpAny (wpAny_alloc (by rw [ea]; exact z)))
    | update a q f k =>
      obtain ⟨Q, E, e⟩ := means_iff (prog := prog) (w := w) (A := A) (QB := QB) (EB := EB) (c := c) (κ := κ)
      simp only [stepS] at ha hc H
      cases hh : hintOf hs with
      | zero => simp only [hh] at H; exact H.elim
      | succ j =>
        simp only [hh] at ha hc H
        cases hk : pick led j with
        | none => simp only [hk] at H; exact H.elim
        | some p =>
          simp only [hk] at ha hc H
          cases hf : (f p.2).isFreed with
          | true => simp only [hf] at H; exact H.elim
          | false =>
            simp only [hf] at ha hc H
            have z := IH _ _ _ _ _ _ _ _ _ _ _ ho ha hc H (D.update hk hf)
            have ea : a = p.1 := ha (a, p.1) ((G _ _ _ _ _ _ _ _ _ _).1 _ (.head _))
            rw [e] at z ⊢
            subst ea
            exact wpOwn_bind (m := updatePart p.1 q f) (f := k) (wpOwn_of_wpAny (wpAny_updatePart (D.at_ p (pick_mem hk)) z))
    | fresh k =>
      obtain ⟨Q, E, e⟩ := means_iff (prog := prog) (w := w) (A := A) (QB := QB) (EB := EB) (c := c) (κ := κ)
      have z := IH _ _ _ _ _ _ _ _ _ _ h ho ha hc H D
      rw [e] at z ⊢
      exact y_fresh _ _ _ _ _ _ _ _ _ _ _ _ _ z
    | handled own k =>
      cases own with
      | true => exact H.elim
      | false =>
        obtain ⟨Q, E, e⟩ := means_iff (prog := prog) (w := w) (A := A) (QB := QB) (EB := EB) (c := c) (κ := κ)
        have z := IH _ _ _ _ _ _ _ _ _ _ h ho ha hc H D
        rw [e] at z ⊢
        exact y_handled _ _ _ _ _ _ _ _ _ (by rw [aro_handled hA κ]; exact z)
    | call c' hd gd l k =>
      cases hd with
      | some _ => exact H.elim
      | none =>
        obtain ⟨Q, E, e⟩ := means_iff (prog := prog) (w := w) (A := A) (QB := QB) (EB := EB) (c := c) (κ := κ)
        have back : ∀ s, codeAny (model prog w) (((aro A κ).under c).mark none) c' (fun x s' => Means prog w A QB EB c κ (k x) s') s → Means prog w A QB EB c κ (.call c' none gd l k) s := fun s x => by
          rw [e]
          exact y_call _ _ _ _ _ _ _ _ _ _ _ _ _ (by intro z; cases z) (codeAny_mono x fun r s' q => by rw [e] at q; exact q)
        simp only [stepS] at ha hc H
        cases hh : hintOf hs with
        | zero =>
          simp only [hh] at ha hc H
          exact back _ (y_code _ _ _ _ _ _ (IH _ _ _ (.ret c k κ) _ _ _ _ _ _ h ho ha hc H D))
        | succ n1 =>
          cases n1 with
          | zero => simp only [hh] at H; exact back _ (H h D)
          | succ n2 =>
            simp only [hh] at ha hc H
            cases os with
            | nil => exact H.elim
            | cons o os' =>
              have z := IH _ _ _ _ _ _ _ _ _ _ h (fun o' h' => ho o' (.tail _ h')) ha hc H D
              have ec : c' = o.c := hc (c', o.c) ((G _ _ _ _ _ _ _ _ _ _).2 _ (.head _))
              refine back _ ?_
              rw [ec]
              refine ho o (.head _) _ _ _ ?_
              show Means prog w A QB EB c κ (k (.ok (.ret (o.v (V.T + i))))) ⟨h, g, d, V.T + i + o.d, ost⟩
              rw [Nat.add_assoc]; exact z
    | unsupported => exact H.elim
    | finish => exact H.elim
    | register => exact H.elim
    | choose => exact H.elim
    | os => exact H.elim
    | newGen => exact H.elim
    | genState => exact H.elim
    | resume => exact H.elim
    | yield => exact H.elim
    | stack k => exact H h D
    | fork => exact H.elim
    | thread => exact H.elim
    | await => exact H.elim
end
noncomputable def start (V : HV) (n : Nat) (hs : List Nat) (os : List Orc) (c : Code) (led : Led) : Res := run V n hs os c .base (denote table c) led 0 0 [] []
noncomputable def startT (V : HV) (n : Nat) (hs : List Nat) (os : List Orc) (c : Code) (t : Sem Fin) (led : Led) : Res := run V n hs os c .base t led 0 0 [] []
noncomputable def resume (V : HV) (n : Nat) (hs : List Nat) (os : List Orc) (o : Out) (x : Result) (led : Led) : Res := match o with
  | .call _ k c κ => run V n hs os c κ (k x) led 0 0 [] []
  | .bad .. => ⟨.bad 50 0, led, 0, 0, [], [], hs⟩
  | .fin .. => ⟨.bad 50 0, led, 0, 0, [], [], hs⟩
  | .err .. => ⟨.bad 50 0, led, 0, 0, [], [], hs⟩
  | .stk .. => ⟨.bad 50 0, led, 0, 0, [], [], hs⟩
noncomputable def entry (a : Addr) (fd : FuncData) (args : Args) : Sem Fin := do
  let env ← newFunctionEnv fd.scope fd.globals fd.closure (← bindArgs fd args) (fd.qualname ++ ".<locals>.") (some a) fd.code none fd.builtins
  match fd.body with
  | .stmts b => again (.func b env)
  | .expr e => again (.expr e env)
noncomputable def enter (V : HV) (n : Nat) (hs : List Nat) (os : List Orc) (a : Addr) (fd : FuncData) (args : Args) (led : Led) : Res := startT V n hs os (.call (.ref a) args) (entry a fd args) led
theorem start_rfl : @start = @start := rfl
theorem enter_rfl : @enter = @enter := rfl
theorem resume_rfl : @resume = @resume := rfl
end Mine
lay_z Mine.run
lay_z Mine.start
lay_z Mine.resume
lay_z Mine.enter
name_z startZ for Mine.start by Mine.start_rfl
name_z resumeZ for Mine.resume by Mine.resume_rfl
name_z enterZ for Mine.enter by Mine.enter_rfl
namespace Mine
open PySem PySem.W PySem.W.X PyProof.Rows PySem.W.ZFast
noncomputable def callOf : Out → Option Code
  | .call c _ _ _ => some c
  | _ => none
noncomputable def finOf : Out → Option Fin
  | .fin f => some f
  | _ => none
noncomputable def agOf : Out → Code
  | .fin f => match f with
    | .again c => c
    | .done _ => .builtin "" {}
  | _ => .builtin "" {}
noncomputable def isAg : Out → Bool
  | .fin f => match f with
    | .again _ => true
    | .done _ => false
  | _ => false
theorem agOf_fin {o : Out} (h : isAg o = true) : finOf o = some (.again (agOf o)) := by
  cases o with
  | fin f => cases f with
    | again c => rfl
    | done _ => cases h
  | _ => cases h
noncomputable def isCl : Out → Bool
  | .call .. => true
  | _ => false
noncomputable def clOf : Out → Code
  | .call c _ _ _ => c
  | _ => .builtin "" {}
theorem clOf_call {o : Out} (h : isCl o = true) : callOf o = some (clOf o) := by
  cases o with
  | call => rfl
  | _ => cases h
noncomputable def wtK : Kn → Nat
  | .base => 0
  | .ret c _ κ => c.weight + wtK κ
noncomputable def unK : Kn → Nat
  | .base => 0
  | .ret c _ κ => c.cUnits + unK κ
noncomputable def wtO : Out → Nat
  | .call _ _ c κ => c.weight + wtK κ
  | _ => 0
noncomputable def unO : Out → Nat
  | .call _ _ c κ => c.cUnits + unK κ
  | _ => 0
@[irreducible] noncomputable def aroO (A : Around) : Out → Around
  | .call _ _ c κ => ((aro A κ).under c).mark none
  | _ => A
@[irreducible] noncomputable def MeansO (prog : Program) (w : World) (A : Around) (QB : Fin → Shared → Prop) (EB : Value → Shared → Prop) (o : Out) (x : Result) (s : Shared) : Prop := match o with
  | .call _ k c κ => Means prog w A QB EB c κ (k x) s
  | _ => False
theorem aro_depth (A : Around) : ∀ κ, (aro A κ).depth = A.depth + wtK κ
  | .base => rfl
  | .ret c k κ => by show (aro A κ).depth + c.weight = _; rw [aro_depth A κ, wtK]; omega
theorem aro_units (A : Around) : ∀ κ, (aro A κ).units = A.units + unK κ
  | .base => rfl
  | .ret c k κ => by show (aro A κ).units + c.cUnits = _; rw [aro_units A κ, unK]; omega
theorem aroO_depth (A : Around) (o : Out) : (aroO A o).depth = A.depth + wtO o := by
  unfold aroO
  cases o with
  | call c' k c κ => show (aro A κ).depth + c.weight = A.depth + (c.weight + wtK κ); rw [aro_depth]; omega
  | _ => rfl
theorem room {A : Around} {o : Out} {k n m : Nat} (hd : A.depth + m < recursionLimit) (e : wtO o = k) (h : Nat.ble (k + n) m = true) : (aroO A o).depth + n < recursionLimit := by
  rw [aroO_depth, e, Nat.add_assoc]
  exact Nat.lt_of_le_of_lt (Nat.add_le_add_left (Nat.le_of_ble_eq_true h) _) hd
theorem room0 {A : Around} {m : Nat} (hd : A.depth + m < recursionLimit) : A.depth < recursionLimit := Nat.lt_of_le_of_lt (Nat.le_add_right _ _) hd
theorem aroO_units (A : Around) (o : Out) : (aroO A o).units = A.units + unO o := by
  unfold aroO
  cases o with
  | call c' k c κ => show (aro A κ).units + c.cUnits = A.units + (c.cUnits + unK κ); rw [aro_units]; omega
  | _ => rfl
theorem aroO_handled {A : Around} (hA : A.handled = none) (o : Out) : (aroO A o).handled = none := by
  unfold aroO
  cases o with
  | call c' k c κ => exact aro_handled hA κ
  | _ => exact hA
section
variable {prog : Program} {w : World} {A : Around} {QB : Fin → Shared → Prop} {EB : Value → Shared → Prop} {V : HV} {h₀ : Heap} {L₀ : List Addr} {g : Array GenState} {d : Drawn} {ost : OsState} {r : Res}
theorem ful_fin {f : Fin} (e : finOf r.out = some f) (H : ∀ h, Hold V h₀ L₀ h r.led r.m → QB f ⟨h, g, d, V.T + r.i, ost⟩) : Ful V h₀ L₀ g d ost prog w A QB EB r := by
  unfold Ful
  cases q : r.out with
  | fin f' => rw [q] at e; cases e; exact H
  | bad => rw [q] at e; cases e
  | err => rw [q] at e; cases e
  | stk => rw [q] at e; cases e
  | call => rw [q] at e; cases e
theorem ful_call {c' : Code} (e : callOf r.out = some c') (H : ∀ h, Hold V h₀ L₀ h r.led r.m → codeAny (model prog w) (aroO A r.out) c' (fun x s' => MeansO prog w A QB EB r.out x s') ⟨h, g, d, V.T + r.i, ost⟩) : Ful V h₀ L₀ g d ost prog w A QB EB r := by
  unfold Ful
  unfold aroO MeansO at H
  cases q : r.out with
  | call c₂ k c κ => rw [q] at e H; cases e; exact H
  | bad => rw [q] at e; cases e
  | err => rw [q] at e; cases e
  | stk => rw [q] at e; cases e
  | fin => rw [q] at e; cases e
theorem same_all {α : Type} : ∀ {l : List (α × α)}, l.map (·.1) = l.map (·.2) → ∀ p ∈ l, p.1 = p.2
  | [], _, _, hp => nomatch hp
  | x :: l, e, p, hp => by
    rw [List.map_cons, List.map_cons] at e
    injection e with e1 e2
    rcases List.mem_cons.mp hp with h | h
    · rw [h]; exact e1
    · exact same_all e2 p h
end
noncomputable def Sames (r : Res) : Prop := r.adr.map (·.1) = r.adr.map (·.2) ∧ r.cod.map (·.1) = r.cod.map (·.2)
noncomputable def nthP : List (Nat × Addr × Obj) → Nat → Option (Nat × Addr × Obj)
  | [], _ => none
  | p :: l, j => match j with
    | 0 => some p
    | j + 1 => nthP l j
structure Lk (r : Res) (ps : List (Nat × Addr × Obj)) (O E : Prop) : Prop where
  s1 : r.adr.map (·.1) = r.adr.map (·.2)
  s2 : r.cod.map (·.1) = r.cod.map (·.2)
  o : O
  l : ps.map (fun q => pick r.led q.1) = ps.map (fun q => some q.2)
  e : E
theorem Lk.s {r : Res} {ps : List (Nat × Addr × Obj)} {O E : Prop} (L : Lk r ps O E) : Sames r := ⟨L.s1, L.s2⟩
theorem nthP_at {led : Led} : ∀ {ps : List (Nat × Addr × Obj)} (_ : ps.map (fun q => pick led q.1) = ps.map (fun q => some q.2)) (i : Nat) {j : Nat} {p : Addr × Obj}, nthP ps i = some (j, p) → pick led j = some p
  | [], _, _, _, _, h => nomatch h
  | q :: ps, l, i, j, p, h => by
    have l' := List.cons.inj l
    cases i with
    | zero => cases h; exact l'.1
    | succ i => exact nthP_at l'.2 i h
theorem Lk.g {r : Res} {ps : List (Nat × Addr × Obj)} {O E : Prop} (L : Lk r ps O E) (i : Nat) {j : Nat} {p : Addr × Obj} (h : nthP ps i = some (j, p)) : pick r.led j = some p := nthP_at L.l i h
section
variable {prog : Program} {w : World} {A : Around} {QB : Fin → Shared → Prop} {EB : Value → Shared → Prop} {V : HV} {L₀ : List Addr} {s : Shared} {r : Res} {n : Nat} {hs : List Nat} {os : List Orc} {led : Led}
theorem code_run {c : Code} {R : Result → Shared → Prop} (hr : r = startZ V n hs os c led) (hask : V.ask = ⟨prog, w.params⟩) (hA : A.handled = none) (hT : V.T = s.toks) (hos : ∀ o ∈ os, OrcOk prog w o) (hsm : Sames r)
    (D : Hold V s.heap L₀ s.heap led 0) (H : Ful V s.heap L₀ s.gens s.drawn s.os prog w A (postC prog w A R) (postE R) r) : codeAny (model prog w) A c R s := by
  rw [← congrFun (congrFun (congrFun (congrFun (congrFun (congrFun startZ_eq V) n) hs) os) c) led] at hr
  subst hr
  have z := run_sound (L₀ := L₀) (g := s.gens) (d := s.drawn) (ost := s.os) hask hA n hs os c .base (denote table c) led 0 0 [] [] s.heap hos (same_all hsm.1) (same_all hsm.2) H D
  rw [Nat.add_zero, hT] at z
  exact y_code _ _ _ _ _ _ z
theorem resume_run {o : Out} {x : Result} (hr : r = resumeZ V n hs os o x led) (hask : V.ask = ⟨prog, w.params⟩) (hA : A.handled = none) (hT : V.T = s.toks) (hos : ∀ o ∈ os, OrcOk prog w o) (hsm : Sames r)
    (D : Hold V s.heap L₀ s.heap led 0) (H : Ful V s.heap L₀ s.gens s.drawn s.os prog w A QB EB r) : MeansO prog w A QB EB o x s := by
  rw [← congrFun (congrFun (congrFun (congrFun (congrFun (congrFun (congrFun resumeZ_eq V) n) hs) os) o) x) led] at hr
  subst hr
  unfold MeansO
  cases o with
  | call c' k c κ =>
    have z := run_sound (L₀ := L₀) (g := s.gens) (d := s.drawn) (ost := s.os) hask hA n hs os c κ (k x) led 0 0 [] [] s.heap hos (same_all hsm.1) (same_all hsm.2) H D
    rw [Nat.add_zero, hT] at z
    exact z
  | bad => exact H.elim
  | fin => exact H.elim
  | err => exact H.elim
  | stk => exact H.elim
theorem bind_assoc' {α β γ : Type} (m : Sem α) (f : α → Sem β) (k : β → Sem γ) : (m >>= f) >>= k = m >>= fun a => f a >>= k := bind_assoc m f k
theorem fn_run {a : Addr} {args : Args} {fd : FuncData} {o : Obj} {body : List Stmt} {R : Result → Shared → Prop} (hr : r = enterZ V n hs os a fd args led) (hask : V.ask = ⟨prog, w.params⟩) (hA : A.handled = none) (hT : V.T = s.toks) (hos : ∀ o ∈ os, OrcOk prog w o) (hsm : Sames r)
    (D : Hold V s.heap L₀ s.heap led 0)
    (hroom : A.depth < recursionLimit) (ho : s.heap.get? a = some o) (hd : o.data = .func fd) (hco : fd.scope.isCoroutine = false) (hgen : fd.scope.isGenerator = false) (hb : fd.body = .stmts body) (hcd : s.heap.CodeRec fd.code fd.qualname)
    (h2 : ∃ ob, V.kt.get 2 = some ob ∧ ob.data = .dict #[] 0)
    {cf : Code} (e : finOf r.out = some (.again cf))
    (H : ∀ h, Hold V s.heap L₀ h r.led r.m → codeAny (model prog w) A cf R ⟨h, s.gens, s.drawn, V.T + r.i, s.os⟩) : codeAny (model prog w) A (.call (.ref a) args) R s := by
  rw [← congrFun (congrFun (congrFun (congrFun (congrFun (congrFun (congrFun (congrFun enterZ_eq V) n) hs) os) a) fd) args) led] at hr
  subst hr
  have z := run_sound (L₀ := L₀) (g := s.gens) (d := s.drawn) (ost := s.os) (QB := fun fin s' => fin = .again cf ∧ s'.heap.NoLimit ∧ codeAny (model prog w) A cf R s') (EB := fun _ _ => False) hask hA n hs os (.call (.ref a) args) .base (entry a fd args) led 0 0 [] [] s.heap hos (same_all hsm.1) (same_all hsm.2)
    (ful_fin e fun h D' => ⟨rfl, ?_, H h D'⟩) D
  · rw [Nat.add_zero, hT] at z
    have z' : wpOwn (model prog w) A (.call (.ref a) args) (entry a fd args) _ _ s := z
    unfold entry at z'
    rw [hb] at z'
    refine codeAny_of_own ?_
    show wpOwn _ A (.call (.ref a) args) (callAny (.ref a) args) _ _ s
    simp only [callAny]
    refine wpOwn_bind (wpOwn_of_wpAny (wpAny_load ho ?_))
    obtain ⟨c, oc, vs, tq, hc, hoc, hdc, hq⟩ := hcd
    simp only [hd, callFunction, hco, hgen, hb, hc]
    refine wpOwn_bind (m := field (.ref c) 1) (wpOwn_of_wpAny (wpAny_field hoc hdc hq (wpOwn_bind (wpOwn_of_wpAny (wpAny_pure ?_)))))
    rw [hc] at z'
    have back : ∀ (m : Sem Env), wpOwn (model prog w) A (.call (.ref a) args) (m >>= fun env => again (.func body env)) (fun fin s' => fin = .again cf ∧ s'.heap.NoLimit ∧ codeAny (model prog w) A cf R s') (fun _ _ => False) s →
        wpOwn (model prog w) A (.call (.ref a) args) m (fun env' s' => .func body env' = cf ∧ s'.heap.NoLimit ∧ codeAny (model prog w) A cf R s') (fun _ _ => False) s := fun m hm Γ p hΓ hb => by
      have q := hm Γ p hΓ hb
      rw [Sem.wp_bind'] at q
      refine Sem.wp_mono _ Γ m (fun env' p' s' h' => ?_) (fun _ _ _ h' => h') p s q
      have h2 : Fin.again (.func body env') = .again cf ∧ s'.heap.NoLimit ∧ codeAny (model prog w) A cf R s' := h'
      injection h2.1 with h3
      exact ⟨h3, h2.2⟩
    have z2 := back _ (by rw [bind_assoc]; exact z')
    rw [← bind_assoc]
    refine wpOwn_bind (wpOwn_mono z2 (fun env' s' h' => ?_) (fun _ _ h' => h'.elim))
    obtain ⟨rfl, hn, hcode⟩ := h'
    have hd' : (A.under (.call (.ref a) args)).depth < recursionLimit := by
      show A.depth + Code.weight (.call (.ref a) args) < recursionLimit
      have : Code.weight (.call (.ref a) args) = 0 := rfl
      rw [this]; exact hroom
    exact wpOwn_bind (wpOwn_of_wpAny (wpAny_enterFrame hn hd' (wpOwn_of_wpAny (wpAny_pure ⟨rfl, hcode⟩))))
  · obtain ⟨ob, h1, h2⟩ := h2
    exact ⟨fun _ => none, ⟨ob, #[], 0, D'.stat _ _ h1, h2, fun e he => (by simp at he), fun name => rfl⟩, rfl⟩
end
noncomputable def hs0 (P : Params) (k : Str) : Int := if k.cps.isEmpty then 0 else reduceHash (P.strHash k.cps)
noncomputable def ent (P : Params) (k : Str) (t : Nat) (v : Value) : DictEntry := ⟨hs0 P k, .str k t, v⟩
noncomputable def topAt (j : Nat) : Stmt := PySem.Challenge.pw_nb0079_01.main.body.getD j (.Pass ⟨0, 0, 0, 0⟩)
noncomputable def clsAt (j : Nat) : Stmt := match topAt 1 with
  | .ClassDef _ _ _ body _ _ _ _ _ _ _ => body.getD j (.Pass ⟨0, 0, 0, 0⟩)
  | s => s
noncomputable def fdO (d : Stmt) (qual : Str) (pm cd : Value) : FuncData := match d with
  | .FunctionDef name args body _ _ _ scope _ _ _ => { name, qualname := qual, params := args, body := .stmts body, scope, globals := 3, closure := [], defaults := .none, kwdefaults := .none, pyModule := pm, code := cd }
  | _ => default
noncomputable def fnO (d : Stmt) (qual : Str) (pm cd : Value) : Obj := { cls := .type "function", data := .func (fdO d qual pm cd) }
noncomputable def bltEnt (P : Params) : List (String × Manifest.BuiltinName) → Nat → List DictEntry
  | [], _ => []
  | (name, kind) :: l, j => ⟨hs0 P (Str.ofString name), .str (Str.ofString name) j, if j = 1 then .str (Str.ofString "builtins") 160 else builtinAtStartup name kind⟩ :: bltEnt P l (j + 1)
noncomputable def o0 (P : Params) : Obj := ⟨.type "dict", none, .dict ⟨bltEnt P Manifest.builtinsNames 1⟩ 159, #[]⟩
noncomputable def o2 (P : Params) : Obj := ⟨.none, none, .dict #[] 0, #[]⟩
noncomputable def o3 (P : Params) : Obj := ⟨.type "dict", none, .dict #[ent P ⟨#[95, 95, 110, 97, 109, 101, 95, 95]⟩ 165 (.str ⟨#[108, 97, 119, 95, 110, 98, 48, 48, 55, 57, 95, 48, 49]⟩ 290),
    ent P ⟨#[95, 95, 100, 111, 99, 95, 95]⟩ 166 (.none),
    ent P ⟨#[95, 95, 112, 97, 99, 107, 97, 103, 101, 95, 95]⟩ 167 (.none),
    ent P ⟨#[95, 95, 108, 111, 97, 100, 101, 114, 95, 95]⟩ 168 (.builtin "__main__.__loader__#opaque"),
    ent P ⟨#[95, 95, 115, 112, 101, 99, 95, 95]⟩ 169 (.none),
    ent P ⟨#[95, 95, 97, 110, 110, 111, 116, 97, 116, 105, 111, 110, 115, 95, 95]⟩ 170 (.ref 6),
    ent P ⟨#[95, 95, 98, 117, 105, 108, 116, 105, 110, 115, 95, 95]⟩ 171 (.ref 4),
    ent P ⟨#[95, 95, 102, 105, 108, 101, 95, 95]⟩ 173 (.str ⟨#[47, 99, 108, 97, 105, 109, 47, 99, 117, 116, 46, 112, 121]⟩ 172),
    ent P ⟨#[95, 95, 99, 97, 99, 104, 101, 100, 95, 95]⟩ 174 (.none),
    ent P ⟨#[95, 110, 101, 116, 114, 99, 108, 101, 120]⟩ 246 (.ref 52),
    ent P ⟨#[67, 79, 77, 80, 73, 76, 69, 82, 95, 70, 76, 65, 71, 95, 78, 65, 77, 69, 83]⟩ 279 (.ref 57),
    ent P ⟨#[112, 114, 101, 116, 116, 121, 95, 102, 108, 97, 103, 115]⟩ 289 (.ref 64),
    ent P ⟨#[95, 108, 97, 119, 95, 116, 97, 98, 108, 101]⟩ 297 (.ref 71),
    ent P ⟨#[95, 108, 97, 119, 95, 115, 112, 101, 108, 116]⟩ 305 (.ref 78),
    ent P ⟨#[95, 108, 97, 119, 95, 114, 101, 97, 100, 101, 114]⟩ 317 (.ref 85),
    ent P ⟨#[95, 108, 97, 119, 95, 119, 111, 114, 100, 115]⟩ 323 (.ref 90),
    ent P ⟨#[95, 108, 97, 119, 95, 102, 97, 99, 116, 111, 114]⟩ 332 (.ref 97),
    ent P ⟨#[95, 108, 97, 119, 95, 112, 114, 111, 100, 117, 99, 116, 115]⟩ 345 (.ref 104),
    ent P ⟨#[95, 108, 97, 119, 95, 104, 101, 108, 100]⟩ 360 (.ref 111),
    ent P ⟨#[95, 108, 97, 119, 95, 114, 117, 110]⟩ 366 (.ref 116),
    ent P ⟨#[108, 97, 119]⟩ 378 (.ref 123)] 21, #[]⟩
noncomputable def o4 (P : Params) : Obj := ⟨.type "module", (some 0), .plain, #[]⟩
noncomputable def o27 (P : Params) : Obj := ⟨.type "code", none, .fields #[.str ⟨#[95, 95, 105, 110, 105, 116, 95, 95]⟩ 201, .str ⟨#[95, 110, 101, 116, 114, 99, 108, 101, 120, 46, 95, 95, 105, 110, 105, 116, 95, 95]⟩ 202, .str ⟨#[47, 99, 108, 97, 105, 109, 47, 99, 117, 116, 46, 112, 121]⟩ 203, .int 4 0, .int 2 0, .int 0 0, .int 0 0, .int 3 0, .ref 22, .bool true, .int 181 0, .ref 23, .none, .ref 24, .ref 25, .ref 26, .int 206 0, .int 4 0, .str ⟨#[47, 99, 108, 97, 105, 109, 47, 99, 117, 116, 46, 112, 121]⟩ 207], #[]⟩
noncomputable def o28 (P : Params) : Obj := fnO (clsAt 0) ⟨#[95, 110, 101, 116, 114, 99, 108, 101, 120, 46, 95, 95, 105, 110, 105, 116, 95, 95]⟩ (.str ⟨#[99, 112, 121, 51, 49, 51, 46, 110, 101, 116, 114, 99]⟩ 187) (.ref 27)
noncomputable def o34 (P : Params) : Obj := ⟨.type "code", none, .fields #[.str ⟨#[95, 114, 101, 97, 100, 95, 99, 104, 97, 114]⟩ 209, .str ⟨#[95, 110, 101, 116, 114, 99, 108, 101, 120, 46, 95, 114, 101, 97, 100, 95, 99, 104, 97, 114]⟩ 210, .str ⟨#[47, 99, 108, 97, 105, 109, 47, 99, 117, 116, 46, 112, 121]⟩ 211, .int 10 0, .int 1 0, .int 0 0, .int 0 0, .int 3 0, .ref 29, .bool true, .int 181 0, .ref 30, .none, .ref 31, .ref 32, .ref 33, .int 214 0, .int 10 0, .str ⟨#[47, 99, 108, 97, 105, 109, 47, 99, 117, 116, 46, 112, 121]⟩ 215], #[]⟩
noncomputable def o35 (P : Params) : Obj := fnO (clsAt 1) ⟨#[95, 110, 101, 116, 114, 99, 108, 101, 120, 46, 95, 114, 101, 97, 100, 95, 99, 104, 97, 114]⟩ (.str ⟨#[99, 112, 121, 51, 49, 51, 46, 110, 101, 116, 114, 99]⟩ 187) (.ref 34)
noncomputable def o41 (P : Params) : Obj := ⟨.type "code", none, .fields #[.str ⟨#[103, 101, 116, 95, 116, 111, 107, 101, 110]⟩ 217, .str ⟨#[95, 110, 101, 116, 114, 99, 108, 101, 120, 46, 103, 101, 116, 95, 116, 111, 107, 101, 110]⟩ 218, .str ⟨#[47, 99, 108, 97, 105, 109, 47, 99, 117, 116, 46, 112, 121]⟩ 219, .int 16 0, .int 1 0, .int 0 0, .int 0 0, .int 3 0, .ref 36, .bool true, .int 181 0, .ref 37, .none, .ref 38, .ref 39, .ref 40, .int 224 0, .int 16 0, .str ⟨#[47, 99, 108, 97, 105, 109, 47, 99, 117, 116, 46, 112, 121]⟩ 225], #[]⟩
noncomputable def o42 (P : Params) : Obj := fnO (clsAt 2) ⟨#[95, 110, 101, 116, 114, 99, 108, 101, 120, 46, 103, 101, 116, 95, 116, 111, 107, 101, 110]⟩ (.str ⟨#[99, 112, 121, 51, 49, 51, 46, 110, 101, 116, 114, 99]⟩ 187) (.ref 41)
noncomputable def o48 (P : Params) : Obj := ⟨.type "code", none, .fields #[.str ⟨#[112, 117, 115, 104, 95, 116, 111, 107, 101, 110]⟩ 227, .str ⟨#[95, 110, 101, 116, 114, 99, 108, 101, 120, 46, 112, 117, 115, 104, 95, 116, 111, 107, 101, 110]⟩ 228, .str ⟨#[47, 99, 108, 97, 105, 109, 47, 99, 117, 116, 46, 112, 121]⟩ 229, .int 43 0, .int 2 0, .int 0 0, .int 0 0, .int 3 0, .ref 43, .bool true, .int 181 0, .ref 44, .none, .ref 45, .ref 46, .ref 47, .int 232 0, .int 43 0, .str ⟨#[47, 99, 108, 97, 105, 109, 47, 99, 117, 116, 46, 112, 121]⟩ 233], #[]⟩
noncomputable def o49 (P : Params) : Obj := fnO (clsAt 3) ⟨#[95, 110, 101, 116, 114, 99, 108, 101, 120, 46, 112, 117, 115, 104, 95, 116, 111, 107, 101, 110]⟩ (.str ⟨#[99, 112, 121, 51, 49, 51, 46, 110, 101, 116, 114, 99]⟩ 187) (.ref 48)
noncomputable def o51 (P : Params) : Obj := ⟨.type "dict", none, .dict #[ent P ⟨#[95, 95, 109, 111, 100, 117, 108, 101, 95, 95]⟩ 196 (.str ⟨#[99, 112, 121, 51, 49, 51, 46, 110, 101, 116, 114, 99]⟩ 187),
    ent P ⟨#[95, 95, 102, 105, 114, 115, 116, 108, 105, 110, 101, 110, 111, 95, 95]⟩ 200 (.int 2 199),
    ent P ⟨#[95, 95, 105, 110, 105, 116, 95, 95]⟩ 208 (.ref 28),
    ent P ⟨#[95, 114, 101, 97, 100, 95, 99, 104, 97, 114]⟩ 216 (.ref 35),
    ent P ⟨#[103, 101, 116, 95, 116, 111, 107, 101, 110]⟩ 226 (.ref 42),
    ent P ⟨#[112, 117, 115, 104, 95, 116, 111, 107, 101, 110]⟩ 234 (.ref 49),
    ent P ⟨#[95, 95, 115, 116, 97, 116, 105, 99, 95, 97, 116, 116, 114, 105, 98, 117, 116, 101, 115, 95, 95]⟩ 239 (.ref 50),
    ent P ⟨#[95, 95, 100, 105, 99, 116, 95, 95]⟩ 241 (.ref 53),
    ent P ⟨#[95, 95, 119, 101, 97, 107, 114, 101, 102, 95, 95]⟩ 243 (.ref 54),
    ent P ⟨#[95, 95, 100, 111, 99, 95, 95]⟩ 244 (.none)] 4, #[]⟩
noncomputable def o52 (P : Params) : Obj := ⟨.type "type", none, .cls { name := ⟨#[95, 110, 101, 116, 114, 99, 108, 101, 120]⟩, bases := [.type "object"], mro := [.ref 52, .type "object"], ns := 51, qualname := ⟨#[95, 110, 101, 116, 114, 99, 108, 101, 120]⟩ }, #[none, none, some (.str ⟨#[95, 110, 101, 116, 114, 99, 108, 101, 120]⟩ 189), some (.str ⟨#[95, 110, 101, 116, 114, 99, 108, 101, 120]⟩ 197), some (.builtin "object.__new__"), some (.bool true)]⟩
noncomputable def o57 (P : Params) : Obj := ⟨.type "dict", none, .dict #[⟨1, .int 1 249, .str ⟨#[79, 80, 84, 73, 77, 73, 90, 69, 68]⟩ 250⟩,
    ⟨2, .int 2 251, .str ⟨#[78, 69, 87, 76, 79, 67, 65, 76, 83]⟩ 252⟩,
    ⟨4, .int 4 253, .str ⟨#[86, 65, 82, 65, 82, 71, 83]⟩ 254⟩,
    ⟨8, .int 8 255, .str ⟨#[86, 65, 82, 75, 69, 89, 87, 79, 82, 68, 83]⟩ 256⟩,
    ⟨16, .int 16 257, .str ⟨#[78, 69, 83, 84, 69, 68]⟩ 258⟩,
    ⟨32, .int 32 259, .str ⟨#[71, 69, 78, 69, 82, 65, 84, 79, 82]⟩ 260⟩,
    ⟨64, .int 64 261, .str ⟨#[78, 79, 70, 82, 69, 69]⟩ 262⟩,
    ⟨128, .int 128 263, .str ⟨#[67, 79, 82, 79, 85, 84, 73, 78, 69]⟩ 264⟩,
    ⟨256, .int 256 265, .str ⟨#[73, 84, 69, 82, 65, 66, 76, 69, 95, 67, 79, 82, 79, 85, 84, 73, 78, 69]⟩ 266⟩,
    ⟨512, .int 512 267, .str ⟨#[65, 83, 89, 78, 67, 95, 71, 69, 78, 69, 82, 65, 84, 79, 82]⟩ 268⟩] 10, #[]⟩
noncomputable def o63 (P : Params) : Obj := ⟨.type "code", none, .fields #[.str ⟨#[112, 114, 101, 116, 116, 121, 95, 102, 108, 97, 103, 115]⟩ 280, .str ⟨#[112, 114, 101, 116, 116, 121, 95, 102, 108, 97, 103, 115]⟩ 281, .str ⟨#[47, 99, 108, 97, 105, 109, 47, 99, 117, 116, 46, 112, 121]⟩ 282, .int 47 0, .int 1 0, .int 0 0, .int 0 0, .int 3 0, .ref 58, .bool true, .int 181 0, .ref 59, .none, .ref 60, .ref 61, .ref 62, .int 287 0, .int 47 0, .str ⟨#[47, 99, 108, 97, 105, 109, 47, 99, 117, 116, 46, 112, 121]⟩ 288], #[]⟩
noncomputable def o64 (P : Params) : Obj := fnO (topAt 4) ⟨#[112, 114, 101, 116, 116, 121, 95, 102, 108, 97, 103, 115]⟩ (.str ⟨#[99, 112, 121, 51, 49, 51, 46, 100, 105, 115]⟩ 247) (.ref 63)
noncomputable def o70 (P : Params) : Obj := ⟨.type "code", none, .fields #[.str ⟨#[95, 108, 97, 119, 95, 116, 97, 98, 108, 101]⟩ 292, .str ⟨#[95, 108, 97, 119, 95, 116, 97, 98, 108, 101]⟩ 293, .str ⟨#[47, 99, 108, 97, 105, 109, 47, 99, 117, 116, 46, 112, 121]⟩ 294, .int 60 0, .int 0 0, .int 0 0, .int 0 0, .int 3 0, .ref 65, .bool true, .int 181 0, .ref 66, .none, .ref 67, .ref 68, .ref 69, .int 295 0, .int 60 0, .str ⟨#[47, 99, 108, 97, 105, 109, 47, 99, 117, 116, 46, 112, 121]⟩ 296], #[]⟩
noncomputable def o71 (P : Params) : Obj := fnO (topAt 6) ⟨#[95, 108, 97, 119, 95, 116, 97, 98, 108, 101]⟩ (.str ⟨#[108, 97, 119, 95, 110, 98, 48, 48, 55, 57, 95, 48, 49]⟩ 290) (.ref 70)
noncomputable def o77 (P : Params) : Obj := ⟨.type "code", none, .fields #[.str ⟨#[95, 108, 97, 119, 95, 115, 112, 101, 108, 116]⟩ 298, .str ⟨#[95, 108, 97, 119, 95, 115, 112, 101, 108, 116]⟩ 299, .str ⟨#[47, 99, 108, 97, 105, 109, 47, 99, 117, 116, 46, 112, 121]⟩ 300, .int 62 0, .int 2 0, .int 0 0, .int 0 0, .int 3 0, .ref 72, .bool true, .int 181 0, .ref 73, .none, .ref 74, .ref 75, .ref 76, .int 303 0, .int 62 0, .str ⟨#[47, 99, 108, 97, 105, 109, 47, 99, 117, 116, 46, 112, 121]⟩ 304], #[]⟩
noncomputable def o78 (P : Params) : Obj := fnO (topAt 7) ⟨#[95, 108, 97, 119, 95, 115, 112, 101, 108, 116]⟩ (.str ⟨#[108, 97, 119, 95, 110, 98, 48, 48, 55, 57, 95, 48, 49]⟩ 290) (.ref 77)
noncomputable def o80 (P : Params) : Obj := ⟨.none, none, .fields #[], #[]⟩
noncomputable def o84 (P : Params) : Obj := ⟨.type "code", none, .fields #[.str ⟨#[95, 108, 97, 119, 95, 114, 101, 97, 100, 101, 114]⟩ 306, .str ⟨#[95, 108, 97, 119, 95, 114, 101, 97, 100, 101, 114]⟩ 307, .str ⟨#[47, 99, 108, 97, 105, 109, 47, 99, 117, 116, 46, 112, 121]⟩ 308, .int 68 0, .int 2 0, .int 0 0, .int 0 0, .int 3 0, .ref 79, .bool true, .int 181 0, .ref 80, .none, .ref 81, .ref 82, .ref 83, .int 315 0, .int 68 0, .str ⟨#[47, 99, 108, 97, 105, 109, 47, 99, 117, 116, 46, 112, 121]⟩ 316], #[]⟩
noncomputable def o85 (P : Params) : Obj := fnO (topAt 8) ⟨#[95, 108, 97, 119, 95, 114, 101, 97, 100, 101, 114]⟩ (.str ⟨#[108, 97, 119, 95, 110, 98, 48, 48, 55, 57, 95, 48, 49]⟩ 290) (.ref 84)
noncomputable def o89 (P : Params) : Obj := ⟨.type "code", none, .fields #[.str ⟨#[95, 108, 97, 119, 95, 119, 111, 114, 100, 115]⟩ 318, .str ⟨#[95, 108, 97, 119, 95, 119, 111, 114, 100, 115]⟩ 319, .str ⟨#[47, 99, 108, 97, 105, 109, 47, 99, 117, 116, 46, 112, 121]⟩ 320, .int 77 0, .int 1 0, .int 0 0, .int 0 0, .int 3 0, .ref 86, .bool true, .int 181 0, .ref 87, .none, .none, .none, .ref 88, .int 321 0, .int 77 0, .str ⟨#[47, 99, 108, 97, 105, 109, 47, 99, 117, 116, 46, 112, 121]⟩ 322], #[]⟩
noncomputable def o90 (P : Params) : Obj := fnO (topAt 9) ⟨#[95, 108, 97, 119, 95, 119, 111, 114, 100, 115]⟩ (.str ⟨#[108, 97, 119, 95, 110, 98, 48, 48, 55, 57, 95, 48, 49]⟩ 290) (.ref 89)
noncomputable def o96 (P : Params) : Obj := ⟨.type "code", none, .fields #[.str ⟨#[95, 108, 97, 119, 95, 102, 97, 99, 116, 111, 114]⟩ 324, .str ⟨#[95, 108, 97, 119, 95, 102, 97, 99, 116, 111, 114]⟩ 325, .str ⟨#[47, 99, 108, 97, 105, 109, 47, 99, 117, 116, 46, 112, 121]⟩ 326, .int 79 0, .int 1 0, .int 0 0, .int 0 0, .int 3 0, .ref 91, .bool true, .int 181 0, .ref 92, .none, .ref 93, .ref 94, .ref 95, .int 330 0, .int 79 0, .str ⟨#[47, 99, 108, 97, 105, 109, 47, 99, 117, 116, 46, 112, 121]⟩ 331], #[]⟩
noncomputable def o97 (P : Params) : Obj := fnO (topAt 10) ⟨#[95, 108, 97, 119, 95, 102, 97, 99, 116, 111, 114]⟩ (.str ⟨#[108, 97, 119, 95, 110, 98, 48, 48, 55, 57, 95, 48, 49]⟩ 290) (.ref 96)
noncomputable def o103 (P : Params) : Obj := ⟨.type "code", none, .fields #[.str ⟨#[95, 108, 97, 119, 95, 112, 114, 111, 100, 117, 99, 116, 115]⟩ 333, .str ⟨#[95, 108, 97, 119, 95, 112, 114, 111, 100, 117, 99, 116, 115]⟩ 334, .str ⟨#[47, 99, 108, 97, 105, 109, 47, 99, 117, 116, 46, 112, 121]⟩ 335, .int 85 0, .int 2 0, .int 0 0, .int 0 0, .int 3 0, .ref 98, .bool true, .int 181 0, .ref 99, .none, .ref 100, .ref 101, .ref 102, .int 343 0, .int 85 0, .str ⟨#[47, 99, 108, 97, 105, 109, 47, 99, 117, 116, 46, 112, 121]⟩ 344], #[]⟩
noncomputable def o104 (P : Params) : Obj := fnO (topAt 11) ⟨#[95, 108, 97, 119, 95, 112, 114, 111, 100, 117, 99, 116, 115]⟩ (.str ⟨#[108, 97, 119, 95, 110, 98, 48, 48, 55, 57, 95, 48, 49]⟩ 290) (.ref 103)
noncomputable def o110 (P : Params) : Obj := ⟨.type "code", none, .fields #[.str ⟨#[95, 108, 97, 119, 95, 104, 101, 108, 100]⟩ 346, .str ⟨#[95, 108, 97, 119, 95, 104, 101, 108, 100]⟩ 347, .str ⟨#[47, 99, 108, 97, 105, 109, 47, 99, 117, 116, 46, 112, 121]⟩ 348, .int 94 0, .int 4 0, .int 0 0, .int 0 0, .int 3 0, .ref 105, .bool true, .int 181 0, .ref 106, .none, .ref 107, .ref 108, .ref 109, .int 358 0, .int 94 0, .str ⟨#[47, 99, 108, 97, 105, 109, 47, 99, 117, 116, 46, 112, 121]⟩ 359], #[]⟩
noncomputable def o111 (P : Params) : Obj := fnO (topAt 12) ⟨#[95, 108, 97, 119, 95, 104, 101, 108, 100]⟩ (.str ⟨#[108, 97, 119, 95, 110, 98, 48, 48, 55, 57, 95, 48, 49]⟩ 290) (.ref 110)
noncomputable def o115 (P : Params) : Obj := ⟨.type "code", none, .fields #[.str ⟨#[95, 108, 97, 119, 95, 114, 117, 110]⟩ 361, .str ⟨#[95, 108, 97, 119, 95, 114, 117, 110]⟩ 362, .str ⟨#[47, 99, 108, 97, 105, 109, 47, 99, 117, 116, 46, 112, 121]⟩ 363, .int 111 0, .int 2 0, .int 0 0, .int 0 0, .int 3 0, .ref 112, .bool true, .int 181 0, .ref 113, .none, .none, .none, .ref 114, .int 364 0, .int 111 0, .str ⟨#[47, 99, 108, 97, 105, 109, 47, 99, 117, 116, 46, 112, 121]⟩ 365], #[]⟩
noncomputable def o116 (P : Params) : Obj := fnO (topAt 13) ⟨#[95, 108, 97, 119, 95, 114, 117, 110]⟩ (.str ⟨#[108, 97, 119, 95, 110, 98, 48, 48, 55, 57, 95, 48, 49]⟩ 290) (.ref 115)
noncomputable def o122 (P : Params) : Obj := ⟨.type "code", none, .fields #[.str ⟨#[108, 97, 119]⟩ 367, .str ⟨#[108, 97, 119]⟩ 368, .str ⟨#[47, 99, 108, 97, 105, 109, 47, 99, 117, 116, 46, 112, 121]⟩ 369, .int 122 0, .int 1 0, .int 0 0, .int 0 0, .int 3 0, .ref 117, .bool true, .int 181 0, .ref 118, .none, .ref 119, .ref 120, .ref 121, .int 376 0, .int 122 0, .str ⟨#[47, 99, 108, 97, 105, 109, 47, 99, 117, 116, 46, 112, 121]⟩ 377], #[]⟩
noncomputable def o123 (P : Params) : Obj := fnO (topAt 14) ⟨#[108, 97, 119]⟩ (.str ⟨#[108, 97, 119, 95, 110, 98, 48, 48, 55, 57, 95, 48, 49]⟩ 290) (.ref 122)
noncomputable def kt (P : Params) : KT := (.node (some (o0 P)) (.node none (.node (some (o3 P)) (.node none (.node none (.node none (.node (some (o63 P)) .nil .nil) .nil) (.node none .nil (.node (some (o111 P)) .nil .nil))) (.node none (.node none (.node (some (o71 P)) .nil .nil) (.node (some (o103 P)) .nil .nil)) .nil)) (.node none (.node none (.node (some (o35 P)) .nil .nil) (.node (some (o51 P)) .nil (.node (some (o115 P)) .nil .nil))) (.node (some (o27 P)) .nil (.node none .nil (.node (some (o123 P)) .nil .nil))))) (.node none (.node none (.node none (.node none .nil (.node (some (o97 P)) .nil .nil)) (.node (some (o49 P)) .nil .nil)) (.node none (.node (some (o41 P)) .nil .nil) (.node (some (o57 P)) (.node (some (o89 P)) .nil .nil) .nil))) (.node none (.node none .nil (.node none (.node (some (o85 P)) .nil .nil) .nil)) (.node none (.node none (.node (some (o77 P)) .nil .nil) .nil) .nil)))) (.node (some (o2 P)) (.node (some (o4 P)) (.node none (.node none (.node none (.node (some (o64 P)) .nil .nil) (.node (some (o96 P)) .nil .nil)) (.node (some (o48 P)) .nil .nil)) (.node none (.node none .nil (.node (some (o104 P)) .nil .nil)) .nil)) (.node none (.node none .nil (.node (some (o52 P)) (.node (some (o84 P)) .nil .nil) (.node (some (o116 P)) .nil .nil))) (.node (some (o28 P)) .nil .nil))) (.node none (.node none (.node none (.node (some (o34 P)) .nil .nil) .nil) (.node none (.node (some (o42 P)) .nil .nil) (.node none (.node (some (o90 P)) .nil .nil) (.node (some (o122 P)) .nil .nil)))) (.node none (.node none (.node none (.node (some (o70 P)) .nil .nil) .nil) .nil) (.node none (.node none (.node (some (o78 P)) .nil .nil) (.node (some (o110 P)) .nil .nil)) .nil)))))
theorem kt_rfl : @kt = @kt := rfl
end Mine
lay_z Mine.kt
name_z ktZ for Mine.kt by Mine.kt_rfl
namespace Mine
open PySem PySem.W PySem.W.X PyProof.Rows PySem.W.ZFast
noncomputable abbrev pg : Program := PySem.Challenge.pw_nb0079_01
noncomputable def askS (w : World) (b : Bool) : Setting := ⟨pg, { w.params with followText := fun r => if r = "special-get-raises" then b else w.params.followText r }⟩
theorem askS_rfl : @askS = @askS := rfl
end Mine
lay_z Mine.askS
name_z askZ for Mine.askS by Mine.askS_rfl
namespace Mine
open PySem PySem.W PySem.W.X PyProof.Rows PySem.W.ZFast
theorem askZ_is {w : World} {b : Bool} (hb : w.params.followText "special-get-raises" = b) : askZ w b = ⟨pg, w.params⟩ := by
  rw [← congrFun (congrFun askZ_eq w) b]
  unfold askS
  have e : (fun r => if r = "special-get-raises" then b else w.params.followText r) = w.params.followText := by
    funext r
    by_cases h : r = "special-get-raises"
    · rw [if_pos h, h, hb]
    · rw [if_neg h]
  rw [e]
noncomputable def VV (w : World) (b : Bool) (N T : Nat) : HV := ⟨askZ w b, ktZ w.params, N, T⟩
noncomputable def Sta (w : World) (h : Heap) : Prop := ∀ a o, (ktZ w.params).get a = some o → h.get? a = some o
noncomputable def Off (w : World) (a : Addr) : Prop := (ktZ w.params).get a = none
noncomputable def Kp (mods : List Addr) (h h' : Heap) : Prop := h.objs.size ≤ h'.objs.size ∧ ∀ b o, h.get? b = some o → b ∉ mods → h'.get? b = some o
theorem Sta.kp {w : World} {h h' : Heap} {mods : List Addr} (S : Sta w h) (K : Kp mods h h') (off : ∀ a ∈ mods, Off w a) : Sta w h' := fun a o e =>
  K.2 a o (S a o e) fun hm => by have := off a hm; unfold Off at this; rw [e] at this; cases this
theorem Sta.off {w : World} {h : Heap} {a : Addr} (S : Sta w h) (ha : h.objs.size ≤ a) : Off w a := by
  unfold Off
  cases e : (ktZ w.params).get a with
  | none => rfl
  | some o => exact absurd (Heap.lt_size (S a o e)) (Nat.not_lt.mpr ha)
theorem Kp.refl (mods : List Addr) (h : Heap) : Kp mods h h := ⟨Nat.le_refl _, fun _ _ e _ => e⟩
theorem Kp.trans {M M' : List Addr} {h0 h1 h2 : Heap} (K : Kp M h0 h1) (K' : Kp M' h1 h2) (hm : ∀ a ∈ M', a ∈ M ∨ h0.objs.size ≤ a) : Kp M h0 h2 :=
  ⟨Nat.le_trans K.1 K'.1, fun b o e hb => K'.2 b o (K.2 b o e hb) fun hb' => by
    rcases hm b hb' with h | h
    · exact hb h
    · exact absurd (Heap.lt_size e) (Nat.not_lt.mpr h)⟩
theorem Kp.mono {M M' : List Addr} {h h' : Heap} (K : Kp M h h') (hm : ∀ a ∈ M, a ∈ M' ∨ h.objs.size ≤ a) : Kp M' h h' :=
  ⟨K.1, fun b o e hb => K.2 b o e fun hb' => by
    rcases hm b hb' with q | q
    · exact hb q
    · exact absurd (Heap.lt_size e) (Nat.not_lt.mpr q)⟩
theorem Kp.get {M : List Addr} {h h' : Heap} {a : Addr} {o : Obj} (K : Kp M h h') (e : h.get? a = some o) (ha : a ∉ M) : h'.get? a = some o := K.2 a o e ha
section
variable {w : World} {b : Bool} {N T T' : Nat} {h₀ h h₁ h₂ : Heap} {L₀ mods : List Addr} {led led₀ led₂ : Led} {m : Nat}
theorem Hold.init (S : Sta w h) (ha : ∀ p ∈ led, h.get? p.1 = some p.2) (nd : (led.map (·.1)).Nodup) (off : ∀ p ∈ led, Off w p.1) : Hold (VV w b h.objs.size T) h (led.map (·.1)) h led 0 :=
  ⟨rfl, ha, nd, S, off, fun p hp => .inl (List.mem_map_of_mem hp), Nat.le_refl _, fun _ _ e _ => e⟩
theorem Hold.sta (D : Hold (VV w b N T) h₀ L₀ h led m) : Sta w h := D.stat
theorem Hold.next (D : Hold (VV w b N T) h₀ L₀ h led m) (T' : Nat) : Hold (VV w b h.objs.size T') h (led.map (·.1)) h led 0 := Hold.init D.stat D.at_ D.nd D.off
theorem Hold.kp (D : Hold (VV w b N T) h₀ (led₀.map (·.1)) h led m) (ha : ∀ p ∈ led₀, h₀.get? p.1 = some p.2) (hm : ∀ p ∈ led₀, p.1 ∈ mods ∨ p ∈ led) : Kp mods h₀ h := by
  refine ⟨by have := D.low; have := D.size; omega, fun x o e hx => ?_⟩
  by_cases q : x ∈ led₀.map (·.1)
  · obtain ⟨p, hp, rfl⟩ := List.mem_map.mp q
    have : o = p.2 := Option.some.inj (e.symm.trans (ha p hp))
    subst this
    rcases hm p hp with h1 | h1
    · exact absurd h1 hx
    · exact D.at_ p h1
  · exact D.keep x o e q
theorem Hold.at' (D : Hold (VV w b N T) h₀ L₀ h led m) {j : Nat} {a : Addr} {o : Obj} (e : pick led j = some (a, o)) : h.get? a = some o := D.at_ (a, o) (pick_mem e)
theorem Hold.off' (D : Hold (VV w b N T) h₀ L₀ h led m) {j : Nat} {a : Addr} {o : Obj} (e : pick led j = some (a, o)) : Off w a := D.off (a, o) (pick_mem e)
theorem Hold.lt' (D : Hold (VV w b N T) h₀ L₀ h led m) {j : Nat} {a : Addr} {o : Obj} (e : pick led j = some (a, o)) : a < h.objs.size := Heap.lt_size (D.at' e)
theorem Hold.chg (D : Hold (VV w b N T) h₀ L₀ h₁ led m) (K : Kp mods h₁ h₂) (S : Sta w h₂) (hk : led₂.map (·.1) = led.map (·.1)) (hv : ∀ p ∈ led₂, (p ∈ led ∧ p.1 ∉ mods) ∨ h₂.get? p.1 = some p.2) : Hold (VV w b h₂.objs.size T') h₂ (led₂.map (·.1)) h₂ led₂ 0 := by
  refine Hold.init S (fun p hp => ?_) (by rw [hk]; exact D.nd) fun p hp => ?_
  · rcases hv p hp with ⟨h1, h2⟩ | h1
    · exact K.get (D.at_ p h1) h2
    · exact h1
  · have : p.1 ∈ led.map (·.1) := by rw [← hk]; exact List.mem_map_of_mem hp
    obtain ⟨q, hq, e⟩ := List.mem_map.mp this
    rw [← e]; exact D.off q hq
theorem Hold.put1 (D : Hold (VV w b N T) h₀ L₀ h₁ led m) {j : Nat} {a : Addr} {o₀ o : Obj} (e : pick led j = some (a, o₀)) (K : Kp [a] h₁ h₂) (ha : h₂.get? a = some o) (T' : Nat) : Hold (VV w b h₂.objs.size T') h₂ ((put led j o).map (·.1)) h₂ (put led j o) 0 := by
  refine D.chg K (D.sta.kp K fun x hx => by cases List.mem_singleton.mp hx; exact D.off' e) (put_keys ..) fun p hp => ?_
  rcases put_mem e p hp with h1 | ⟨h1, h2⟩
  · rw [h1]; exact .inr ha
  · exact .inl ⟨h1, fun z => h2 D.nd (List.mem_singleton.mp z)⟩
theorem Hold.same (D : Hold (VV w b N T) h₀ L₀ h₁ led m) (K : Kp [] h₁ h₂) (T' : Nat) : Hold (VV w b h₂.objs.size T') h₂ (led.map (·.1)) h₂ led 0 :=
  D.chg K (D.sta.kp K fun x hx => nomatch hx) rfl fun p hp => .inl ⟨hp, fun z => nomatch z⟩
theorem Hold.join (D : Hold (VV w b N T) h₀ L₀ h led 0) {a : Addr} {o : Obj} (ha : h.get? a = some o) (hn : a ∉ led.map (·.1)) (ho : Off w a) (T' : Nat) : Hold (VV w b h.objs.size T') h ((snoc led a o).map (·.1)) h (snoc led a o) 0 := by
  rw [snoc_eq]
  refine Hold.init D.stat (fun p hp => ?_) ?_ fun p hp => ?_
  · rcases List.mem_append.mp hp with h1 | h1
    · exact D.at_ p h1
    · cases List.mem_singleton.mp h1; exact ha
  · rw [List.map_append]
    refine List.nodup_append.mpr ⟨D.nd, by simp, fun x hx y hy => ?_⟩
    cases List.mem_singleton.mp hy
    exact fun z => hn (by have z' : x = a := z; rw [← z']; exact hx)
  · rcases List.mem_append.mp hp with h1 | h1
    · exact D.off p h1
    · cases List.mem_singleton.mp h1; exact ho
end
noncomputable def Ctr (w : World) (need : Nat) (c : Code) (pre : Heap → Prop) (post : Heap → Value → Heap → Prop) : Prop :=
  ∀ (A : Around) (R : Result → Shared → Prop) (s : Shared), A.handled = none → A.depth + need < recursionLimit → Sta w s.heap → pre s.heap →
    (∀ v h' tk', post s.heap v h' → R (.ok (.ret v)) ⟨h', s.gens, s.drawn, tk', s.os⟩) → codeAny (model pg w) A c R s
section
variable {w : World} {T : String} {name : Str} {id : String} {b : Builtin} {self : Value} {rest : List Value} {v : Value} {i : Int} {x : Str}
theorem code_gives {prog : Program} {A : Around} {R : Result → Shared → Prop} {s : Shared} {m : Made} (sl : Slot T name id) (hT : s.TypeIs self T) (en : entryFor table id = some b) (ha : argsOk id ⟨self :: rest, []⟩) (g : Gives (b ⟨self :: rest, []⟩) m)
    (h : m.post (fun v s' => R (.ok (.ret v)) s') s) : codeAny (model prog w) A (.call (.builtin id) ⟨self :: rest, []⟩) R s :=
  codeAny_call_builtin sl.plain en (sl.check _ _ _ _ _ _ _ _ hT ha (g prog w A R s h))
theorem orc_val (sl : Slot T name id) (hT : ∀ s : Shared, s.TypeIs self T) (en : entryFor table id = some b) (ha : argsOk id ⟨self :: rest, []⟩) (g : Gives (b ⟨self :: rest, []⟩) (.val v)) : OrcOk pg w ⟨.call (.builtin id) ⟨self :: rest, []⟩, fun _ => v, 0⟩ :=
  fun A R s h => code_gives sl (hT s) en ha g h
theorem orc_int (sl : Slot T name id) (hT : ∀ s : Shared, s.TypeIs self T) (en : entryFor table id = some b) (ha : argsOk id ⟨self :: rest, []⟩) (g : Gives (b ⟨self :: rest, []⟩) (.int i)) : OrcOk pg w ⟨.call (.builtin id) ⟨self :: rest, []⟩, fun t => .int i t, 1⟩ :=
  fun A R s h => code_gives sl (hT s) en ha g h
theorem orc_str (sl : Slot T name id) (hT : ∀ s : Shared, s.TypeIs self T) (en : entryFor table id = some b) (ha : argsOk id ⟨self :: rest, []⟩) (g : Gives (b ⟨self :: rest, []⟩) (.str x)) (hx : x.length ≤ sizeLine) : OrcOk pg w ⟨.call (.builtin id) ⟨self :: rest, []⟩, fun t => .str x t, 1⟩ :=
  fun A R s h => code_gives sl (hT s) en ha g ⟨hx, h⟩
end
noncomputable abbrev cB (id : String) (args : List Value) : Code := .call (.builtin id) ⟨args, []⟩
section
variable {w : World}
theorem oStrEq {x y : Str} {t u : Tok} {b : Bool} (h : (x.cps.toList == y.cps.toList) = b) : OrcOk pg w ⟨cB "str.__eq__" [.str x t, .str y u], fun _ => .bool b, 0⟩ :=
  h ▸ orc_val F.slot_str_eq (fun s => typeIs_str s x t) F.entry_str_eq (F.args_str_eq_2 _ _) (gives_str_eq x y t u)
theorem oStrNe {x y : Str} {t u : Tok} {b : Bool} (h : (x.cps.toList != y.cps.toList) = b) : OrcOk pg w ⟨cB "str.__ne__" [.str x t, .str y u], fun _ => .bool b, 0⟩ :=
  h ▸ orc_val F.slot_str_ne (fun s => typeIs_str s x t) F.entry_str_ne (F.args_str_ne_2 _ _) (gives_str_ne x y t u)
theorem oStrIn {x y : Str} {t u : Tok} {b : Bool} (h : (!(Builtin.Str.occurrences x y 0 x.length 1).isEmpty) = b) : OrcOk pg w ⟨cB "str.__contains__" [.str x t, .str y u], fun _ => .bool b, 0⟩ :=
  h ▸ orc_val F.slot_str_contains (fun s => typeIs_str s x t) F.entry_str_contains (F.args_str_contains_2 _ _) (gives_str_contains x y t u)
theorem oStrAdd {x y : Str} {t u : Tok} (hx : (x.length == 0) = false) (hy : (y.length == 0) = false) (hs : (x ++ y).length ≤ sizeLine) : OrcOk pg w ⟨cB "str.__add__" [.str x t, .str y u], fun k => .str (x ++ y) k, 1⟩ := by
  have g := gives_str_add x y t u
  rw [hx, hy] at g
  exact orc_str F.slot_str_add (fun s => typeIs_str s x t) F.entry_str_add (F.args_str_add_2 _ _) g hs
theorem oStrAdd0 {x y : Str} {t u : Tok} (hx : (x.length == 0) = true) : OrcOk pg w ⟨cB "str.__add__" [.str x t, .str y u], fun _ => .str y u, 0⟩ := by
  have g := gives_str_add x y t u
  rw [hx] at g
  exact orc_val F.slot_str_add (fun s => typeIs_str s x t) F.entry_str_add (F.args_str_add_2 _ _) g
theorem oIntLt {x y : Int} {t u : Tok} {b : Bool} (h : decide (x < y) = b) : OrcOk pg w ⟨cB "int.__lt__" [.int x t, .int y u], fun _ => .bool b, 0⟩ :=
  h ▸ orc_val F.slot_int_lt (fun s => typeIs_int s x t) F.entry_int_lt (F.args_int_lt_2 _ _) (gives_int_lt x y t u)
theorem oIntEq {x y : Int} {t u : Tok} {b : Bool} (h : (x == y) = b) : OrcOk pg w ⟨cB "int.__eq__" [.int x t, .int y u], fun _ => .bool b, 0⟩ :=
  h ▸ orc_val F.slot_int_eq (fun s => typeIs_int s x t) F.entry_int_eq (F.args_int_eq_2 _ _) (gives_int_eq x y t u)
theorem oIntNe {x y : Int} {t u : Tok} {b : Bool} (h : (x != y) = b) : OrcOk pg w ⟨cB "int.__ne__" [.int x t, .int y u], fun _ => .bool b, 0⟩ :=
  h ▸ orc_val F.slot_int_ne (fun s => typeIs_int s x t) F.entry_int_ne (F.args_int_ne_2 _ _) (gives_int_ne x y t u)
theorem oIntBool {x : Int} {t : Tok} {b : Bool} (h : (x != 0) = b) : OrcOk pg w ⟨cB "int.__bool__" [.int x t], fun _ => .bool b, 0⟩ :=
  h ▸ orc_val F.slot_int_bool (fun s => typeIs_int s x t) F.entry_int_bool (F.args_int_bool_1 _) (gives_int_bool x t)
end
noncomputable abbrev listO (xs : Array Value) (n : Nat) : Obj := ⟨.type "list", none, .seq xs n, #[]⟩
theorem cAppend {w : World} {A : Around} {R : Result → Shared → Prop} {h₀ : Heap} {g : Array GenState} {d : Drawn} {T : Nat} {ost : OsState} {a : Addr} {xs : Array Value} {n : Nat} {v : Value} (ha : h₀.get? a = some (listO xs n)) (hsz : xs.size ≤ sizeLine)
    (h : ∀ h' N', h'.objs.size = N' → Kp [a] h₀ h' → h'.get? a = some (listO (xs.push v) (n + 1)) → R (.ok (.ret .none)) ⟨h', g, d, T, ost⟩) : codeAny (model pg w) A (cB "list.append" [.ref a, v]) R ⟨h₀, g, d, T, ost⟩ := by
  generalize hs : (⟨h₀, g, d, T, ost⟩ : Shared) = s
  have ha : s.heap.get? a = some (listO xs n) := by rw [← hs]; exact ha
  have h : ∀ h', Kp [a] s.heap h' → h'.get? a = some (listO (xs.push v) (n + 1)) → R (.ok (.ret .none)) { s with heap := h' } := by rw [← hs]; exact fun h' k e => h h' _ rfl k e
  have hl : s.heap.IsList a xs := ⟨_, ha, rfl, n, rfl⟩
  refine codeAny_call_builtin slot_list_append.plain entry_list_append (slot_list_append.check _ _ _ _ _ _ _ _ hl.typeIs (args_list_append _ _) ?_)
  show wpAny _ _ (updateSeq a (·.push v) >>= fun _ => ret .none) _ _ s
  refine wpAny_bind ?_
  refine wpAny_updateSeq ha rfl (wpAny_pure (h _ ?_ ?_))
  · exact ⟨by rw [Heap.size_after_update]; exact Nat.le_refl _, fun x o e hx => ((Heap.SameBut.update s.heap a _).2 x fun z => hx (z ▸ .head _)).trans e⟩
  · have e : Obj.mapSeq (·.push v) (listO xs n) = listO (xs.push v) (n + 1) := by
      simp [Obj.mapSeq, listO]
    rw [Heap.get?_update_self _ ha (by rw [e]; rfl), e]
structure FnAt (w : World) (a : Addr) (fd : FuncData) : Prop where
  at_ : ∃ o, (ktZ w.params).get a = some o ∧ o.data = .func fd
  co : fd.scope.isCoroutine = false
  gen : fd.scope.isGenerator = false
  body : ∃ b, fd.body = .stmts b
  code : ∃ c oc vs t, fd.code = .ref c ∧ (ktZ w.params).get c = some oc ∧ oc.data = .fields vs ∧ vs[1]? = some (.str fd.qualname t)
noncomputable def flds (o : Obj) : Array Value := match o.data with | .fields vs => vs | _ => #[]
noncomputable def tokOf : Value → Nat
  | .str _ t => t
  | _ => 0
noncomputable def fdOf (o : Obj) : FuncData := match o.data with | .func f => f | _ => default
noncomputable def bodyOf (f : FuncData) : List Stmt := match f.body with | .stmts b => b | _ => []
theorem pick_put_ne : ∀ {led : Led} {j k : Nat} {o : Obj}, j ≠ k → pick (put led j o) k = pick led k
  | [], _, _, _, _ => rfl
  | _ :: _, 0, 0, _, h => absurd rfl h
  | _ :: _, 0, _ + 1, _, _ => rfl
  | _ :: _, _ + 1, 0, _, _ => rfl
  | _ :: l, j + 1, k + 1, o, h => pick_put_ne (led := l) (j := j) (k := k) fun e => h (by rw [e])
theorem pick_get : ∀ (led : Led) (j : Nat), pick led j = led[j]?
  | [], _ => by simp [pick]
  | _ :: _, 0 => rfl
  | _ :: l, j + 1 => by show pick l j = _; rw [pick_get l j]; rfl
theorem pick_ne {led : Led} (nd : (led.map (·.1)).Nodup) {j k : Nat} {p q : Addr × Obj} (hjk : j ≠ k) (e : pick led j = some p) (e2 : pick led k = some q) : p.1 ≠ q.1 := by
  rw [pick_get] at e e2
  have f1 : (led.map (·.1))[j]? = some p.1 := by rw [List.getElem?_map, e]; rfl
  have f2 : (led.map (·.1))[k]? = some q.1 := by rw [List.getElem?_map, e2]; rfl
  obtain ⟨h1, e1⟩ := List.getElem?_eq_some_iff.mp f1
  obtain ⟨h2, e3⟩ := List.getElem?_eq_some_iff.mp f2
  have pw := List.pairwise_iff_getElem.mp nd
  rw [← e1, ← e3]
  rcases Nat.lt_or_gt_of_ne hjk with h | h
  · exact pw j k h1 h2 h
  · exact fun e => pw k j h2 h1 h e.symm
structure Cur (w : World) (s₀ : Heap) (M : List Addr) (h : Heap) (led : Led) : Prop where
  at_ : ∀ p ∈ led, h.get? p.1 = some p.2
  nd : (led.map (·.1)).Nodup
  sta : Sta w h
  off : ∀ p ∈ led, Off w p.1
  dom : ∀ p ∈ led, p.1 ∈ M ∨ s₀.objs.size ≤ p.1
  kp : Kp M s₀ h
section
variable {w : World} {b : Bool} {s₀ h h' h₁ h₂ : Heap} {M mods : List Addr} {led led' led₀ led₂ : Led} {m T : Nat}
theorem Cur.start (S : Sta w h) (ha : ∀ p ∈ led, h.get? p.1 = some p.2) (nd : (led.map (·.1)).Nodup) (off : ∀ p ∈ led, Off w p.1) : Cur w h (led.map (·.1)) h led :=
  ⟨ha, nd, S, off, fun p hp => .inl (List.mem_map_of_mem hp), Kp.refl ..⟩
theorem Cur.hold (C : Cur w s₀ M h led) (T : Nat) : Hold (VV w b h.objs.size T) h (led.map (·.1)) h led 0 := Hold.init C.sta C.at_ C.nd C.off
theorem Cur.run (C : Cur w s₀ M h led) (D : Hold (VV w b h.objs.size T) h (led.map (·.1)) h' led' m) : Cur w s₀ M h' led' := by
  have up : s₀.objs.size ≤ h.objs.size := C.kp.1
  have d : ∀ a ∈ led.map (·.1), a ∈ M ∨ s₀.objs.size ≤ a := fun a ha => by
    obtain ⟨p, hp, rfl⟩ := List.mem_map.mp ha
    exact C.dom p hp
  refine ⟨D.at_, D.nd, D.stat, D.off, fun p hp => ?_, C.kp.trans (M' := led.map (·.1)) ⟨?_, D.keep⟩ d⟩
  · rcases D.dom p hp with q | q
    · exact d _ q
    · exact .inr (Nat.le_trans up q)
  · have := D.size
    have e : (VV w b h.objs.size T).N = h.objs.size := rfl
    rw [e] at this
    omega
theorem Cur.at' (C : Cur w s₀ M h led) {j : Nat} {a : Addr} {o : Obj} (e : pick led j = some (a, o)) : h.get? a = some o := C.at_ (a, o) (pick_mem e)
theorem Cur.off' (C : Cur w s₀ M h led) {j : Nat} {a : Addr} {o : Obj} (e : pick led j = some (a, o)) : Off w a := C.off (a, o) (pick_mem e)
theorem Cur.lt' (C : Cur w s₀ M h led) {j : Nat} {a : Addr} {o : Obj} (e : pick led j = some (a, o)) : a < h.objs.size := Heap.lt_size (C.at' e)
theorem Cur.dom' (C : Cur w s₀ M h led) {j : Nat} {a : Addr} {o : Obj} (e : pick led j = some (a, o)) : a ∈ M ∨ s₀.objs.size ≤ a := C.dom (a, o) (pick_mem e)
theorem Cur.chg (C : Cur w s₀ M h₁ led) (K : Kp mods h₁ h₂) (hm : ∀ a ∈ mods, a ∈ led.map (·.1)) (hk : led₂.map (·.1) = led.map (·.1)) (hv : ∀ p ∈ led₂, (p ∈ led ∧ p.1 ∉ mods) ∨ h₂.get? p.1 = some p.2) : Cur w s₀ M h₂ led₂ := by
  have key : ∀ p ∈ led₂, ∃ q ∈ led, q.1 = p.1 := fun p hp => by
    have : p.1 ∈ led.map (·.1) := by rw [← hk]; exact List.mem_map_of_mem hp
    obtain ⟨q, hq, e⟩ := List.mem_map.mp this
    exact ⟨q, hq, e⟩
  have offm : ∀ a ∈ mods, Off w a := fun a ha => by
    obtain ⟨q, hq, rfl⟩ := List.mem_map.mp (hm a ha)
    exact C.off q hq
  refine ⟨fun p hp => ?_, by rw [hk]; exact C.nd, C.sta.kp K offm, fun p hp => ?_, fun p hp => ?_, C.kp.trans K fun a ha => ?_⟩
  · rcases hv p hp with ⟨h1, h2⟩ | h1
    · exact K.get (C.at_ p h1) h2
    · exact h1
  · obtain ⟨q, hq, e⟩ := key p hp
    rw [← e]; exact C.off q hq
  · obtain ⟨q, hq, e⟩ := key p hp
    rw [← e]; exact C.dom q hq
  · obtain ⟨q, hq, rfl⟩ := List.mem_map.mp (hm a ha)
    exact C.dom q hq
theorem Cur.put1 (C : Cur w s₀ M h₁ led) {j : Nat} {a : Addr} {o₀ o : Obj} (e : pick led j = some (a, o₀)) (K : Kp [a] h₁ h₂) (ha : h₂.get? a = some o) : Cur w s₀ M h₂ (put led j o) := by
  refine C.chg K (fun x hx => by cases List.mem_singleton.mp hx; exact List.mem_map_of_mem (pick_mem e)) (put_keys ..) fun p hp => ?_
  rcases put_mem e p hp with h1 | ⟨h1, h2⟩
  · rw [h1]; exact .inr ha
  · exact .inl ⟨h1, fun z => h2 C.nd (List.mem_singleton.mp z)⟩
theorem Cur.put2 (C : Cur w s₀ M h₁ led) {j k : Nat} {a c : Addr} {o₀ o p₀ p : Obj} (e : pick led j = some (a, o₀)) (e' : pick (put led j o) k = some (c, p₀)) (hc : c ∈ led.map (·.1)) (hac : c ≠ a) (K : Kp [a, c] h₁ h₂) (ha : h₂.get? a = some o) (hc' : h₂.get? c = some p) : Cur w s₀ M h₂ (put (put led j o) k p) := by
  have nd2 : ((put led j o).map (·.1)).Nodup := by rw [put_keys]; exact C.nd
  refine C.chg K (fun x hx => ?_) (by rw [put_keys, put_keys]) fun q hq => ?_
  · rcases List.mem_cons.mp hx with rfl | hx
    · exact List.mem_map_of_mem (pick_mem e)
    · cases List.mem_singleton.mp hx; exact hc
  · rcases put_mem e' q hq with h1 | ⟨h1, h2⟩
    · rw [h1]; exact .inr hc'
    · rcases put_mem e q h1 with h3 | ⟨h3, h4⟩
      · rw [h3]; exact .inr ha
      · refine .inl ⟨h3, fun z => ?_⟩
        rcases List.mem_cons.mp z with z | z
        · exact h4 C.nd z
        · exact h2 nd2 (List.mem_singleton.mp z)
theorem Cur.chg2 (C : Cur w s₀ M h₁ led) {j k : Nat} {a c : Addr} {o₀ o p₀ p : Obj} (hjk : j ≠ k) (e : pick led j = some (a, o₀)) (e2 : pick led k = some (c, p₀)) (K : Kp [a, c] h₁ h₂) (ha : h₂.get? a = some o) (hc : h₂.get? c = some p) : Cur w s₀ M h₂ (put (put led j o) k p) :=
  C.put2 e ((pick_put_ne hjk).trans e2) (List.mem_map_of_mem (pick_mem e2)) (Ne.symm (pick_ne C.nd hjk e e2)) K ha hc
theorem Cur.same (C : Cur w s₀ M h₁ led) (K : Kp [] h₁ h₂) : Cur w s₀ M h₂ led := C.chg K (fun x hx => nomatch hx) rfl fun p hp => .inl ⟨hp, fun z => nomatch z⟩
theorem Cur.join (C : Cur w s₀ M h led) {a : Addr} {o : Obj} (ha : h.get? a = some o) (hn : a ∉ led.map (·.1)) (ho : Off w a) (hd : a ∈ M ∨ s₀.objs.size ≤ a) : Cur w s₀ M h (snoc led a o) := by
  rw [snoc_eq]
  refine ⟨fun p hp => ?_, ?_, C.sta, fun p hp => ?_, fun p hp => ?_, C.kp⟩
  · rcases List.mem_append.mp hp with h1 | h1
    · exact C.at_ p h1
    · cases List.mem_singleton.mp h1; exact ha
  · rw [List.map_append]
    refine List.nodup_append.mpr ⟨C.nd, by simp, fun x hx y hy => ?_⟩
    cases List.mem_singleton.mp hy
    exact fun z => hn (by have z' : x = a := z; rw [← z']; exact hx)
  · rcases List.mem_append.mp hp with h1 | h1
    · exact C.off p h1
    · cases List.mem_singleton.mp h1; exact ho
  · rcases List.mem_append.mp hp with h1 | h1
    · exact C.dom p h1
    · cases List.mem_singleton.mp h1; exact hd
theorem Cur.fin (C : Cur w s₀ (led₀.map (·.1)) h led) (ha : ∀ p ∈ led₀, s₀.get? p.1 = some p.2) (hm : ∀ p ∈ led₀, p.1 ∈ mods ∨ h.get? p.1 = some p.2) : Kp mods s₀ h := by
  refine ⟨C.kp.1, fun x o e hx => ?_⟩
  by_cases q : x ∈ led₀.map (·.1)
  · obtain ⟨p, hp, rfl⟩ := List.mem_map.mp q
    have : o = p.2 := Option.some.inj (e.symm.trans (ha p hp))
    subst this
    rcases hm p hp with h1 | h1
    · exact absurd h1 hx
    · exact h1
  · exact C.kp.get e q
end
section
variable {w : World} {b : Bool} {A : Around} {R : Result → Shared → Prop} {n : Nat} {hs : List Nat} {os : List Orc} {led : Led} {QB : Fin → Shared → Prop} {EB : Value → Shared → Prop} {s₀ h₀ : Heap} {M : List Addr} {g : Array GenState} {d : Drawn} {T N : Nat} {ost : OsState}
theorem two_at (w : World) (b : Bool) (N T : Nat) : ∃ ob, (VV w b N T).kt.get 2 = some ob ∧ ob.data = .dict #[] 0 := ⟨o2 w.params, by kernel_rfl, rfl⟩
theorem seg_fn {a : Addr} {fd : FuncData} {args : Args} (C : Cur w s₀ M h₀ led) (F : FnAt w a fd) (hb : w.params.followText "special-get-raises" = b) (hA : A.handled = none) (hroom : A.depth < recursionLimit) (hN : h₀.objs.size = N)
    (r : Res) (hr : r = enterZ (VV w b N T) n hs [] a fd args led) (hsm : Sames r) (e : isAg r.out = true)
    (H : ∀ h N' T', h.objs.size = N' → Cur w s₀ M h r.led → codeAny (model pg w) A (agOf r.out) R ⟨h, g, d, T', ost⟩) : codeAny (model pg w) A (.call (.ref a) args) R ⟨h₀, g, d, T, ost⟩ := by
  subst hN
  obtain ⟨o, h1, h2⟩ := F.at_
  obtain ⟨bd, h3⟩ := F.body
  obtain ⟨c, oc, vs, t, h4, h5, h6, h7⟩ := F.code
  exact fn_run (s := ⟨h₀, g, d, T, ost⟩) hr (askZ_is hb) hA rfl (fun _ h => nomatch h) hsm (C.hold _) hroom (C.sta _ _ h1) h2 F.co F.gen h3 ⟨c, oc, vs, t, h4, C.sta _ _ h5, h6, h7⟩ (two_at ..) (agOf_fin e) fun h D => H h _ _ rfl (C.run D)
theorem seg_fnD {a : Addr} {fd : FuncData} {o : Obj} {bd : List Stmt} {args : Args} (C : Cur w s₀ M h₀ led) (ho : h₀.get? a = some o) (hd : o.data = .func fd) (hco : fd.scope.isCoroutine = false) (hgen : fd.scope.isGenerator = false) (hbd : fd.body = .stmts bd) (hcd : h₀.CodeRec fd.code fd.qualname)
    (hb : w.params.followText "special-get-raises" = b) (hA : A.handled = none) (hroom : A.depth < recursionLimit) (hN : h₀.objs.size = N)
    (r : Res) (hr : r = enterZ (VV w b N T) n hs [] a fd args led) (hsm : Sames r) (e : isAg r.out = true)
    (H : ∀ h N' T', h.objs.size = N' → Cur w s₀ M h r.led → codeAny (model pg w) A (agOf r.out) R ⟨h, g, d, T', ost⟩) : codeAny (model pg w) A (.call (.ref a) args) R ⟨h₀, g, d, T, ost⟩ := by
  subst hN
  exact fn_run (s := ⟨h₀, g, d, T, ost⟩) hr (askZ_is hb) hA rfl (fun _ h => nomatch h) hsm (C.hold _) hroom ho hd hco hgen hbd hcd (two_at ..) (agOf_fin e) fun h D => H h _ _ rfl (C.run D)
theorem code_call {c c' : Code} (C : Cur w s₀ M h₀ led) (hb : w.params.followText "special-get-raises" = b) (hA : A.handled = none) (hN : h₀.objs.size = N)
    (r : Res) (hr : r = startZ (VV w b N T) n hs os c led) (hos : ∀ o ∈ os, OrcOk pg w o) (hsm : Sames r) (e : callOf r.out = some c')
    (H : ∀ h N' T', h.objs.size = N' → Cur w s₀ M h r.led → codeAny (model pg w) (aroO A r.out) c' (fun x s' => MeansO pg w A (postC pg w A R) (postE R) r.out x s') ⟨h, g, d, T', ost⟩) : codeAny (model pg w) A c R ⟨h₀, g, d, T, ost⟩ := by
  subst hN
  exact code_run (s := ⟨h₀, g, d, T, ost⟩) hr (askZ_is hb) hA rfl hos hsm (C.hold _) (ful_call e fun h D => H h _ _ rfl (C.run D))
theorem code_fin {c : Code} {f : Fin} (C : Cur w s₀ M h₀ led) (hb : w.params.followText "special-get-raises" = b) (hA : A.handled = none) (hN : h₀.objs.size = N)
    (r : Res) (hr : r = startZ (VV w b N T) n hs os c led) (hos : ∀ o ∈ os, OrcOk pg w o) (hsm : Sames r) (e : finOf r.out = some f)
    (H : ∀ h N' T', h.objs.size = N' → Cur w s₀ M h r.led → postC pg w A R f ⟨h, g, d, T', ost⟩) : codeAny (model pg w) A c R ⟨h₀, g, d, T, ost⟩ := by
  subst hN
  exact code_run (s := ⟨h₀, g, d, T, ost⟩) hr (askZ_is hb) hA rfl hos hsm (C.hold _) (ful_fin e fun h D => H h _ _ rfl (C.run D))
theorem res_call {o : Out} {x : Result} {c' : Code} (C : Cur w s₀ M h₀ led) (hb : w.params.followText "special-get-raises" = b) (hA : A.handled = none) (hN : h₀.objs.size = N)
    (r : Res) (hr : r = resumeZ (VV w b N T) n hs os o x led) (hos : ∀ o ∈ os, OrcOk pg w o) (hsm : Sames r) (e : callOf r.out = some c')
    (H : ∀ h N' T', h.objs.size = N' → Cur w s₀ M h r.led → codeAny (model pg w) (aroO A r.out) c' (fun x s' => MeansO pg w A QB EB r.out x s') ⟨h, g, d, T', ost⟩) : MeansO pg w A QB EB o x ⟨h₀, g, d, T, ost⟩ := by
  subst hN
  exact resume_run (s := ⟨h₀, g, d, T, ost⟩) hr (askZ_is hb) hA rfl hos hsm (C.hold _) (ful_call e fun h D => H h _ _ rfl (C.run D))
theorem res_fin {o : Out} {x : Result} {f : Fin} (C : Cur w s₀ M h₀ led) (hb : w.params.followText "special-get-raises" = b) (hA : A.handled = none) (hN : h₀.objs.size = N)
    (r : Res) (hr : r = resumeZ (VV w b N T) n hs os o x led) (hos : ∀ o ∈ os, OrcOk pg w o) (hsm : Sames r) (e : finOf r.out = some f)
    (H : ∀ h N' T', h.objs.size = N' → Cur w s₀ M h r.led → QB f ⟨h, g, d, T', ost⟩) : MeansO pg w A QB EB o x ⟨h₀, g, d, T, ost⟩ := by
  subst hN
  exact resume_run (s := ⟨h₀, g, d, T, ost⟩) hr (askZ_is hb) hA rfl hos hsm (C.hold _) (ful_fin e fun h D => H h _ _ rfl (C.run D))
end
theorem no_orc {w : World} : ∀ o ∈ ([] : List Orc), OrcOk pg w o := fun _ h => nomatch h
noncomputable def CtrF (w : World) (need : Nat) (c : Code) (pre : Heap → Prop) (post : Heap → Flow → Heap → Prop) : Prop :=
  ∀ (A : Around) (R : Result → Shared → Prop) (s : Shared), A.handled = none → A.depth + need < recursionLimit → Sta w s.heap → pre s.heap →
    (∀ f h' tk', post s.heap f h' → R (.ok f) ⟨h', s.gens, s.drawn, tk', s.os⟩) → codeAny (model pg w) A c R s
noncomputable def hsh (P : Params) (x : Str) : Int := (ent P x 0 .none).hash
theorem hsh_rfl : @hsh = @hsh := rfl
end Mine
lay_z Mine.hsh
name_z hshZ for Mine.hsh by Mine.hsh_rfl
namespace Mine
open PySem PySem.W PySem.W.X PyProof.Rows PySem.W.ZFast
noncomputable def entZ (P : Params) (x : Str) (k : Nat) (v : Value) : DictEntry := ⟨hshZ P x, .str x k, v⟩
theorem entZ_is (P : Params) (x : Str) (k : Nat) (v : Value) : entZ P x k v = ent P x k v := by
  unfold entZ
  rw [← congrFun (congrFun hshZ_eq P) x]
  rfl
noncomputable def sLineno : Str := ⟨#[108, 105, 110, 101, 110, 111]⟩
noncomputable def sInstream : Str := ⟨#[105, 110, 115, 116, 114, 101, 97, 109]⟩
noncomputable def sWhite : Str := ⟨#[119, 104, 105, 116, 101, 115, 112, 97, 99, 101]⟩
noncomputable def sPush : Str := ⟨#[112, 117, 115, 104, 98, 97, 99, 107]⟩
noncomputable def wsS : Str := ⟨#[10, 9, 13, 32]⟩
noncomputable def fdK (P : Params) (a : Addr) : FuncData := match (ktZ P).get a with
  | some o => fdOf o
  | none => default
noncomputable def fdRd (P : Params) (ct rc c1 c2 : Addr) : FuncData := match (fdK P 85).body with
  | .stmts (.FunctionDef name args body _ _ _ scope _ _ _ :: _) => { name, qualname := ⟨#[95, 108, 97, 119, 95, 114, 101, 97, 100, 101, 114, 46, 60, 108, 111, 99, 97, 108, 115, 62, 46, 114, 101, 97, 100]⟩, params := args, body := .stmts body, scope, globals := 3, closure := [(⟨#[116, 101, 120, 116]⟩, c1), (⟨#[115, 112, 111, 116]⟩, c2)], closureTuple := .ref ct, defaults := .none, kwdefaults := .none, pyModule := .str ⟨#[108, 97, 119, 95, 110, 98, 48, 48, 55, 57, 95, 48, 49]⟩ 290, code := .ref rc }
  | _ => default
noncomputable def sPlace : Str := ⟨#[112, 108, 97, 99, 101]⟩
noncomputable def sRead : Str := ⟨#[114, 101, 97, 100]⟩
structure LX where
  lx : Addr
  dx : Addr
  pb : Addr
  tp : Addr
  td : Addr
  rd : Addr
  rc : Addr
  ct : Addr
  c1 : Addr
  c2 : Addr
  sp : Addr
  k1 : Nat
  k2 : Nat
  k3 : Nat
  k4 : Nat
  kw : Nat
  kr : Nat
  kp : Nat
  tt : Nat
  fdT : FuncData
  text : Str
noncomputable abbrev lexO (X : LX) : Obj := ⟨.ref 52, some X.dx, .plain, #[]⟩
noncomputable abbrev lexD (P : Params) (X : LX) (ln : Int) (tl : Nat) : Obj := ⟨.type "dict", none, .dict #[ent P sLineno X.k1 (.int ln tl), ent P sInstream X.k2 (.ref X.tp), ent P sWhite X.k3 (.str wsS X.kw), ent P sPush X.k4 (.ref X.pb)] 4, #[]⟩
noncomputable abbrev tapeO (X : LX) : Obj := ⟨.type "function", some X.td, .func X.fdT, #[]⟩
noncomputable abbrev tapeD (P : Params) (X : LX) : Obj := ⟨.type "dict", none, .dict #[ent P sRead X.kr (.ref X.rd)] 1, #[]⟩
noncomputable abbrev readO (P : Params) (X : LX) : Obj := ⟨.type "function", none, .func (fdRd P X.ct X.rc X.c1 X.c2), #[]⟩
noncomputable abbrev cell1 (X : LX) : Obj := ⟨.type "cell", none, .cell (some (.str X.text X.tt)), #[]⟩
noncomputable abbrev cell2 (X : LX) : Obj := ⟨.type "cell", none, .cell (some (.ref X.sp)), #[]⟩
noncomputable abbrev spotO (P : Params) (kp : Nat) (v : Value) : Obj := ⟨.type "dict", none, .dict #[ent P sPlace kp v] 1, #[]⟩
structure LS where
  ln : Int
  tl : Nat
  p : Nat
  tp : Nat
  xs : Array Value
  n : Nat
noncomputable abbrev LX.keys (X : LX) : List Addr := [X.lx, X.dx, X.pb, X.tp, X.td, X.rd, X.rc, X.c1, X.c2, X.sp]
structure LexAt (w : World) (X : LX) (Z : LS) (h : Heap) : Prop where
  lx : h.get? X.lx = some (lexO X)
  dx : h.get? X.dx = some (lexD w.params X Z.ln Z.tl)
  pb : h.get? X.pb = some (listO Z.xs Z.n)
  tp : h.get? X.tp = some (tapeO X)
  td : h.get? X.td = some (tapeD w.params X)
  rd : h.get? X.rd = some (readO w.params X)
  rc : ∃ o vs t, h.get? X.rc = some o ∧ o.data = .fields vs ∧ vs[1]? = some (.str (fdRd w.params X.ct X.rc X.c1 X.c2).qualname t)
  c1 : h.get? X.c1 = some (cell1 X)
  c2 : h.get? X.c2 = some (cell2 X)
  sp : h.get? X.sp = some (spotO w.params X.kp (.int Z.p Z.tp))
  nd : X.keys.Nodup
  off : ∀ a ∈ X.keys, Off w a
theorem LexAt.sub {w : World} {X : LX} {Z : LS} {h : Heap} (L : LexAt w X Z h) {l : List Addr} (hl : List.Sublist l X.keys) : l.Nodup := hl.nodup L.nd
theorem nd_ne {l : List Addr} (nd : l.Nodup) {a b : Addr} (i j : Nat) (hi : l[i]? = some a) (hj : l[j]? = some b) (hij : i ≠ j) : a ≠ b := by
  obtain ⟨h1, rfl⟩ := List.getElem?_eq_some_iff.mp hi
  obtain ⟨h2, rfl⟩ := List.getElem?_eq_some_iff.mp hj
  have pw := List.pairwise_iff_getElem.mp nd
  rcases Nat.lt_or_gt_of_ne hij with h | h
  · exact pw i j h1 h2 h
  · exact fun e => pw j i h2 h1 h e.symm
theorem LexAt.kpM {w : World} {X : LX} {Z Z' : LS} {h h' : Heap} {M : List Addr} (L : LexAt w X Z h) (K : Kp M h h') (hM : ∀ a ∈ X.keys, a ∈ M → a = X.dx ∨ a = X.pb ∨ a = X.sp) (hdx : h'.get? X.dx = some (lexD w.params X Z'.ln Z'.tl)) (hpb : h'.get? X.pb = some (listO Z'.xs Z'.n)) (hsp : h'.get? X.sp = some (spotO w.params X.kp (.int Z'.p Z'.tp))) : LexAt w X Z' h' := by
  obtain ⟨o, vs, t, r1, r2⟩ := L.rc
  have no : ∀ {a : Addr} (i : Nat), X.keys[i]? = some a → i ≠ 1 → i ≠ 2 → i ≠ 9 → a ∉ M := fun i hi h1 h2 h3 hm => by
    rcases hM _ (List.mem_of_getElem? hi) hm with h | h | h
    · exact nd_ne L.nd i 1 hi rfl h1 h
    · exact nd_ne L.nd i 2 hi rfl h2 h
    · exact nd_ne L.nd i 9 hi rfl h3 h
  exact ⟨K.get L.lx (no 0 rfl (by decide) (by decide) (by decide)), hdx, hpb, K.get L.tp (no 3 rfl (by decide) (by decide) (by decide)), K.get L.td (no 4 rfl (by decide) (by decide) (by decide)), K.get L.rd (no 5 rfl (by decide) (by decide) (by decide)), ⟨o, vs, t, K.get r1 (no 6 rfl (by decide) (by decide) (by decide)), r2⟩, K.get L.c1 (no 7 rfl (by decide) (by decide) (by decide)), K.get L.c2 (no 8 rfl (by decide) (by decide) (by decide)), hsp, L.nd, L.off⟩
theorem LexAt.kp {w : World} {X : LX} {Z Z' : LS} {h h' : Heap} (L : LexAt w X Z h) (K : Kp [X.dx, X.pb, X.sp] h h') (hdx : h'.get? X.dx = some (lexD w.params X Z'.ln Z'.tl)) (hpb : h'.get? X.pb = some (listO Z'.xs Z'.n)) (hsp : h'.get? X.sp = some (spotO w.params X.kp (.int Z'.p Z'.tp))) : LexAt w X Z' h' :=
  L.kpM K (fun a _ hm => by simpa only [List.mem_cons, nmn, or_false] using hm) hdx hpb hsp
theorem LexAt.same {w : World} {X : LX} {Z : LS} {h h' : Heap} (L : LexAt w X Z h) (K : Kp [] h h') : LexAt w X Z h' := by
  have no : ∀ {a : Addr}, a ∉ ([] : List Addr) := fun h => nomatch h
  obtain ⟨o, vs, t, r1, r2⟩ := L.rc
  exact ⟨K.get L.lx no, K.get L.dx no, K.get L.pb no, K.get L.tp no, K.get L.td no, K.get L.rd no, ⟨o, vs, t, K.get r1 no, r2⟩, K.get L.c1 no, K.get L.c2 no, K.get L.sp no, L.nd, L.off⟩
theorem LexAt.turn {w : World} {X : LX} {Z : LS} {h h' : Heap} {ln : Int} {tl p tp : Nat} (L : LexAt w X Z h) (K : Kp [X.dx, X.sp] h h') (hdx : h'.get? X.dx = some (lexD w.params X ln tl)) (hsp : h'.get? X.sp = some (spotO w.params X.kp (.int p tp))) : LexAt w X { Z with ln := ln, tl := tl, p := p, tp := tp } h' := by
  refine L.kp (Z' := { Z with ln := ln, tl := tl, p := p, tp := tp }) (K.mono fun a ha => ?_) hdx (K.get L.pb ?_) hsp
  · simp only [List.mem_cons, nmn, or_false] at ha ⊢
    rcases ha with h | h
    · exact .inl (.inl h)
    · exact .inl (.inr (.inr h))
  · simp only [List.mem_cons, nmn, or_false, not_or]
    exact ⟨nd_ne L.nd 2 1 rfl rfl (by decide), nd_ne L.nd 2 9 rfl rfl (by decide)⟩
section
variable {w : World} {A : Around} {R : Result → Shared → Prop} {h₀ : Heap} {g : Array GenState} {d : Drawn} {T : Nat} {ost : OsState}
theorem spot_keys {kp : Nat} {v : Value} : KeysOf (strKind pg w) #[ent w.params sPlace kp v] := by
  intro e he
  have : e = ent w.params sPlace kp v := by simpa using he
  subst this
  exact ⟨sPlace, rfl, rfl⟩
theorem spot_map {a : Addr} {kp : Nat} {v : Value} (ha : h₀.get? a = some (spotO w.params kp v)) : h₀.MapOf (strKind pg w) a (fun k => findBy (strKind pg w).is #[ent w.params sPlace kp v] k) :=
  ⟨_, _, _, ha, ⟨rfl, rfl, rfl⟩, rfl, spot_keys, fun _ => rfl⟩
theorem spot_find {kp : Nat} {v : Value} : findBy (strKind pg w).is #[ent w.params sPlace kp v] sPlace = some v := by
  show (Array.find? _ _).map _ = _
  rfl
theorem cGet {a : Addr} {kp t : Nat} {v : Value} (ha : h₀.get? a = some (spotO w.params kp v)) (h : ∀ T', R (.ok (.ret v)) ⟨h₀, g, d, T', ost⟩) : codeAny (model pg w) A (cB "dict.__getitem__" [.ref a, .str sPlace t]) R ⟨h₀, g, d, T, ost⟩ := by
  have hm := spot_map ha
  have hT : (⟨h₀, g, d, T, ost⟩ : Shared).TypeIs (.ref a) "dict" := ⟨_, ha, rfl⟩
  refine codeAny_call_builtin slot_dict_getitem.plain entry_dict_getitem (slot_dict_getitem.check _ _ _ _ _ _ _ _ hT (args_dict_getitem _ _) ?_)
  show wpAny _ _ (dictGet a (.str sPlace t) >>= _) _ _ _
  refine wpAny_bind (wpAny_dictGet_of (knd := strKind pg w) (k := sPlace) rfl hm ?_)
  rw [spot_find]
  exact wpAny_pure (h _)
theorem cSet {a : Addr} {kp t : Nat} {v v' : Value} (ha : h₀.get? a = some (spotO w.params kp v)) (h : ∀ h' N' T', h'.objs.size = N' → Kp [a] h₀ h' → h'.get? a = some (spotO w.params kp v') → R (.ok (.ret .none)) ⟨h', g, d, T', ost⟩) :
    codeAny (model pg w) A (cB "dict.__setitem__" [.ref a, .str sPlace t, v']) R ⟨h₀, g, d, T, ost⟩ := by
  have hm := spot_map ha
  have hT : (⟨h₀, g, d, T, ost⟩ : Shared).TypeIs (.ref a) "dict" := ⟨_, ha, rfl⟩
  refine codeAny_call_builtin slot_dict_setitem.plain entry_dict_setitem (slot_dict_setitem.check _ _ _ _ _ _ _ _ hT (args_dict_setitem _ _ _) ?_)
  show wpAny _ _ (Builtin.Dict.notOrdered "__setitem__" ⟨[.ref a, .str sPlace t, v'], []⟩ >>= _) _ _ _
  refine wpAny_bind (wpAny_notOrdered_dict hT ?_)
  show wpAny _ _ (dictSet a (.str sPlace t) v' >>= _) _ _ _
  refine wpAny_bind ?_
  unfold dictSet
  refine wpAny_holding (wpAny_bind (wpAny_pyHash_str ?_))
  unfold dictSetHashed
  refine wpAny_holding (wpAny_bind (wpAny_dictFind_of (knd := strKind pg w) (k := sPlace) (hkey := rfl) (s := ⟨h₀, g, d, T + 1, ost⟩) ha rfl spot_keys ?_))
  have e : (#[ent w.params sPlace kp v] : Array DictEntry).findIdx? (fun e => (strKind pg w).is sPlace e.key) = some 0 := by
    have q : (strKind pg w).is sPlace (ent w.params sPlace kp v).key = true := rfl
    simp [List.findIdx?_toArray, List.findIdx?_cons, q]
  rw [e]
  refine wpAny_bind (wpAny_rule (wpAny_bind (wpAny_updateDict (s := ⟨h₀, g, d, T + 1, ost⟩) ha rfl (wpAny_point (wpAny_pure (h _ _ _ rfl ?_ ?_))))))
  · exact ⟨by rw [Heap.size_after_update]; exact Nat.le_refl _, fun x o e hx => ((Heap.SameBut.update h₀ a _).2 x fun z => hx (z ▸ .head _)).trans e⟩
  · exact Heap.get?_update_self _ ha rfl
theorem picked_one {p len : Nat} (hp : p < len) : Builtin.Str.strSliceIndices (some (p : Int)) (some ((p : Int) + 1)) 1 len = [p] := by
  have := StrLaws.strSliceIndices_plain (a := p) (b := p + 1) (len := len) (by omega) (by omega)
  rw [show ((p : Int) + 1) = ((p + 1 : Nat) : Int) by omega, this, show p + 1 - p = 1 by omega]
  rfl
theorem picked_end {len : Nat} : Builtin.Str.strSliceIndices (some (len : Int)) (some ((len : Int) + 1)) 1 len = [] := by
  have h1 : ¬ ((len : Int) < 0) := by omega
  have h2 : ¬ (((len : Int) + 1) < 0) := by omega
  have e1 : max (0 : Int) (min (len : Int) (len : Int)) = len := by omega
  have e2 : max (0 : Int) (min ((len : Int) + 1) (len : Int)) = len := by omega
  simp only [Builtin.Str.strSliceIndices, h1, h2, if_false, e1, e2, show ((1 : Int) > 0) = True from by simp, if_true]
  rw [sliceRange_one, Nat.sub_self]
  rfl
noncomputable abbrev sliceO (i j : Int) (t u : Nat) : Obj := ⟨.type "slice", none, .fields #[.int i t, .int j u, .none], #[]⟩
theorem cSlice {x : Str} {t u v : Nat} {a : Addr} {p c : Nat} (ha : h₀.get? a = some (sliceO (p : Int) ((p : Int) + 1) u v)) (hp : x.cps[p]? = some c) (hl : 2 ≤ x.length) (h : ∀ T', R (.ok (.ret (.str ⟨#[c]⟩ T))) ⟨h₀, g, d, T', ost⟩) :
    codeAny (model pg w) A (cB "str.__getitem__" [.str x t, .ref a]) R ⟨h₀, g, d, T, ost⟩ := by
  have lt : p < x.length := (Array.getElem?_eq_some_iff.mp hp).1
  refine codeAny_call_builtin F.slot_str_getitem.plain F.entry_str_getitem (F.slot_str_getitem.check _ _ _ _ _ _ _ _ (typeIs_str _ x t) (F.args_str_getitem_2 _ _) ?_)
  refine meets_str_getitem_slice x t a (some ((p : Int), u)) (some ((p : Int) + 1, v)) none rfl pg w A R _ ⟨⟨_, ha, rfl, rfl⟩, ?_⟩
  have e : slicePicked x (some ((p : Int), u)) (some ((p : Int) + 1, v)) none = [p] := picked_one lt
  unfold sliceMade
  rw [e, if_neg (by simp; omega)]
  refine ⟨?_, ?_⟩
  · simp only [List.filterMap_cons, hp, List.filterMap_nil]
    show 1 ≤ sizeLine
    decide
  · simp only [List.filterMap_cons, hp, List.filterMap_nil]
    exact h _
theorem cSliceEnd {x : Str} {t u v : Nat} {a : Addr} (ha : h₀.get? a = some (sliceO (x.length : Int) ((x.length : Int) + 1) u v)) (hl : 2 ≤ x.length) (h : ∀ T', R (.ok (.ret (.str ⟨#[]⟩ T))) ⟨h₀, g, d, T', ost⟩) :
    codeAny (model pg w) A (cB "str.__getitem__" [.str x t, .ref a]) R ⟨h₀, g, d, T, ost⟩ := by
  refine codeAny_call_builtin F.slot_str_getitem.plain F.entry_str_getitem (F.slot_str_getitem.check _ _ _ _ _ _ _ _ (typeIs_str _ x t) (F.args_str_getitem_2 _ _) ?_)
  refine meets_str_getitem_slice x t a (some ((x.length : Int), u)) (some ((x.length : Int) + 1, v)) none rfl pg w A R _ ⟨⟨_, ha, rfl, rfl⟩, ?_⟩
  have e : slicePicked x (some ((x.length : Int), u)) (some ((x.length : Int) + 1, v)) none = [] := picked_end
  unfold sliceMade
  rw [e, if_neg (by simp; omega)]
  exact ⟨by show 0 ≤ sizeLine; decide, h _⟩
end
theorem code_fn_entry {prog : Program} {w : World} {A : Around} {R : Result → Shared → Prop} {s : Shared} {id : String} {b : Builtin} {args : List Value} (hk : builtinKind id = none) (hp : plainId id = true) (hb : entryFor table id = some b) (ha : argsOk id ⟨args, []⟩)
    (hc : wpAny (model prog w) A.in1 (b ⟨args, []⟩) (fun fin s' => ∃ v, fin = .done (.ret v) ∧ R (.ok (.ret v)) s') (fun e s' => R (.error e) s') s) : codeAny (model prog w) A (.call (.builtin id) ⟨args, []⟩) R s := by
  refine codeAny_call_builtin hp hb ?_
  have hfin := wpAny_mono hc (Q' := fun fin s' => match fin with
      | .done f => R (.ok f) s'
      | .again c' => c'.quiet = true ∧ codeAny (model prog w) A c' R s')
    (fun fin s' h' => by obtain ⟨v, rfl, hv⟩ := h'; exact hv) fun _ _ h' => h'
  simp only [checkBuiltinCall, hk]
  cases hsig : Manifest.signature? id with
  | none => exact wpAny_pure hfin
  | some sig =>
    simp only [argsOk, hsig] at ha
    have h2 : Bind.checkArgs id sig ⟨args, []⟩ = pure () := ha
    show wpAny _ A.in1 (Bind.checkArgs id sig ⟨args, []⟩) _ _ s
    rw [h2]
    exact wpAny_pure hfin
theorem oLen {w : World} {x : Str} {t : Nat} (h : x.length ≤ sizeLine) : OrcOk pg w ⟨cB "len" [.str x t], fun k => .int x.length (k + 1), 2⟩ := fun A R s hR => by
  have q : (x.length : Int) < 2 ^ 63 := by
    have : sizeLine = 2 ^ 24 := rfl
    omega
  exact code_fn_entry kind_len plain_len entry_len (args_len1 _) (wpAny_len_body (typeIs_str s x t) F.slot_str_len F.entry_str_len (F.args_str_len_1 _) (gives_str_len x t) (by omega) (by omega) hR)
noncomputable abbrev ledP (w : World) (X : LX) (Z : LS) : Led := [(X.lx, lexO X), (X.dx, lexD w.params X Z.ln Z.tl), (X.pb, listO Z.xs Z.n)]
section
variable (w : World) (b : Bool) (N0 T0 : Nat) (X : LX) (Z : LS) (x : Str) (t N1 T1 N2 T2 : Nat)
@[irreducible] noncomputable def pu0 : Res := enterZ (VV w b N0 T0) 60 [4, 4, 4, 4] [] 49 (fdK w.params 49) ⟨[.ref X.lx, .str x t], []⟩ (ledP w X Z)
theorem pu0' : (fun r => Lk r [] (isAg r.out = true) (True)) (pu0 w b N0 T0 X Z x t) := by cases b <;> rfl'
@[irreducible] noncomputable def pu1 : Res := startZ (VV w b N1 T1) 300 [4, 1, 0, 0, 0, 0, 1, 0, 0, 0, 1, 1, 0, 2, 3, 3, 3, 3, 4, 1] [] (agOf (pu0 w b N0 T0 X Z x t).out) (pu0 w b N0 T0 X Z x t).led
theorem pu1' : (fun r => Lk r [(2, X.pb, listO Z.xs Z.n)] (callOf r.out = some (cB "list.append" [.ref X.pb, .str x t])) (True)) (pu1 w b N0 T0 X Z x t N1 T1) := by cases b <;> rfl'
@[irreducible] noncomputable def pu2 : Res := resumeZ (VV w b N2 T2) 300 [] [] (pu1 w b N0 T0 X Z x t N1 T1).out (.ok (.ret .none)) (put (pu1 w b N0 T0 X Z x t N1 T1).led 2 (listO (Z.xs.push (.str x t)) (Z.n + 1)))
theorem pu2' : (fun r => Lk r [(0, X.lx, lexO X), (1, X.dx, lexD w.params X Z.ln Z.tl), (2, X.pb, listO (Z.xs.push (.str x t)) (Z.n + 1))] (finOf r.out = some (.done (.ret .none))) (True)) (pu2 w b N0 T0 X Z x t N1 T1 N2 T2) := by cases b <;> rfl'
end
theorem fn49 (w : World) : FnAt w 49 (fdK w.params 49) := ⟨⟨o49 w.params, by kernel_rfl, by kernel_rfl⟩, by kernel_rfl, by kernel_rfl, ⟨bodyOf (fdK w.params 49), by kernel_rfl⟩, ⟨48, o48 w.params, flds (o48 w.params), tokOf ((flds (o48 w.params)).getD 1 .none), by kernel_rfl, by kernel_rfl, by kernel_rfl, by kernel_rfl⟩⟩
theorem push_ok {w : World} {X : LX} {Z : LS} {x : Str} {t : Nat} (hsz : Z.xs.size ≤ sizeLine) :
    Ctr w 1 (.call (.ref 49) ⟨[.ref X.lx, .str x t], []⟩) (LexAt w X Z) (fun h v h' => v = .none ∧ Kp [X.pb] h h' ∧ LexAt w X { Z with xs := Z.xs.push (.str x t), n := Z.n + 1 } h') := by
  rintro A R ⟨h0, g, d, T, ost⟩ hA hd S L H
  obtain ⟨b, hb⟩ : ∃ b, w.params.followText "special-get-raises" = b := ⟨_, rfl⟩
  obtain ⟨N, hN⟩ : ∃ N, h0.objs.size = N := ⟨_, rfl⟩
  have ha : ∀ p ∈ ledP w X Z, h0.get? p.1 = some p.2 := by
    exact mC (L.lx) (mC (L.dx) (mC (L.pb) mN))
  have C0 : Cur w h0 ((ledP w X Z).map (·.1)) h0 (ledP w X Z) := by
    refine Cur.start S ha (L.sub (by repeat (first | exact List.nil_sublist _ | refine List.Sublist.cons_cons _ ?_ | refine List.Sublist.cons _ ?_))) ?_
    exact mC (L.off _ (by simp [LX.keys])) (mC (L.off _ (by simp [LX.keys])) (mC (L.off _ (by simp [LX.keys])) mN))
  refine seg_fn C0 (fn49 w) hb hA (by first | exact room0 hd | omega) hN _ (pu0.eq_1 w b N T X Z x t) (pu0' ..).s (pu0' ..).o fun h1 N1 T1 hN1 C1 => ?_
  refine code_call C1 hb hA hN1 _ (pu1.eq_1 w b N T X Z x t N1 T1) no_orc (pu1' ..).s (pu1' ..).o fun h2 N2 T2 hN2 C2 => ?_
  refine cAppend (C2.at' ((pu1' ..).g 0 rfl)) hsz fun h3 N3 hN3 K3 e3 => ?_
  refine res_fin (C2.put1 ((pu1' ..).g 0 rfl) K3 e3) hb hA hN3 _ (pu2.eq_1 w b N T X Z x t N1 T1 N3 T2) no_orc (pu2' ..).s (pu2' ..).o fun h4 N4 T4 hN4 C4 => ?_
  have P0 := C4.at' ((pu2' ..).g 0 rfl)
  have P1 := C4.at' ((pu2' ..).g 1 rfl)
  have P2 := C4.at' ((pu2' ..).g 2 rfl)
  have K : Kp [X.pb] h0 h4 := by
    refine C4.fin ha ?_
    exact mC (.inr P0) (mC (.inr P1) (mC (.inl (.head _)) mN))
  exact H _ _ _ ⟨rfl, K, L.kp (K.mono (by ac_rfl)) P1 P2 (K.get L.sp (by have := L.sub (l := [X.pb, X.sp]) (by repeat (first | exact List.nil_sublist _ | refine List.Sublist.cons_cons _ ?_ | refine List.Sublist.cons _ ?_)); simp at this ⊢; exact Ne.symm this))⟩
noncomputable abbrev ledR (w : World) (X : LX) (Z : LS) : Led := [(X.c1, cell1 X), (X.c2, cell2 X), (X.sp, spotO w.params X.kp (.int Z.p Z.tp))]
section
variable (w : World) (b : Bool) (N0 T0 : Nat) (X : LX) (Z : LS) (t c N1 T1 N2 T2 N3 T3 N4 T4 t4 : Nat)
@[irreducible] noncomputable def ra0 : Res := enterZ (VV w b N0 T0) 60 [4, 4] [] X.rd (fdRd w.params X.ct X.rc X.c1 X.c2) ⟨[.int 1 t], []⟩ (ledR w X Z)
theorem ra0' : (fun r => Lk r [] (isAg r.out = true) (True)) (ra0 w b N0 T0 X Z t) := by cases b <;> rfl'
@[irreducible] noncomputable def ra1 : Res := startZ (VV w b N1 T1) 300 [2, 3, 3, 3, 1] [] (agOf (ra0 w b N0 T0 X Z t).out) (ra0 w b N0 T0 X Z t).led
theorem ra1' : (fun r => Lk r [(2, X.sp, spotO w.params X.kp (.int Z.p Z.tp))] (callOf r.out = some (cB "dict.__getitem__" [.ref X.sp, .str sPlace (T1 + 0)])) (True)) (ra1 w b N0 T0 X Z t N1 T1) := by cases b <;> rfl'
@[irreducible] noncomputable def ra2 : Res := resumeZ (VV w b N2 T2) 600 [4, 4, 0, 0, 4, 4, 0, 0, 0, 1, 2, 0, 5, 5, 0, 5, 6, 7, 6, 0, 6, 6, 6, 5, 6, 6, 7, 7, 7, 7, 6, 0, 6, 6, 6, 5, 6, 6, 2, 7, 6, 0, 6, 6, 6, 5, 6, 6, 9, 7, 7, 7, 2, 3, 3, 1] [⟨cB "len" [.str X.text X.tt], fun zz => .int X.text.length (zz + 1), 2⟩, ⟨cB "int.__lt__" [.int X.text.length (T2 + 2 + 1), .int ((Z.p : Int) + 1) (T2 + 1)], fun _ => .bool false, 0⟩] (ra1 w b N0 T0 X Z t N1 T1).out (.ok (.ret (.int Z.p Z.tp))) (ra1 w b N0 T0 X Z t N1 T1).led
theorem ra2' : (fun r => Lk r [(2, X.sp, spotO w.params X.kp (.int Z.p Z.tp))] (callOf r.out = some (cB "dict.__setitem__" [.ref X.sp, .str sPlace (T2 + 4), .int ((Z.p : Int) + 1) (T2 + 1)])) (True)) (ra2 w b N0 T0 X Z t N1 T1 N2 T2) := by cases b <;> rfl'
@[irreducible] noncomputable def ra3 : Res := resumeZ (VV w b N3 T3) 300 [1, 4, 4, 4, 0, 1] [] (ra2 w b N0 T0 X Z t N1 T1 N2 T2).out (.ok (.ret .none)) (put (ra2 w b N0 T0 X Z t N1 T1 N2 T2).led 2 (spotO w.params X.kp (.int ((Z.p : Int) + 1) (T2 + 1))))
theorem ra3' : (fun r => Lk r [(9, N3 + 0, sliceO Z.p ((Z.p : Int) + 1) Z.tp (T3 + 0))] (callOf r.out = some (cB "str.__getitem__" [.str X.text X.tt, .ref (N3 + 0)])) (True)) (ra3 w b N0 T0 X Z t N1 T1 N2 T2 N3 T3) := by cases b <;> rfl'
@[irreducible] noncomputable def ra4 : Res := resumeZ (VV w b N4 T4) 100 [] [] (ra3 w b N0 T0 X Z t N1 T1 N2 T2 N3 T3).out (.ok (.ret (.str ⟨#[c]⟩ t4))) (ra3 w b N0 T0 X Z t N1 T1 N2 T2 N3 T3).led
theorem ra4' : (fun r => Lk r [(0, X.c1, cell1 X), (1, X.c2, cell2 X), (2, X.sp, spotO w.params X.kp (.int ((Z.p : Int) + 1) (T2 + 1)))] (finOf r.out = some (.done (.ret (.str ⟨#[c]⟩ t4)))) (True)) (ra4 w b N0 T0 X Z t c N1 T1 N2 T2 N3 T3 N4 T4 t4) := by cases b <;> rfl'
@[irreducible] noncomputable def rb0 : Res := enterZ (VV w b N0 T0) 60 [4, 4] [] X.rd (fdRd w.params X.ct X.rc X.c1 X.c2) ⟨[.int 1 t], []⟩ (ledR w X Z)
theorem rb0' : (fun r => Lk r [] (isAg r.out = true) (True)) (rb0 w b N0 T0 X Z t) := by cases b <;> rfl'
@[irreducible] noncomputable def rb1 : Res := startZ (VV w b N1 T1) 300 [2, 3, 3, 3, 1] [] (agOf (rb0 w b N0 T0 X Z t).out) (rb0 w b N0 T0 X Z t).led
theorem rb1' : (fun r => Lk r [(2, X.sp, spotO w.params X.kp (.int Z.p Z.tp))] (callOf r.out = some (cB "dict.__getitem__" [.ref X.sp, .str sPlace (T1 + 0)])) (True)) (rb1 w b N0 T0 X Z t N1 T1) := by cases b <;> rfl'
@[irreducible] noncomputable def rb2 : Res := resumeZ (VV w b N2 T2) 600 [4, 4, 0, 0, 4, 4, 0, 0, 0, 1, 2, 0, 5, 5, 0, 5, 6, 7, 6, 0, 6, 6, 6, 5, 6, 6, 7, 7, 7, 7, 6, 0, 6, 6, 6, 5, 6, 6, 2, 7, 7, 7, 7, 6, 0, 6, 6, 6, 5, 6, 6, 9, 7, 7, 7, 2, 3, 3, 1] [⟨cB "len" [.str X.text X.tt], fun zz => .int X.text.length (zz + 1), 2⟩, ⟨cB "int.__lt__" [.int X.text.length (T2 + 2 + 1), .int ((Z.p : Int) + 1) (T2 + 1)], fun _ => .bool true, 0⟩] (rb1 w b N0 T0 X Z t N1 T1).out (.ok (.ret (.int Z.p Z.tp))) (rb1 w b N0 T0 X Z t N1 T1).led
theorem rb2' : (fun r => Lk r [(2, X.sp, spotO w.params X.kp (.int Z.p Z.tp))] (callOf r.out = some (cB "dict.__setitem__" [.ref X.sp, .str sPlace (T2 + 4), .int X.text.length (T2 + 2 + 1)])) (True)) (rb2 w b N0 T0 X Z t N1 T1 N2 T2) := by cases b <;> rfl'
@[irreducible] noncomputable def rb3 : Res := resumeZ (VV w b N3 T3) 300 [1, 4, 4, 4, 0, 1] [] (rb2 w b N0 T0 X Z t N1 T1 N2 T2).out (.ok (.ret .none)) (put (rb2 w b N0 T0 X Z t N1 T1 N2 T2).led 2 (spotO w.params X.kp (.int X.text.length (T2 + 2 + 1))))
theorem rb3' : (fun r => Lk r [(9, N3 + 0, sliceO Z.p ((Z.p : Int) + 1) Z.tp (T3 + 0))] (callOf r.out = some (cB "str.__getitem__" [.str X.text X.tt, .ref (N3 + 0)])) (True)) (rb3 w b N0 T0 X Z t N1 T1 N2 T2 N3 T3) := by cases b <;> rfl'
@[irreducible] noncomputable def rb4 : Res := resumeZ (VV w b N4 T4) 100 [] [] (rb3 w b N0 T0 X Z t N1 T1 N2 T2 N3 T3).out (.ok (.ret (.str ⟨#[]⟩ t4))) (rb3 w b N0 T0 X Z t N1 T1 N2 T2 N3 T3).led
theorem rb4' : (fun r => Lk r [(0, X.c1, cell1 X), (1, X.c2, cell2 X), (2, X.sp, spotO w.params X.kp (.int X.text.length (T2 + 2 + 1)))] (finOf r.out = some (.done (.ret (.str ⟨#[]⟩ t4)))) (True)) (rb4 w b N0 T0 X Z t N1 T1 N2 T2 N3 T3 N4 T4 t4) := by cases b <;> rfl'
end
section
variable (P : Params) (ct rc c1 c2 : Addr)
theorem fdR_co : (fdRd P ct rc c1 c2).scope.isCoroutine = false := by kernel_rfl
theorem fdR_gen : (fdRd P ct rc c1 c2).scope.isGenerator = false := by kernel_rfl
theorem fdR_body : (fdRd P ct rc c1 c2).body = .stmts (bodyOf (fdRd P ct rc c1 c2)) := by kernel_rfl
theorem fdR_code : (fdRd P ct rc c1 c2).code = .ref rc := by kernel_rfl
end
theorem read_ok {w : World} {X : LX} {Z : LS} {c t : Nat} (hc : X.text.cps[Z.p]? = some c) (hl : 2 ≤ X.text.length) (hsz : X.text.length ≤ sizeLine) :
    Ctr w 1 (.call (.ref X.rd) ⟨[.int 1 t], []⟩) (LexAt w X Z) (fun h v h' => (∃ k, v = .str ⟨#[c]⟩ k) ∧ Kp [X.sp] h h' ∧ ∃ k, h'.get? X.sp = some (spotO w.params X.kp (.int ((Z.p : Int) + 1) k))) := by
  have lt : Z.p < X.text.length := (Array.getElem?_eq_some_iff.mp hc).1
  rintro A R ⟨h0, g, d, T, ost⟩ hA hd S L H
  obtain ⟨b, hb⟩ : ∃ b, w.params.followText "special-get-raises" = b := ⟨_, rfl⟩
  obtain ⟨N, hN⟩ : ∃ N, h0.objs.size = N := ⟨_, rfl⟩
  have ha : ∀ p ∈ ledR w X Z, h0.get? p.1 = some p.2 := by
    exact mC (L.c1) (mC (L.c2) (mC (L.sp) mN))
  have C0 : Cur w h0 ((ledR w X Z).map (·.1)) h0 (ledR w X Z) := by
    refine Cur.start S ha (L.sub (by repeat (first | exact List.nil_sublist _ | refine List.Sublist.cons_cons _ ?_ | refine List.Sublist.cons _ ?_))) ?_
    exact mC (L.off _ (by simp [LX.keys])) (mC (L.off _ (by simp [LX.keys])) (mC (L.off _ (by simp [LX.keys])) mN))
  obtain ⟨oc, vs, tq, r1, r2, r3⟩ := L.rc
  refine seg_fnD C0 L.rd rfl (fdR_co ..) (fdR_gen ..) (fdR_body ..) ⟨X.rc, oc, vs, tq, fdR_code .., r1, r2, r3⟩ hb hA (by first | exact room0 hd | omega) hN _ (ra0.eq_1 w b N T X Z t) (ra0' ..).s (ra0' ..).o fun h1 N1 T1 hN1 C1 => ?_
  refine code_call C1 hb hA hN1 _ (ra1.eq_1 w b N T X Z t N1 T1) no_orc (ra1' ..).s (ra1' ..).o fun h2 N2 T2 hN2 C2 => ?_
  refine cGet (C2.at' ((ra1' ..).g 0 rfl)) fun T2' => ?_
  refine res_call C2 hb hA hN2 _ (ra2.eq_1 w b N T X Z t N1 T1 N2 T2') ?_ (ra2' ..).s (ra2' ..).o fun h3 N3 T3 hN3 C3 => ?_
  · exact mC (oLen hsz) (mC (oIntLt (by simp; omega)) mN)
  refine cSet (C3.at' ((ra2' ..).g 0 rfl)) fun h4 N4 T4 hN4 K4 e4 => ?_
  refine res_call (C3.put1 ((ra2' ..).g 0 rfl) K4 e4) hb hA hN4 _ (ra3.eq_1 w b N T X Z t N1 T1 N2 T2' N4 T4) no_orc (ra3' ..).s (ra3' ..).o fun h5 N5 T5 hN5 C5 => ?_
  refine cSlice (C5.at' ((ra3' ..).g 0 rfl)) hc hl fun T6 => ?_
  refine res_fin C5 hb hA hN5 _ (ra4.eq_1 w b N T X Z t c N1 T1 N2 T2' N4 T4 N5 T6 T5) no_orc (ra4' ..).s (ra4' ..).o fun h6 N6 T7 hN6 C6 => ?_
  have P0 := C6.at' ((ra4' ..).g 0 rfl)
  have P1 := C6.at' ((ra4' ..).g 1 rfl)
  have P2 := C6.at' ((ra4' ..).g 2 rfl)
  have K : Kp [X.sp] h0 h6 := by
    refine C6.fin ha ?_
    exact mC (.inr P0) (mC (.inr P1) (mC (.inl (.head _)) mN))
  exact H _ _ _ ⟨⟨_, rfl⟩, K, ⟨_, P2⟩⟩
theorem read_end {w : World} {X : LX} {Z : LS} {t : Nat} (hp : Z.p = X.text.length) (hl : 2 ≤ X.text.length) (hsz : X.text.length ≤ sizeLine) :
    Ctr w 1 (.call (.ref X.rd) ⟨[.int 1 t], []⟩) (LexAt w X Z) (fun h v h' => (∃ k, v = .str ⟨#[]⟩ k) ∧ Kp [X.sp] h h' ∧ ∃ k, h'.get? X.sp = some (spotO w.params X.kp (.int X.text.length k))) := by
  rintro A R ⟨h0, g, d, T, ost⟩ hA hd S L H
  obtain ⟨b, hb⟩ : ∃ b, w.params.followText "special-get-raises" = b := ⟨_, rfl⟩
  obtain ⟨N, hN⟩ : ∃ N, h0.objs.size = N := ⟨_, rfl⟩
  have ha : ∀ p ∈ ledR w X Z, h0.get? p.1 = some p.2 := by
    exact mC (L.c1) (mC (L.c2) (mC (L.sp) mN))
  have C0 : Cur w h0 ((ledR w X Z).map (·.1)) h0 (ledR w X Z) := by
    refine Cur.start S ha (L.sub (by repeat (first | exact List.nil_sublist _ | refine List.Sublist.cons_cons _ ?_ | refine List.Sublist.cons _ ?_))) ?_
    exact mC (L.off _ (by simp [LX.keys])) (mC (L.off _ (by simp [LX.keys])) (mC (L.off _ (by simp [LX.keys])) mN))
  obtain ⟨oc, vs, tq, r1, r2, r3⟩ := L.rc
  refine seg_fnD C0 L.rd rfl (fdR_co ..) (fdR_gen ..) (fdR_body ..) ⟨X.rc, oc, vs, tq, fdR_code .., r1, r2, r3⟩ hb hA (by first | exact room0 hd | omega) hN _ (rb0.eq_1 w b N T X Z t) (rb0' ..).s (rb0' ..).o fun h1 N1 T1 hN1 C1 => ?_
  refine code_call C1 hb hA hN1 _ (rb1.eq_1 w b N T X Z t N1 T1) no_orc (rb1' ..).s (rb1' ..).o fun h2 N2 T2 hN2 C2 => ?_
  refine cGet (C2.at' ((rb1' ..).g 0 rfl)) fun T2' => ?_
  refine res_call C2 hb hA hN2 _ (rb2.eq_1 w b N T X Z t N1 T1 N2 T2') ?_ (rb2' ..).s (rb2' ..).o fun h3 N3 T3 hN3 C3 => ?_
  · exact mC (oLen hsz) (mC (oIntLt (by simp; omega)) mN)
  refine cSet (C3.at' ((rb2' ..).g 0 rfl)) fun h4 N4 T4 hN4 K4 e4 => ?_
  refine res_call (C3.put1 ((rb2' ..).g 0 rfl) K4 e4) hb hA hN4 _ (rb3.eq_1 w b N T X Z t N1 T1 N2 T2' N4 T4) no_orc (rb3' ..).s (rb3' ..).o fun h5 N5 T5 hN5 C5 => ?_
  have e5 := C5.at' ((rb3' ..).g 0 rfl)
  rw [hp] at e5
  refine cSliceEnd e5 hl fun T6 => ?_
  refine res_fin C5 hb hA hN5 _ (rb4.eq_1 w b N T X Z t N1 T1 N2 T2' N4 T4 N5 T6 T5) no_orc (rb4' ..).s (rb4' ..).o fun h6 N6 T7 hN6 C6 => ?_
  have P0 := C6.at' ((rb4' ..).g 0 rfl)
  have P1 := C6.at' ((rb4' ..).g 1 rfl)
  have P2 := C6.at' ((rb4' ..).g 2 rfl)
  have K : Kp [X.sp] h0 h6 := by
    refine C6.fin ha ?_
    exact mC (.inr P0) (mC (.inr P1) (mC (.inl (.head _)) mN))
  exact H _ _ _ ⟨⟨_, rfl⟩, K, ⟨_, P2⟩⟩
noncomputable abbrev ledC (w : World) (X : LX) (Z : LS) : Led := [(X.lx, lexO X), (X.dx, lexD w.params X Z.ln Z.tl), (X.tp, tapeO X), (X.td, tapeD w.params X), (X.rd, readO w.params X), (X.sp, spotO w.params X.kp (.int Z.p Z.tp))]
section
variable (w : World) (b : Bool) (N0 T0 : Nat) (X : LX) (Z : LS) (N1 T1 N2 T2 : Nat) (y : Str) (k p2 k2 : Nat)
@[irreducible] noncomputable def rc0 : Res := enterZ (VV w b N0 T0) 60 [7, 7] [] 35 (fdK w.params 35) ⟨[.ref X.lx], []⟩ (ledC w X Z)
theorem rc0' : (fun r => Lk r [] (isAg r.out = true) (True)) (rc0 w b N0 T0 X Z) := by cases b <;> rfl'
@[irreducible] noncomputable def rc1 : Res := startZ (VV w b N1 T1) 300 [7, 1, 0, 0, 0, 0, 1, 0, 0, 0, 1, 1, 0, 2, 3, 3, 3, 3, 0, 3, 3, 3, 3, 4, 5, 1] [] (agOf (rc0 w b N0 T0 X Z).out) (rc0 w b N0 T0 X Z).led
theorem rc1' : (fun r => Lk r [(0, X.lx, lexO X), (1, X.dx, lexD w.params X Z.ln Z.tl), (2, X.tp, tapeO X), (3, X.td, tapeD w.params X), (4, X.rd, readO w.params X), (5, X.sp, spotO w.params X.kp (.int Z.p Z.tp))] (callOf r.out = some (.call (.ref X.rd) ⟨[.int 1 (T1 + 2)], []⟩)) (wtO r.out = 1)) (rc1 w b N0 T0 X Z N1 T1) := by cases b <;> rfl'
@[irreducible] noncomputable def rc2 : Res := resumeZ (VV w b N2 T2) 300 [7, 7, 7, 2, 7] [⟨cB "str.__eq__" [.str y k, .str ⟨#[10]⟩ (T2 + 1)], fun _ => .bool false, 0⟩] (rc1 w b N0 T0 X Z N1 T1).out (.ok (.ret (.str y k))) (put (rc1 w b N0 T0 X Z N1 T1).led 5 (spotO w.params X.kp (.int p2 k2)))
theorem rc2' : (fun r => Lk r [(0, X.lx, lexO X), (2, X.tp, tapeO X), (3, X.td, tapeD w.params X), (4, X.rd, readO w.params X), (5, X.sp, spotO w.params X.kp (.int p2 k2)), (1, X.dx, lexD w.params X Z.ln Z.tl)] (finOf r.out = some (.done (.ret (.str y k)))) (True)) (rc2 w b N0 T0 X Z N1 T1 N2 T2 y k p2 k2) := by cases b <;> rfl'
@[irreducible] noncomputable def rn2 : Res := resumeZ (VV w b N2 T2) 500 [7, 7, 7, 2, 7, 1, 0, 0, 0, 0, 1, 0, 0, 0, 1, 1, 0, 2, 0, 1, 0, 0, 0, 0, 1, 0, 1, 0, 1, 0, 0, 0, 1, 0, 2, 2, 2, 7] [⟨cB "str.__eq__" [.str y k, .str ⟨#[10]⟩ (T2 + 1)], fun _ => .bool true, 0⟩] (rc1 w b N0 T0 X Z N1 T1).out (.ok (.ret (.str y k))) (put (rc1 w b N0 T0 X Z N1 T1).led 5 (spotO w.params X.kp (.int p2 k2)))
theorem rn2' : (fun r => Lk r [(0, X.lx, lexO X), (2, X.tp, tapeO X), (3, X.td, tapeD w.params X), (4, X.rd, readO w.params X), (5, X.sp, spotO w.params X.kp (.int p2 k2)), (1, X.dx, lexD w.params X (Z.ln + 1) (T2 + 4))] (finOf r.out = some (.done (.ret (.str y k)))) (True)) (rn2 w b N0 T0 X Z N1 T1 N2 T2 y k p2 k2) := by cases b <;> rfl'
end
theorem fn35 (w : World) : FnAt w 35 (fdK w.params 35) := ⟨⟨o35 w.params, by kernel_rfl, by kernel_rfl⟩, by kernel_rfl, by kernel_rfl, ⟨bodyOf (fdK w.params 35), by kernel_rfl⟩, ⟨34, o34 w.params, flds (o34 w.params), tokOf ((flds (o34 w.params)).getD 1 .none), by kernel_rfl, by kernel_rfl, by kernel_rfl, by kernel_rfl⟩⟩
noncomputable def RdC (w : World) (X : LX) (Z : LS) (y : Str) (p2 : Nat) : Prop := ∀ t, Ctr w 1 (.call (.ref X.rd) ⟨[.int 1 t], []⟩) (LexAt w X Z) (fun h v h' => (∃ k, v = .str y k) ∧ Kp [X.sp] h h' ∧ ∃ k, h'.get? X.sp = some (spotO w.params X.kp (.int p2 k)))
theorem rdc_sign {w : World} {X : LX} {Z : LS} {c : Nat} (hc : X.text.cps[Z.p]? = some c) (hl : 2 ≤ X.text.length) (hsz : X.text.length ≤ sizeLine) : RdC w X Z ⟨#[c]⟩ (Z.p + 1) := fun t => read_ok hc hl hsz
theorem rdc_end {w : World} {X : LX} {Z : LS} (hp : Z.p = X.text.length) (hl : 2 ≤ X.text.length) (hsz : X.text.length ≤ sizeLine) : RdC w X Z ⟨#[]⟩ X.text.length := fun t => read_end hp hl hsz
noncomputable def RcC (w : World) (X : LX) (Z : LS) (y : Str) (p2 : Nat) (ln2 : Int) : Prop := Ctr w 2 (.call (.ref 35) ⟨[.ref X.lx], []⟩) (LexAt w X Z) (fun h v h' => (∃ k, v = .str y k) ∧ Kp [X.dx, X.sp] h h' ∧ ∃ k1 k2, LexAt w X { Z with ln := ln2, tl := k1, p := p2, tp := k2 } h')
theorem rcc_plain {w : World} {X : LX} {Z : LS} {y : Str} {p2 : Nat} (hr : RdC w X Z y p2) (hy : (y.cps.toList == [10]) = false) : RcC w X Z y p2 Z.ln := by
  rintro A R ⟨h0, g, d, T, ost⟩ hA hd S L H
  obtain ⟨b, hb⟩ : ∃ b, w.params.followText "special-get-raises" = b := ⟨_, rfl⟩
  obtain ⟨N, hN⟩ : ∃ N, h0.objs.size = N := ⟨_, rfl⟩
  have ha : ∀ p ∈ ledC w X Z, h0.get? p.1 = some p.2 := by
    exact mC (L.lx) (mC (L.dx) (mC (L.tp) (mC (L.td) (mC (L.rd) (mC (L.sp) mN)))))
  have C0 : Cur w h0 ((ledC w X Z).map (·.1)) h0 (ledC w X Z) := by
    refine Cur.start S ha (L.sub (by repeat (first | exact List.nil_sublist _ | refine List.Sublist.cons_cons _ ?_ | refine List.Sublist.cons _ ?_))) ?_
    exact mC (L.off _ (by simp [LX.keys])) (mC (L.off _ (by simp [LX.keys])) (mC (L.off _ (by simp [LX.keys])) (mC (L.off _ (by simp [LX.keys])) (mC (L.off _ (by simp [LX.keys])) (mC (L.off _ (by simp [LX.keys])) mN)))))
  refine seg_fn C0 (fn35 w) hb hA (by first | exact room0 hd | omega) hN _ (rc0.eq_1 w b N T X Z) (rc0' ..).s (rc0' ..).o fun h1 N1 T1 hN1 C1 => ?_
  refine code_call C1 hb hA hN1 _ (rc1.eq_1 w b N T X Z N1 T1) no_orc (rc1' ..).s (rc1' ..).o fun h2 N2 T2 hN2 C2 => ?_
  have K2 : Kp [] h0 h2 := by
    refine C2.fin ha ?_
    exact mC (.inr (C2.at' ((rc1' ..).g 0 rfl))) (mC (.inr (C2.at' ((rc1' ..).g 1 rfl))) (mC (.inr (C2.at' ((rc1' ..).g 2 rfl))) (mC (.inr (C2.at' ((rc1' ..).g 3 rfl))) (mC (.inr (C2.at' ((rc1' ..).g 4 rfl))) (mC (.inr (C2.at' ((rc1' ..).g 5 rfl))) mN)))))
  refine hr _ _ _ _ (aroO_handled hA _) (by first | exact room hd (rc1' ..).e rfl | (rw [aroO_depth, (rc1' ..).e]; omega)) C2.sta (L.same K2) fun v h3 T3 hPP => ?_
  obtain ⟨⟨k, hv⟩, K3, k2, e3⟩ := hPP
  subst hv
  obtain ⟨N3, hN3⟩ : ∃ N, h3.objs.size = N := ⟨_, rfl⟩
  refine res_fin (C2.put1 ((rc1' ..).g 5 rfl) K3 e3) hb hA hN3 _ (rc2.eq_1 w b N T X Z N1 T1 N3 T3 y k p2 k2) ?_ (rc2' ..).s (rc2' ..).o fun h4 N4 T4 hN4 C4 => ?_
  · exact mC (oStrEq hy) mN
  have P0 := C4.at' ((rc2' ..).g 0 rfl)
  have P1 := C4.at' ((rc2' ..).g 5 rfl)
  have P5 := C4.at' ((rc2' ..).g 4 rfl)
  have K : Kp [X.dx, X.sp] h0 h4 := by
    refine C4.fin ha ?_
    exact mC (.inr P0) (mC (.inl (.head _)) (mC (.inr (C4.at' ((rc2' ..).g 1 rfl))) (mC (.inr (C4.at' ((rc2' ..).g 2 rfl))) (mC (.inr (C4.at' ((rc2' ..).g 3 rfl))) (mC (.inl (.tail _ (.head _))) mN)))))
  exact H _ _ _ ⟨⟨k, rfl⟩, K, _, _, L.turn K P1 P5⟩
theorem rcc_line {w : World} {X : LX} {Z : LS} {y : Str} {p2 : Nat} (hr : RdC w X Z y p2) (hy : (y.cps.toList == [10]) = true) : RcC w X Z y p2 (Z.ln + 1) := by
  rintro A R ⟨h0, g, d, T, ost⟩ hA hd S L H
  obtain ⟨b, hb⟩ : ∃ b, w.params.followText "special-get-raises" = b := ⟨_, rfl⟩
  obtain ⟨N, hN⟩ : ∃ N, h0.objs.size = N := ⟨_, rfl⟩
  have ha : ∀ p ∈ ledC w X Z, h0.get? p.1 = some p.2 := by
    exact mC (L.lx) (mC (L.dx) (mC (L.tp) (mC (L.td) (mC (L.rd) (mC (L.sp) mN)))))
  have C0 : Cur w h0 ((ledC w X Z).map (·.1)) h0 (ledC w X Z) := by
    refine Cur.start S ha (L.sub (by repeat (first | exact List.nil_sublist _ | refine List.Sublist.cons_cons _ ?_ | refine List.Sublist.cons _ ?_))) ?_
    exact mC (L.off _ (by simp [LX.keys])) (mC (L.off _ (by simp [LX.keys])) (mC (L.off _ (by simp [LX.keys])) (mC (L.off _ (by simp [LX.keys])) (mC (L.off _ (by simp [LX.keys])) (mC (L.off _ (by simp [LX.keys])) mN)))))
  refine seg_fn C0 (fn35 w) hb hA (by first | exact room0 hd | omega) hN _ (rc0.eq_1 w b N T X Z) (rc0' ..).s (rc0' ..).o fun h1 N1 T1 hN1 C1 => ?_
  refine code_call C1 hb hA hN1 _ (rc1.eq_1 w b N T X Z N1 T1) no_orc (rc1' ..).s (rc1' ..).o fun h2 N2 T2 hN2 C2 => ?_
  have K2 : Kp [] h0 h2 := by
    refine C2.fin ha ?_
    exact mC (.inr (C2.at' ((rc1' ..).g 0 rfl))) (mC (.inr (C2.at' ((rc1' ..).g 1 rfl))) (mC (.inr (C2.at' ((rc1' ..).g 2 rfl))) (mC (.inr (C2.at' ((rc1' ..).g 3 rfl))) (mC (.inr (C2.at' ((rc1' ..).g 4 rfl))) (mC (.inr (C2.at' ((rc1' ..).g 5 rfl))) mN)))))
  refine hr _ _ _ _ (aroO_handled hA _) (by first | exact room hd (rc1' ..).e rfl | (rw [aroO_depth, (rc1' ..).e]; omega)) C2.sta (L.same K2) fun v h3 T3 hPP => ?_
  obtain ⟨⟨k, hv⟩, K3, k2, e3⟩ := hPP
  subst hv
  obtain ⟨N3, hN3⟩ : ∃ N, h3.objs.size = N := ⟨_, rfl⟩
  refine res_fin (C2.put1 ((rc1' ..).g 5 rfl) K3 e3) hb hA hN3 _ (rn2.eq_1 w b N T X Z N1 T1 N3 T3 y k p2 k2) ?_ (rn2' ..).s (rn2' ..).o fun h4 N4 T4 hN4 C4 => ?_
  · exact mC (oStrEq hy) mN
  have P0 := C4.at' ((rn2' ..).g 0 rfl)
  have P1 := C4.at' ((rn2' ..).g 5 rfl)
  have P5 := C4.at' ((rn2' ..).g 4 rfl)
  have K : Kp [X.dx, X.sp] h0 h4 := by
    refine C4.fin ha ?_
    exact mC (.inr P0) (mC (.inl (.head _)) (mC (.inr (C4.at' ((rn2' ..).g 1 rfl))) (mC (.inr (C4.at' ((rn2' ..).g 2 rfl))) (mC (.inr (C4.at' ((rn2' ..).g 3 rfl))) (mC (.inl (.tail _ (.head _))) mN)))))
  exact H _ _ _ ⟨⟨k, rfl⟩, K, _, _, L.turn K P1 P5⟩
noncomputable def sSelf : Str := ⟨#[115, 101, 108, 102]⟩
noncomputable def sToken : Str := ⟨#[116, 111, 107, 101, 110]⟩
noncomputable def sFiter : Str := ⟨#[102, 105, 116, 101, 114]⟩
noncomputable def sCh : Str := ⟨#[99, 104]⟩
structure FK where
  f1 : Nat
  f2 : Nat
  f3 : Nat
  f4 : Nat
  ks : Nat
  it : Addr
  mo : Addr
  L : Addr
noncomputable abbrev frm3 (P : Params) (X : LX) (F : FK) (tok : Value) : Obj := ⟨.type "frame", none, .dict #[ent P sSelf F.f1 (.ref X.lx), ent P sToken F.f2 tok, ent P sFiter F.f3 (.ref F.it)] 3, #[]⟩
noncomputable abbrev frm4 (P : Params) (X : LX) (F : FK) (tok ch : Value) : Obj := ⟨.type "frame", none, .dict #[ent P sSelf F.f1 (.ref X.lx), ent P sToken F.f2 tok, ent P sFiter F.f3 (.ref F.it), ent P sCh F.f4 ch] 4, #[]⟩
noncomputable abbrev iterO (F : FK) : Obj := ⟨.type "callable_iterator", none, .fields #[.ref F.mo, .str ⟨#[]⟩ F.ks, .bool false], #[]⟩
noncomputable abbrev methO (X : LX) : Obj := ⟨.type "method", none, .fields #[.ref 35, .ref X.lx], #[]⟩
noncomputable def passS : Stmt := .Pass ⟨0, 0, 0, 0⟩
noncomputable def forBody : Stmt → List Stmt
  | .For _ _ body _ _ => body
  | _ => []
noncomputable def ifBody : Stmt → List Stmt
  | .If _ body _ _ => body
  | _ => []
noncomputable def ifElse : Stmt → List Stmt
  | .If _ _ orelse _ => orelse
  | _ => []
noncomputable def nthS : List Stmt → Nat → Stmt
  | [], _ => passS
  | s :: l, j => match j with
    | 0 => s
    | j + 1 => nthS l j
noncomputable def forCode (s : Stmt) (it : Value) (env : Env) : Code := match s with
  | .For t _ body orelse _ => .forLoop t it body orelse env
  | _ => .builtin "" {}
noncomputable def envK (P : Params) (a c L : Addr) : Env := { scope := (fdK P a).scope, locals := L, globals := 3, cells := [], qual := (fdK P a).qualname ++ ⟨#[46, 60, 108, 111, 99, 97, 108, 115, 62, 46]⟩, func := some a, code := .ref c, frame := some L, builtins := 0 }
noncomputable def gtO (P : Params) : Stmt := nthS (bodyOf (fdK P 42)) 3
noncomputable def gtI (P : Params) : Stmt := nthS (forBody (gtO P)) 1
noncomputable def codeO (P : Params) (F : FK) : Code := forCode (gtO P) (.ref F.it) (envK P 42 41 F.L)
noncomputable def codeA (P : Params) (F : FK) : Code := forCode (nthS (ifBody (gtI P)) 0) (.ref F.it) (envK P 42 41 F.L)
noncomputable def codeB' (P : Params) (F : FK) : Code := forCode (nthS (ifElse (gtI P)) 2) (.ref F.it) (envK P 42 41 F.L)
noncomputable abbrev ledG (w : World) (X : LX) (Z : LS) (F : FK) (fr : Obj) : Led := [(X.lx, lexO X), (X.dx, lexD w.params X Z.ln Z.tl), (F.it, iterO F), (F.mo, methO X), (F.L, fr), (X.sp, spotO w.params X.kp (.int Z.p Z.tp))]
section
variable (w : World) (b : Bool) (N0 T0 : Nat) (X : LX) (Z : LS) (F : FK) (tk : Str) (tt : Nat) (cy : Str) (cz N1 T1 c k : Nat) (ln2 : Int) (k1 p2 k2 : Nat)
@[irreducible] noncomputable def lb1 : Res := startZ (VV w b N0 T0) 300 [3, 0, 3, 3, 3, 4, 0, 1] [] (codeB' w.params F) (ledG w X Z F (frm4 w.params X F (.str tk tt) (.str cy cz)))
theorem lb1' : (fun r => Lk r [(1, X.dx, lexD w.params X Z.ln Z.tl), (5, X.sp, spotO w.params X.kp (.int Z.p Z.tp)), (0, X.lx, lexO X), (2, F.it, iterO F), (3, F.mo, methO X), (4, F.L, (frm4 w.params X F (.str tk tt) (.str cy cz)))] (callOf r.out = some (.call (.ref F.mo) ⟨[], []⟩)) (wtO r.out = 0)) (lb1 w b N0 T0 X Z F tk tt cy cz) := by cases b <;> rfl'
@[irreducible] noncomputable def lb2 : Res := resumeZ (VV w b N1 T1) 500 [3, 3, 2, 5, 5, 5, 5, 1, 0, 0, 0, 0, 1, 0, 0, 0, 1, 1, 0, 2, 2, 5, 2, 5, 5, 2, 5, 5] [⟨cB "str.__eq__" [.str ⟨#[]⟩ F.ks, .str ⟨#[c + 1]⟩ k], fun _ => .bool false, 0⟩, ⟨cB "str.__contains__" [.str wsS X.kw, .str ⟨#[c + 1]⟩ k], fun _ => .bool false, 0⟩, ⟨cB "str.__eq__" [.str ⟨#[c + 1]⟩ k, .str ⟨#[92]⟩ (T1 + 2)], fun _ => .bool false, 0⟩, ⟨cB "str.__add__" [.str tk tt, .str ⟨#[c + 1]⟩ k], fun zz => .str (tk ++ ⟨#[c + 1]⟩) zz, 1⟩] (lb1 w b N0 T0 X Z F tk tt cy cz).out (.ok (.ret (.str ⟨#[c + 1]⟩ k))) (put (put (lb1 w b N0 T0 X Z F tk tt cy cz).led 1 (lexD w.params X ln2 k1)) 5 (spotO w.params X.kp (.int p2 k2)))
theorem lb2' : (fun r => Lk r [(0, X.lx, lexO X), (1, X.dx, lexD w.params X ln2 k1), (2, F.it, iterO F), (3, F.mo, methO X), (4, F.L, frm4 w.params X F (.str (tk ++ ⟨#[c + 1]⟩) (T1 + 3)) (.str ⟨#[c + 1]⟩ k)), (5, X.sp, spotO w.params X.kp (.int p2 k2))] (finOf r.out = some (.again (codeB' w.params F))) (True)) (lb2 w b N0 T0 X Z F tk tt cy cz N1 T1 c k ln2 k1 p2 k2) := by cases b <;> rfl'
@[irreducible] noncomputable def lb3 : Res := resumeZ (VV w b N1 T1) 500 [3, 3, 2, 5, 5, 5, 5, 1, 0, 0, 0, 0, 1, 0, 0, 0, 1, 1, 0, 2, 2, 5] [⟨cB "str.__eq__" [.str ⟨#[]⟩ F.ks, .str ⟨#[c + 1]⟩ k], fun _ => .bool false, 0⟩, ⟨cB "str.__contains__" [.str wsS X.kw, .str ⟨#[c + 1]⟩ k], fun _ => .bool true, 0⟩] (lb1 w b N0 T0 X Z F tk tt cy cz).out (.ok (.ret (.str ⟨#[c + 1]⟩ k))) (put (put (lb1 w b N0 T0 X Z F tk tt cy cz).led 1 (lexD w.params X ln2 k1)) 5 (spotO w.params X.kp (.int p2 k2)))
theorem lb3' : (fun r => Lk r [(0, X.lx, lexO X), (1, X.dx, lexD w.params X ln2 k1), (2, F.it, iterO F), (3, F.mo, methO X), (4, F.L, frm4 w.params X F (.str tk tt) (.str ⟨#[c + 1]⟩ k)), (5, X.sp, spotO w.params X.kp (.int p2 k2))] (finOf r.out = some (.done (.ret (.str tk tt)))) (True)) (lb3 w b N0 T0 X Z F tk tt cy cz N1 T1 c k ln2 k1 p2 k2) := by cases b <;> rfl'
@[irreducible] noncomputable def la1 : Res := startZ (VV w b N0 T0) 300 [3, 0, 3, 3, 3, 4, 0, 1] [] (codeA w.params F) (ledG w X Z F (frm4 w.params X F (.str tk tt) (.str cy cz)))
theorem la1' : (fun r => Lk r [(1, X.dx, lexD w.params X Z.ln Z.tl), (5, X.sp, spotO w.params X.kp (.int Z.p Z.tp)), (0, X.lx, lexO X), (2, F.it, iterO F), (3, F.mo, methO X), (4, F.L, (frm4 w.params X F (.str tk tt) (.str cy cz)))] (callOf r.out = some (.call (.ref F.mo) ⟨[], []⟩)) (wtO r.out = 0)) (la1 w b N0 T0 X Z F tk tt cy cz) := by cases b <;> rfl'
@[irreducible] noncomputable def la2 : Res := resumeZ (VV w b N1 T1) 500 [3, 3, 2, 5, 5, 5, 2, 5, 2, 5, 5, 2, 5, 5] [⟨cB "str.__eq__" [.str ⟨#[]⟩ F.ks, .str ⟨#[c + 1]⟩ k], fun _ => .bool false, 0⟩, ⟨cB "str.__eq__" [.str ⟨#[c + 1]⟩ k, .str ⟨#[34]⟩ (T1 + 1)], fun _ => .bool false, 0⟩, ⟨cB "str.__eq__" [.str ⟨#[c + 1]⟩ k, .str ⟨#[92]⟩ (T1 + 2)], fun _ => .bool false, 0⟩, ⟨cB "str.__add__" [.str tk tt, .str ⟨#[c + 1]⟩ k], fun zz => .str (tk ++ ⟨#[c + 1]⟩) zz, 1⟩] (la1 w b N0 T0 X Z F tk tt cy cz).out (.ok (.ret (.str ⟨#[c + 1]⟩ k))) (put (put (la1 w b N0 T0 X Z F tk tt cy cz).led 1 (lexD w.params X ln2 k1)) 5 (spotO w.params X.kp (.int p2 k2)))
theorem la2' : (fun r => Lk r [(0, X.lx, lexO X), (1, X.dx, lexD w.params X ln2 k1), (2, F.it, iterO F), (3, F.mo, methO X), (4, F.L, frm4 w.params X F (.str (tk ++ ⟨#[c + 1]⟩) (T1 + 3)) (.str ⟨#[c + 1]⟩ k)), (5, X.sp, spotO w.params X.kp (.int p2 k2))] (finOf r.out = some (.again (codeA w.params F))) (True)) (la2 w b N0 T0 X Z F tk tt cy cz N1 T1 c k ln2 k1 p2 k2) := by cases b <;> rfl'
@[irreducible] noncomputable def la4 : Res := resumeZ (VV w b N1 T1) 500 [3, 3, 2, 5, 5, 5, 2, 5, 2, 5, 5, 2, 5, 5] [⟨cB "str.__eq__" [.str ⟨#[]⟩ F.ks, .str ⟨#[c + 1]⟩ k], fun _ => .bool false, 0⟩, ⟨cB "str.__eq__" [.str ⟨#[c + 1]⟩ k, .str ⟨#[34]⟩ (T1 + 1)], fun _ => .bool false, 0⟩, ⟨cB "str.__eq__" [.str ⟨#[c + 1]⟩ k, .str ⟨#[92]⟩ (T1 + 2)], fun _ => .bool false, 0⟩, ⟨cB "str.__add__" [.str tk tt, .str ⟨#[c + 1]⟩ k], fun _ => .str ⟨#[c + 1]⟩ k, 0⟩] (la1 w b N0 T0 X Z F tk tt cy cz).out (.ok (.ret (.str ⟨#[c + 1]⟩ k))) (put (put (la1 w b N0 T0 X Z F tk tt cy cz).led 1 (lexD w.params X ln2 k1)) 5 (spotO w.params X.kp (.int p2 k2)))
theorem la4' : (fun r => Lk r [(0, X.lx, lexO X), (1, X.dx, lexD w.params X ln2 k1), (2, F.it, iterO F), (3, F.mo, methO X), (4, F.L, frm4 w.params X F (.str ⟨#[c + 1]⟩ k) (.str ⟨#[c + 1]⟩ k)), (5, X.sp, spotO w.params X.kp (.int p2 k2))] (finOf r.out = some (.again (codeA w.params F))) (True)) (la4 w b N0 T0 X Z F tk tt cy cz N1 T1 c k ln2 k1 p2 k2) := by cases b <;> rfl'
@[irreducible] noncomputable def la3 : Res := resumeZ (VV w b N1 T1) 500 [3, 3, 2, 5, 5, 5, 2, 5] [⟨cB "str.__eq__" [.str ⟨#[]⟩ F.ks, .str ⟨#[c + 1]⟩ k], fun _ => .bool false, 0⟩, ⟨cB "str.__eq__" [.str ⟨#[c + 1]⟩ k, .str ⟨#[34]⟩ (T1 + 1)], fun _ => .bool true, 0⟩] (la1 w b N0 T0 X Z F tk tt cy cz).out (.ok (.ret (.str ⟨#[c + 1]⟩ k))) (put (put (la1 w b N0 T0 X Z F tk tt cy cz).led 1 (lexD w.params X ln2 k1)) 5 (spotO w.params X.kp (.int p2 k2)))
theorem la3' : (fun r => Lk r [(0, X.lx, lexO X), (1, X.dx, lexD w.params X ln2 k1), (2, F.it, iterO F), (3, F.mo, methO X), (4, F.L, frm4 w.params X F (.str tk tt) (.str ⟨#[c + 1]⟩ k)), (5, X.sp, spotO w.params X.kp (.int p2 k2))] (finOf r.out = some (.done (.ret (.str tk tt)))) (True)) (la3 w b N0 T0 X Z F tk tt cy cz N1 T1 c k ln2 k1 p2 k2) := by cases b <;> rfl'
end
structure GAt (w : World) (X : LX) (Z : LS) (F : FK) (fr : Obj) (h : Heap) : Prop where
  lex : LexAt w X Z h
  it : h.get? F.it = some (iterO F)
  mo : h.get? F.mo = some (methO X)
  L : h.get? F.L = some fr
  nd : [X.lx, X.dx, F.it, F.mo, F.L, X.pb, X.tp, X.td, X.rd, X.rc, X.c1, X.c2, X.sp].Nodup
  off : Off w F.it ∧ Off w F.mo ∧ Off w F.L
theorem rcc_sign {w : World} {X : LX} {Z : LS} {c : Nat} (hc : X.text.cps[Z.p]? = some c) (hl : 2 ≤ X.text.length) (hsz : X.text.length ≤ sizeLine) : RcC w X Z ⟨#[c]⟩ (Z.p + 1) (Z.ln + if c = 10 then 1 else 0) := by
  by_cases h : c = 10
  · rw [if_pos h]; exact rcc_line (rdc_sign hc hl hsz) (by simp [h])
  · rw [if_neg h, Int.add_zero]; exact rcc_plain (rdc_sign hc hl hsz) (by simp [h])
theorem rcm {w : World} {X : LX} {Z : LS} {y : Str} {p2 : Nat} {ln2 : Int} {mo : Addr} (H : RcC w X Z y p2 ln2) : Ctr w 2 (.call (.ref mo) ⟨[], []⟩) (fun h => LexAt w X Z h ∧ h.get? mo = some (methO X)) (fun h v h' => (∃ k, v = .str y k) ∧ Kp [X.dx, X.sp] h h' ∧ ∃ k1 k2, LexAt w X { Z with ln := ln2, tl := k1, p := p2, tp := k2 } h') :=
  fun A R s hA hd S ⟨L, hm⟩ hR => method_call hm (H A R s hA hd S L hR)
noncomputable def isWs (c : Nat) : Bool := c == 10 || c == 9 || c == 13 || c == 32
theorem in_ws (c : Nat) : (!(Builtin.Str.occurrences wsS ⟨#[c]⟩ 0 wsS.length 1).isEmpty) = isWs c := by
  rw [StrLaws.found_one]
  unfold isWs wsS
  simp only [List.mem_cons, nmn, or_false]
  by_cases h1 : c = 10
  · simp [h1]
  · by_cases h2 : c = 9
    · simp [h2]
    · by_cases h3 : c = 13
      · simp [h3]
      · by_cases h4 : c = 32
        · simp [h4]
        · simp [h1, h2, h3, h4]
noncomputable def LX.rest (X : LX) (p : Nat) : List Nat := X.text.cps.toList.drop p
theorem rest_cons {X : LX} {p c : Nat} {l : List Nat} (h : X.rest p = c :: l) : X.text.cps[p]? = some c ∧ X.rest (p + 1) = l := by
  unfold LX.rest at h ⊢
  have e : (X.text.cps.toList.drop p)[0]? = some c := by rw [h]; rfl
  rw [List.getElem?_drop, Nat.add_zero, Array.getElem?_toList] at e
  refine ⟨e, ?_⟩
  have := congrArg (List.drop 1) h
  rw [List.drop_drop] at this
  simpa using this
theorem str_snoc (tk : Str) (c : Nat) (u : List Nat) : tk ++ (⟨#[c]⟩ : Str) ++ (⟨u.toArray⟩ : Str) = tk ++ (⟨(c :: u).toArray⟩ : Str) := by
  apply Str.ext'
  simp [Str.cps_append]
theorem str_nil (tk : Str) : tk ++ (⟨([] : List Nat).toArray⟩ : Str) = tk := by
  apply Str.ext'
  simp [Str.cps_append]
theorem GAt.cur {w : World} {X : LX} {Z : LS} {F : FK} {fr : Obj} {h : Heap} (G : GAt w X Z F fr h) (S : Sta w h) : (∀ p ∈ ledG w X Z F fr, h.get? p.1 = some p.2) ∧ Cur w h ((ledG w X Z F fr).map (·.1)) h (ledG w X Z F fr) := by
  have ha : ∀ p ∈ ledG w X Z F fr, h.get? p.1 = some p.2 := by
    exact mC (G.lex.lx) (mC (G.lex.dx) (mC (G.it) (mC (G.mo) (mC (G.L) (mC (G.lex.sp) mN)))))
  refine ⟨ha, Cur.start S ha (List.Sublist.nodup (by repeat (first | exact List.nil_sublist _ | refine List.Sublist.cons_cons _ ?_ | refine List.Sublist.cons _ ?_)) G.nd) ?_⟩
  exact mC (G.lex.off _ (by ac_rfl)) (mC (G.lex.off _ (by ac_rfl)) (mC (G.off.1) (mC (G.off.2.1) (mC (G.off.2.2) (mC (G.lex.off _ (by ac_rfl)) mN)))))
theorem GAt.turn {w : World} {X : LX} {Z : LS} {F : FK} {fr : Obj} {h h' : Heap} {ln : Int} {tl p tp : Nat} (G : GAt w X Z F fr h) (K : Kp [X.dx, X.sp, F.L] h h') (hdx : h'.get? X.dx = some (lexD w.params X ln tl)) (hsp : h'.get? X.sp = some (spotO w.params X.kp (.int p tp))) : LexAt w X { Z with ln := ln, tl := tl, p := p, tp := tp } h' := by
  have nd := G.nd
  have hL : ∀ a ∈ X.keys, a ≠ F.L := by
    exact mC (nd_ne nd 0 4 rfl rfl (by decide)) (mC (nd_ne nd 1 4 rfl rfl (by decide)) (mC (nd_ne nd 5 4 rfl rfl (by decide)) (mC (nd_ne nd 6 4 rfl rfl (by decide)) (mC (nd_ne nd 7 4 rfl rfl (by decide)) (mC (nd_ne nd 8 4 rfl rfl (by decide)) (mC (nd_ne nd 9 4 rfl rfl (by decide)) (mC (nd_ne nd 10 4 rfl rfl (by decide)) (mC (nd_ne nd 11 4 rfl rfl (by decide)) (mC (nd_ne nd 12 4 rfl rfl (by decide)) mN)))))))))
  refine G.lex.kpM (Z' := { Z with ln := ln, tl := tl, p := p, tp := tp }) K (fun a ha hm => ?_) hdx (K.get G.lex.pb ?_) hsp
  · simp only [List.mem_cons, nmn, or_false] at hm
    rcases hm with h | h | h
    · exact .inl h
    · exact .inr (.inr h)
    · exact absurd h (hL a ha)
  · simp only [List.mem_cons, nmn, or_false, not_or]
    exact ⟨nd_ne G.lex.nd 2 1 rfl rfl (by decide), nd_ne G.lex.nd 2 9 rfl rfl (by decide), hL _ (by ac_rfl)⟩
theorem GAt.next {w : World} {X : LX} {Z Z' : LS} {F : FK} {fr fr' : Obj} {h h' : Heap} (G : GAt w X Z F fr h) (K : Kp [X.dx, X.sp, F.L] h h') (L : LexAt w X Z' h') (hfr : h'.get? F.L = some fr') : GAt w X Z' F fr' h' := by
  have nd := G.nd
  refine ⟨L, K.get G.it ?_, K.get G.mo ?_, hfr, G.nd, G.off⟩
  · simp only [List.mem_cons, nmn, or_false, not_or]
    exact ⟨nd_ne nd 2 1 rfl rfl (by decide), nd_ne nd 2 12 rfl rfl (by decide), nd_ne nd 2 4 rfl rfl (by decide)⟩
  · simp only [List.mem_cons, nmn, or_false, not_or]
    exact ⟨nd_ne nd 3 1 rfl rfl (by decide), nd_ne nd 3 12 rfl rfl (by decide), nd_ne nd 3 4 rfl rfl (by decide)⟩
noncomputable def Got (w : World) (X : LX) (Z : LS) (F : FK) (tok : Str) (p : Nat) (ln : Int) (h : Heap) (f : Flow) (h' : Heap) : Prop :=
  (∃ k, f = .ret (.str tok k)) ∧ Kp [X.dx, X.sp, F.L] h h' ∧ ∃ tl tp, LexAt w X { Z with ln := ln, tl := tl, p := p, tp := tp } h'
theorem Got.step {w : World} {X : LX} {Z : LS} {F : FK} {tok : Str} {p : Nat} {ln l1 : Int} {t1 p1 q1 : Nat} {h h1 h' : Heap} {f : Flow} (K : Kp [X.dx, X.sp, F.L] h h1) (G : Got w X { Z with ln := l1, tl := t1, p := p1, tp := q1 } F tok p ln h1 f h') : Got w X Z F tok p ln h f h' :=
  ⟨G.1, K.trans G.2.1 fun a ha => .inl ha, G.2.2⟩
theorem sEq_one (c d : Nat) : ((⟨#[c]⟩ : Str).cps.toList == (⟨#[d]⟩ : Str).cps.toList) = (c == d) := by
  show ([c] == [d]) = _
  simp
theorem str_pos {x : Str} (h : x.cps.size ≠ 0) : x ≠ "" := by
  intro e
  subst e
  exact h rfl
theorem loopB {w : World} {X : LX} {F : FK} (hl : 2 ≤ X.text.length) (hsz : X.text.length ≤ sizeLine) : ∀ (u : List Nat) (Z : LS) (tk : Str) (tt : Nat) (cy : Str) (cz : Nat) (e : Nat) (more : List Nat), X.rest Z.p = u ++ e :: more → (∀ c ∈ u, c ≠ 0 ∧ isWs c = false ∧ c ≠ 92 ∧ c ≠ 10) → isWs e = true → (tk.length == 0) = false → tk.length + u.length + 1 ≤ sizeLine →
    CtrF w 3 (codeB' w.params F) (GAt w X Z F (frm4 w.params X F (.str tk tt) (.str cy cz))) (Got w X Z F (tk ++ ⟨u.toArray⟩) (Z.p + u.length + 1) (Z.ln + if e = 10 then 1 else 0)) := by
  intro u
  induction u with
  | nil =>
    intro Z tk tt cy cz e more hrest hu he htk htl
    obtain ⟨hc, hr2⟩ := rest_cons hrest
    obtain ⟨c, rfl⟩ : ∃ c, e = c + 1 := ⟨e - 1, by unfold isWs at he; simp at he; omega⟩
    rintro A R ⟨h0, g, d, T, ost⟩ hA hd S G H
    obtain ⟨b, hb⟩ : ∃ b, w.params.followText "special-get-raises" = b := ⟨_, rfl⟩
    obtain ⟨N, hN⟩ : ∃ N, h0.objs.size = N := ⟨_, rfl⟩
    obtain ⟨ha, C0⟩ := G.cur S
    refine code_call C0 hb hA hN _ (lb1.eq_1 w b N T X Z F tk tt cy cz) no_orc (lb1' ..).s (lb1' ..).o fun h1 N1 T1 hN1 C1 => ?_
    have K1 : Kp [] h0 h1 := by
      refine C1.fin ha ?_
      exact mC (.inr (C1.at' ((lb1' ..).g 2 rfl))) (mC (.inr (C1.at' ((lb1' ..).g 0 rfl))) (mC (.inr (C1.at' ((lb1' ..).g 3 rfl))) (mC (.inr (C1.at' ((lb1' ..).g 4 rfl))) (mC (.inr (C1.at' ((lb1' ..).g 5 rfl))) (mC (.inr (C1.at' ((lb1' ..).g 1 rfl))) mN)))))
    refine rcm (rcc_sign hc hl hsz) _ _ _ (aroO_handled hA _) (by first | exact room hd (lb1' ..).e rfl | (rw [aroO_depth, (lb1' ..).e]; omega)) C1.sta ⟨G.lex.same K1, C1.at' ((lb1' ..).g 4 rfl)⟩ fun v h2 T2 hPP => ?_
    obtain ⟨⟨k, hv⟩, K2, k1, k2, L2⟩ := hPP
    subst hv
    obtain ⟨N2, hN2⟩ : ∃ N, h2.objs.size = N := ⟨_, rfl⟩
    have C2 := C1.chg2 (by decide) ((lb1' ..).g 0 rfl) ((lb1' ..).g 1 rfl) K2 L2.dx L2.sp
    refine res_fin C2 hb hA hN2 _ (lb3.eq_1 w b N T X Z F tk tt cy cz N2 T2 c k _ k1 (Z.p + 1) k2) ?_ (lb3' ..).s (lb3' ..).o fun h3 N3 T3 hN3 C3 => ?_
    · exact mC (oStrEq (by rfl)) (mC (oStrIn ((in_ws _).trans he)) mN)
    have K : Kp [X.dx, X.sp, F.L] h0 h3 := by
      refine C3.fin ha ?_
      exact mC (.inr (C3.at' ((lb3' ..).g 0 rfl))) (mC (.inl (by ac_rfl)) (mC (.inr (C3.at' ((lb3' ..).g 2 rfl))) (mC (.inr (C3.at' ((lb3' ..).g 3 rfl))) (mC (.inl (by ac_rfl)) (mC (.inl (by ac_rfl)) mN)))))
    have L3 := G.turn K (C3.at' ((lb3' ..).g 1 rfl)) (C3.at' ((lb3' ..).g 5 rfl))
    exact H _ _ _ ⟨⟨_, by rw [str_nil]⟩, K, _, _, L3⟩
  | cons e0 u ih =>
    intro Z tk tt cy cz e more hrest hu he htk htl
    obtain ⟨hc, hr2⟩ := rest_cons hrest
    have hu0 := hu e0 (.head _)
    obtain ⟨c, rfl⟩ : ∃ c, e0 = c + 1 := ⟨e0 - 1, by omega⟩
    have h10 : c + 1 ≠ 10 := by omega
    rintro A R ⟨h0, g, d, T, ost⟩ hA hd S G H
    obtain ⟨b, hb⟩ : ∃ b, w.params.followText "special-get-raises" = b := ⟨_, rfl⟩
    obtain ⟨N, hN⟩ : ∃ N, h0.objs.size = N := ⟨_, rfl⟩
    obtain ⟨ha, C0⟩ := G.cur S
    refine code_call C0 hb hA hN _ (lb1.eq_1 w b N T X Z F tk tt cy cz) no_orc (lb1' ..).s (lb1' ..).o fun h1 N1 T1 hN1 C1 => ?_
    have K1 : Kp [] h0 h1 := by
      refine C1.fin ha ?_
      exact mC (.inr (C1.at' ((lb1' ..).g 2 rfl))) (mC (.inr (C1.at' ((lb1' ..).g 0 rfl))) (mC (.inr (C1.at' ((lb1' ..).g 3 rfl))) (mC (.inr (C1.at' ((lb1' ..).g 4 rfl))) (mC (.inr (C1.at' ((lb1' ..).g 5 rfl))) (mC (.inr (C1.at' ((lb1' ..).g 1 rfl))) mN)))))
    refine rcm (rcc_sign hc hl hsz) _ _ _ (aroO_handled hA _) (by first | exact room hd (lb1' ..).e rfl | (rw [aroO_depth, (lb1' ..).e]; omega)) C1.sta ⟨G.lex.same K1, C1.at' ((lb1' ..).g 4 rfl)⟩ fun v h2 T2 hPP => ?_
    obtain ⟨⟨k, hv⟩, K2, k1, k2, L2⟩ := hPP
    subst hv
    obtain ⟨N2, hN2⟩ : ∃ N, h2.objs.size = N := ⟨_, rfl⟩
    have C2 := C1.chg2 (by decide) ((lb1' ..).g 0 rfl) ((lb1' ..).g 1 rfl) K2 L2.dx L2.sp
    refine res_fin C2 hb hA hN2 _ (lb2.eq_1 w b N T X Z F tk tt cy cz N2 T2 c k _ k1 (Z.p + 1) k2) ?_ (lb2' ..).s (lb2' ..).o fun h3 N3 T3 hN3 C3 => ?_
    · exact mC (oStrEq (by rfl)) (mC (oStrIn ((in_ws _).trans hu0.2.1)) (mC (oStrEq ((sEq_one _ _).trans (by simp; omega))) (mC (oStrAdd htk (by rfl) (by simp [Str.length, Str.cps_append] at htl ⊢; omega)) mN)))
    have K : Kp [X.dx, X.sp, F.L] h0 h3 := by
      refine C3.fin ha ?_
      exact mC (.inr (C3.at' ((lb2' ..).g 0 rfl))) (mC (.inl (by ac_rfl)) (mC (.inr (C3.at' ((lb2' ..).g 2 rfl))) (mC (.inr (C3.at' ((lb2' ..).g 3 rfl))) (mC (.inl (by ac_rfl)) (mC (.inl (by ac_rfl)) mN)))))
    have L3 := G.turn K (C3.at' ((lb2' ..).g 1 rfl)) (C3.at' ((lb2' ..).g 5 rfl))
    rw [if_neg h10, Int.add_zero] at L3
    have ih' := ih { Z with ln := Z.ln, tl := k1, p := Z.p + 1, tp := k2 } (tk ++ ⟨#[c + 1]⟩) (T2 + 3) ⟨#[c + 1]⟩ k e more hr2 (fun c hc => hu c (.tail _ hc)) he (by simp [Str.length, Str.cps_append]) (by simp [Str.length, Str.cps_append] at htl ⊢; omega)
    refine ⟨rfl, ih' _ _ _ hA hd C3.sta (G.next K L3 (C3.at' ((lb2' ..).g 4 rfl))) fun f h' t' P => H f h' t' ?_⟩
    have P := P.step K
    rw [str_snoc, show Z.p + 1 + u.length + 1 = Z.p + (u.length + 1) + 1 by omega] at P
    exact P
theorem loopA {w : World} {X : LX} {F : FK} (hl : 2 ≤ X.text.length) (hsz : X.text.length ≤ sizeLine) : ∀ (u : List Nat) (Z : LS) (tk : Str) (tt : Nat) (cy : Str) (cz : Nat) (e : Nat) (more : List Nat), X.rest Z.p = u ++ e :: more → (∀ c ∈ u, c ≠ 0 ∧ c ≠ 34 ∧ c ≠ 92 ∧ c ≠ 10) → e = 34 → (tk.length == 0) = false → tk.length + u.length + 1 ≤ sizeLine →
    CtrF w 3 (codeA w.params F) (GAt w X Z F (frm4 w.params X F (.str tk tt) (.str cy cz))) (Got w X Z F (tk ++ ⟨u.toArray⟩) (Z.p + u.length + 1) (Z.ln + if e = 10 then 1 else 0)) := by
  intro u
  induction u with
  | nil =>
    intro Z tk tt cy cz e more hrest hu he htk htl
    obtain ⟨hc, hr2⟩ := rest_cons hrest
    obtain ⟨c, rfl⟩ : ∃ c, e = c + 1 := ⟨e - 1, by omega⟩
    rintro A R ⟨h0, g, d, T, ost⟩ hA hd S G H
    obtain ⟨b, hb⟩ : ∃ b, w.params.followText "special-get-raises" = b := ⟨_, rfl⟩
    obtain ⟨N, hN⟩ : ∃ N, h0.objs.size = N := ⟨_, rfl⟩
    obtain ⟨ha, C0⟩ := G.cur S
    refine code_call C0 hb hA hN _ (la1.eq_1 w b N T X Z F tk tt cy cz) no_orc (la1' ..).s (la1' ..).o fun h1 N1 T1 hN1 C1 => ?_
    have K1 : Kp [] h0 h1 := by
      refine C1.fin ha ?_
      exact mC (.inr (C1.at' ((la1' ..).g 2 rfl))) (mC (.inr (C1.at' ((la1' ..).g 0 rfl))) (mC (.inr (C1.at' ((la1' ..).g 3 rfl))) (mC (.inr (C1.at' ((la1' ..).g 4 rfl))) (mC (.inr (C1.at' ((la1' ..).g 5 rfl))) (mC (.inr (C1.at' ((la1' ..).g 1 rfl))) mN)))))
    refine rcm (rcc_sign hc hl hsz) _ _ _ (aroO_handled hA _) (by first | exact room hd (la1' ..).e rfl | (rw [aroO_depth, (la1' ..).e]; omega)) C1.sta ⟨G.lex.same K1, C1.at' ((la1' ..).g 4 rfl)⟩ fun v h2 T2 hPP => ?_
    obtain ⟨⟨k, hv⟩, K2, k1, k2, L2⟩ := hPP
    subst hv
    obtain ⟨N2, hN2⟩ : ∃ N, h2.objs.size = N := ⟨_, rfl⟩
    have C2 := C1.chg2 (by decide) ((la1' ..).g 0 rfl) ((la1' ..).g 1 rfl) K2 L2.dx L2.sp
    refine res_fin C2 hb hA hN2 _ (la3.eq_1 w b N T X Z F tk tt cy cz N2 T2 c k _ k1 (Z.p + 1) k2) ?_ (la3' ..).s (la3' ..).o fun h3 N3 T3 hN3 C3 => ?_
    · exact mC (oStrEq (by rfl)) (mC (oStrEq ((sEq_one _ _).trans (by simp; omega))) mN)
    have K : Kp [X.dx, X.sp, F.L] h0 h3 := by
      refine C3.fin ha ?_
      exact mC (.inr (C3.at' ((la3' ..).g 0 rfl))) (mC (.inl (by ac_rfl)) (mC (.inr (C3.at' ((la3' ..).g 2 rfl))) (mC (.inr (C3.at' ((la3' ..).g 3 rfl))) (mC (.inl (by ac_rfl)) (mC (.inl (by ac_rfl)) mN)))))
    have L3 := G.turn K (C3.at' ((la3' ..).g 1 rfl)) (C3.at' ((la3' ..).g 5 rfl))
    exact H _ _ _ ⟨⟨_, by rw [str_nil]⟩, K, _, _, L3⟩
  | cons e0 u ih =>
    intro Z tk tt cy cz e more hrest hu he htk htl
    obtain ⟨hc, hr2⟩ := rest_cons hrest
    have hu0 := hu e0 (.head _)
    obtain ⟨c, rfl⟩ : ∃ c, e0 = c + 1 := ⟨e0 - 1, by omega⟩
    have h10 : c + 1 ≠ 10 := by omega
    rintro A R ⟨h0, g, d, T, ost⟩ hA hd S G H
    obtain ⟨b, hb⟩ : ∃ b, w.params.followText "special-get-raises" = b := ⟨_, rfl⟩
    obtain ⟨N, hN⟩ : ∃ N, h0.objs.size = N := ⟨_, rfl⟩
    obtain ⟨ha, C0⟩ := G.cur S
    refine code_call C0 hb hA hN _ (la1.eq_1 w b N T X Z F tk tt cy cz) no_orc (la1' ..).s (la1' ..).o fun h1 N1 T1 hN1 C1 => ?_
    have K1 : Kp [] h0 h1 := by
      refine C1.fin ha ?_
      exact mC (.inr (C1.at' ((la1' ..).g 2 rfl))) (mC (.inr (C1.at' ((la1' ..).g 0 rfl))) (mC (.inr (C1.at' ((la1' ..).g 3 rfl))) (mC (.inr (C1.at' ((la1' ..).g 4 rfl))) (mC (.inr (C1.at' ((la1' ..).g 5 rfl))) (mC (.inr (C1.at' ((la1' ..).g 1 rfl))) mN)))))
    refine rcm (rcc_sign hc hl hsz) _ _ _ (aroO_handled hA _) (by first | exact room hd (la1' ..).e rfl | (rw [aroO_depth, (la1' ..).e]; omega)) C1.sta ⟨G.lex.same K1, C1.at' ((la1' ..).g 4 rfl)⟩ fun v h2 T2 hPP => ?_
    obtain ⟨⟨k, hv⟩, K2, k1, k2, L2⟩ := hPP
    subst hv
    obtain ⟨N2, hN2⟩ : ∃ N, h2.objs.size = N := ⟨_, rfl⟩
    have C2 := C1.chg2 (by decide) ((la1' ..).g 0 rfl) ((la1' ..).g 1 rfl) K2 L2.dx L2.sp
    refine res_fin C2 hb hA hN2 _ (la2.eq_1 w b N T X Z F tk tt cy cz N2 T2 c k _ k1 (Z.p + 1) k2) ?_ (la2' ..).s (la2' ..).o fun h3 N3 T3 hN3 C3 => ?_
    · exact mC (oStrEq (by rfl)) (mC (oStrEq ((sEq_one _ _).trans (by simp; omega))) (mC (oStrEq ((sEq_one _ _).trans (by simp; omega))) (mC (oStrAdd htk (by rfl) (by simp [Str.length, Str.cps_append] at htl ⊢; omega)) mN)))
    have K : Kp [X.dx, X.sp, F.L] h0 h3 := by
      refine C3.fin ha ?_
      exact mC (.inr (C3.at' ((la2' ..).g 0 rfl))) (mC (.inl (by ac_rfl)) (mC (.inr (C3.at' ((la2' ..).g 2 rfl))) (mC (.inr (C3.at' ((la2' ..).g 3 rfl))) (mC (.inl (by ac_rfl)) (mC (.inl (by ac_rfl)) mN)))))
    have L3 := G.turn K (C3.at' ((la2' ..).g 1 rfl)) (C3.at' ((la2' ..).g 5 rfl))
    rw [if_neg h10, Int.add_zero] at L3
    have ih' := ih { Z with ln := Z.ln, tl := k1, p := Z.p + 1, tp := k2 } (tk ++ ⟨#[c + 1]⟩) (T2 + 3) ⟨#[c + 1]⟩ k e more hr2 (fun c hc => hu c (.tail _ hc)) he (by simp [Str.length, Str.cps_append]) (by simp [Str.length, Str.cps_append] at htl ⊢; omega)
    refine ⟨rfl, ih' _ _ _ hA hd C3.sta (G.next K L3 (C3.at' ((la2' ..).g 4 rfl))) fun f h' t' P => H f h' t' ?_⟩
    have P := P.step K
    rw [str_snoc, show Z.p + 1 + u.length + 1 = Z.p + (u.length + 1) + 1 by omega] at P
    exact P
theorem slot_cit_next : Slot "callable_iterator" "__next__" "callable_iterator.__next__" :=
  .of (owner := "callable_iterator") (n := "__next__") (by rw [typeLookup_type, builtinLookup_eq_fast]; kernel_rfl) (by decide +kernel) (by decide +kernel) (by decide +kernel)
    (by first | exact .inl (by decide +kernel) | exact .inr (by decide +kernel)) (by rw [isSubtype_type]; kernel_rfl)
theorem entry_cit_next : entryFor table "callable_iterator.__next__" = some Builtin.«callable_iterator.__next__» := entryFor_of_fast (by kernel_rfl)
theorem args_cit_next (a : Value) : argsOk "callable_iterator.__next__" ⟨[a], []⟩ := by unfold argsOk; kernel_rfl
noncomputable abbrev stopO (tp : Addr) : Obj := ⟨.type "StopIteration", none, .fields #[.ref tp, .none, .none, .none, .bool false, .none], #[]⟩
theorem borrows {M : Model} {A : Around} {E : Value → Shared → Prop} {s : Shared} {Q : Bool → Shared → Prop} {mo f : Addr} {X : LX} {fd : FuncData} {of : Obj} (hm : s.heap.get? mo = some (methO X)) (hf : s.heap.get? 35 = some of) (hfd : of.data = .func fd) (h : Q true s) : wpAny M A (borrowsExactly (.ref mo)) Q E s := by
  unfold borrowsExactly
  refine wpAny_bind (wpAny_load hm ?_)
  refine wpAny_bind (m := load 35) (wpAny_load hf ?_)
  rw [hfd]
  exact wpAny_pure h
theorem kp_upd (h : Heap) (a : Addr) (f : Obj → Obj) : Kp [a] h (h.update a f) :=
  ⟨by rw [Heap.size_after_update]; exact Nat.le_refl _, fun x o e hx => ((Heap.SameBut.update h a _).2 x fun z => hx (z ▸ .head _)).trans e⟩
theorem kp_push (h : Heap) (o : Obj) : Kp [] h (h.push o) :=
  ⟨by rw [Heap.objs_push, Array.size_push]; exact Nat.le_succ _, fun x o' e _ => (Heap.get?_push_ne h x o (Nat.ne_of_lt (Heap.lt_size e))).trans e⟩
theorem cNextEnd {w : World} {X : LX} {Z : LS} {F : FK} {fr : Obj} {A : Around} {R : Result → Shared → Prop} {h0 : Heap} {g : Array GenState} {d : Drawn} {T : Nat} {ost : OsState} (G : GAt w X Z F fr h0) (S : Sta w h0) (hA : A.handled = none) (hd : A.depth + 2 < recursionLimit) (hp : Z.p = X.text.length) (hl : 2 ≤ X.text.length) (hsz : X.text.length ≤ sizeLine)
    (H : ∀ h' T' e tp, Kp [X.dx, X.sp, F.it] h0 h' → (∃ tl tq, LexAt w X { Z with tl := tl, tp := tq } h') → h'.get? e = some (stopO tp) → h0.objs.size ≤ e → R (.error (.ref e)) ⟨h', g, d, T', ost⟩) :
    codeAny (model pg w) A (cB "callable_iterator.__next__" [.ref F.it]) R ⟨h0, g, d, T, ost⟩ := by
  refine codeAny_call_builtin slot_cit_next.plain entry_cit_next (slot_cit_next.check _ _ _ _ _ _ _ _ ⟨_, G.it, rfl⟩ (args_cit_next _) ?_)
  obtain ⟨of, hof, hfd⟩ := (fn35 w).at_
  unfold Builtin.«callable_iterator.__next__»
  show wpAny _ _ (field (.ref F.it) 2 >>= _) _ _ _
  refine wpAny_bind (wpAny_field G.it rfl (x := .bool false) rfl ?_)
  show wpAny _ _ (field (.ref F.it) 0 >>= _) _ _ _
  refine wpAny_bind (wpAny_field G.it rfl (x := .ref F.mo) rfl ?_)
  refine wpAny_bind (wpAny_attempt ?_)
  unfold callOutOfASlot
  refine wpAny_bind (borrows (f := 35) G.mo (S _ _ hof) hfd ?_)
  show wpAny _ _ (callBorrowed (.ref F.mo) []) _ _ _
  unfold callBorrowed
  refine x_call ?_ (by intro z; cases z)
  have r1 := rcc_plain (w := w) (rdc_end hp hl hsz) (y := ⟨#[]⟩) (by rfl)
  refine rcm r1 _ _ _ hA hd S ⟨G.lex, G.mo⟩ fun v h2 T2 hPP => ?_
  obtain ⟨⟨k, hv⟩, K2, k1, k2, L2⟩ := hPP
  subst hv
  rw [← hp] at L2
  have nd := G.nd
  have i2 : h2.get? F.it = some (iterO F) := K2.get G.it (by
    simp only [List.mem_cons, nmn, or_false, not_or]
    exact ⟨nd_ne nd 2 1 rfl rfl (by decide), nd_ne nd 2 12 rfl rfl (by decide)⟩)
  have m2 : h2.get? F.mo = some (methO X) := K2.get G.mo (by
    simp only [List.mem_cons, nmn, or_false, not_or]
    exact ⟨nd_ne nd 3 1 rfl rfl (by decide), nd_ne nd 3 12 rfl rfl (by decide)⟩)
  have S2 : Sta w h2 := S.kp K2 (by
    exact mC (G.lex.off _ (by ac_rfl)) (mC (G.lex.off _ (by ac_rfl)) mN))
  refine wpAny_pure ?_
  show wpAny _ _ (field (.ref F.it) 2 >>= _) _ _ _
  refine wpAny_bind (wpAny_field i2 rfl (x := .bool false) rfl ?_)
  show wpAny _ _ (field (.ref F.it) 1 >>= _) _ _ _
  refine wpAny_bind (wpAny_field i2 rfl (x := .str ⟨#[]⟩ F.ks) rfl ?_)
  refine wpAny_bind (wpAny_holding (wpAny_eqBool_str ?_))
  refine wpAny_bind (wpAny_rule ?_)
  refine wpAny_bind (wpAny_bind (wpAny_field i2 rfl (x := .ref F.mo) rfl ?_))
  refine wpAny_bind (m := slotLetsGo _ _ _) ?_
  unfold slotLetsGo
  refine wpAny_bind (borrows (f := 35) m2 (S2 _ _ hof) hfd (wpAny_pure ?_))
  refine wpAny_bind (wpAny_setField i2 rfl (by ac_rfl) ?_)
  have i3 := Heap.get?_update_self (h := h2) (Obj.mapFields (·.setIfInBounds 0 .none)) i2 rfl
  refine wpAny_bind (wpAny_setField i3 rfl (by ac_rfl) ?_)
  have i4 := Heap.get?_update_self (Obj.mapFields (·.setIfInBounds 1 .none)) i3 rfl
  refine wpAny_setField i4 rfl (by ac_rfl) ?_
  show wpAny _ _ (newExc (.type "StopIteration") [] >>= _) _ _ _
  refine wpAny_bind ?_
  simp only [newExc, newTuple]
  refine wpAny_bind (wpAny_newObj_type ?_ (by size_fits))
  refine wpAny_bind (m := firstArgMember _ _) (wpAny_of_eq (a := Value.none) (by first | rfl | (simp only [firstArgMember]; rfl)) ?_)
  refine wpAny_newObj_type ?_ (by size_fits)
  simp only [raiseNew]
  refine wpAny_bind (wpAny_handled ?_)
  rw [show A.in1.handled = none from hA]
  refine wpAny_bind (wpAny_pure (wpAny_throw ?_))
  have U1 := kp_upd h2 F.it (Obj.mapFields (·.setIfInBounds 0 .none))
  have U2 := U1.trans (kp_upd _ F.it (Obj.mapFields (·.setIfInBounds 1 .none))) fun a ha => .inl ha
  have U3 := U2.trans (kp_upd _ F.it (Obj.mapFields (·.setIfInBounds 2 (.bool true)))) fun a ha => .inl ha
  have U4 := U3.trans (kp_push _ ⟨.type "tuple", none, .seq #[] 0, #[]⟩) fun a ha => nomatch ha
  have U := U4.trans (kp_push _ (stopO (((h2.update F.it (Obj.mapFields (·.setIfInBounds 0 .none))).update F.it (Obj.mapFields (·.setIfInBounds 1 .none))).update F.it (Obj.mapFields (·.setIfInBounds 2 (.bool true)))).objs.size)) fun a ha => nomatch ha
  have K : Kp [X.dx, X.sp, F.it] h0 _ := (K2.mono (M' := [X.dx, X.sp, F.it]) (by
    exact mC (.inl (by ac_rfl)) (mC (.inl (by ac_rfl)) mN))).trans U (by
    exact mC (.inl (by ac_rfl)) mN)
  refine H _ _ _ _ K ⟨k1, k2, L2.kpM (Z' := { Z with tl := k1, tp := k2 }) U ?_ (U.get L2.dx ?_) (U.get L2.pb ?_) (U.get L2.sp ?_)⟩ (Heap.get?_push_size _ rfl) ?_
  · intro a ha hm
    cases List.mem_singleton.mp hm
    have : ∀ b ∈ X.keys, b ≠ F.it := by
      exact mC (nd_ne nd 0 2 rfl rfl (by decide)) (mC (nd_ne nd 1 2 rfl rfl (by decide)) (mC (nd_ne nd 5 2 rfl rfl (by decide)) (mC (nd_ne nd 6 2 rfl rfl (by decide)) (mC (nd_ne nd 7 2 rfl rfl (by decide)) (mC (nd_ne nd 8 2 rfl rfl (by decide)) (mC (nd_ne nd 9 2 rfl rfl (by decide)) (mC (nd_ne nd 10 2 rfl rfl (by decide)) (mC (nd_ne nd 11 2 rfl rfl (by decide)) (mC (nd_ne nd 12 2 rfl rfl (by decide)) mN)))))))))
    exact absurd rfl (this _ ha)
  · exact fun z => nd_ne nd 1 2 rfl rfl (by decide) (List.mem_singleton.mp z)
  · exact fun z => nd_ne nd 5 2 rfl rfl (by decide) (List.mem_singleton.mp z)
  · exact fun z => nd_ne nd 12 2 rfl rfl (by decide) (List.mem_singleton.mp z)
  · exact Nat.le_trans K2.1 U4.1
noncomputable abbrev frm4z (P : Params) (X : LX) (F : FK) (t : Nat) (tok ch : Value) : Obj := ⟨.type "frame", none, .dict #[ent P sSelf F.f1 (.ref X.lx), ent P sToken F.f2 tok, ent P sFiter F.f3 (.ref F.it), entZ P sCh t ch] 4, #[]⟩
theorem GAt.f4 {w : World} {X : LX} {Z : LS} {F : FK} {fr : Obj} {h : Heap} (G : GAt w X Z F fr h) (t : Nat) : GAt w X Z { F with f4 := t } fr h := ⟨G.lex, G.it, G.mo, G.L, G.nd, G.off⟩
theorem Got.f4 {w : World} {X : LX} {Z : LS} {F : FK} {tok : Str} {p : Nat} {ln : Int} {h h' : Heap} {f : Flow} {t : Nat} (G : Got w X Z { F with f4 := t } tok p ln h f h') : Got w X Z F tok p ln h f h' := G
theorem Got.cast {w : World} {X : LX} {Z : LS} {F : FK} {tok : Str} {p p' : Nat} {ln ln' : Int} {h h' : Heap} {f : Flow} (G : Got w X Z F tok p ln h f h') (e : p = p') (e2 : ln = ln') : Got w X Z F tok p' ln' h f h' := by subst e e2; exact G
theorem frm4z_is (P : Params) (X : LX) (F : FK) (t : Nat) (tok ch : Value) : frm4z P X F t tok ch = frm4 P X { F with f4 := t } tok ch := by
  unfold frm4z
  rw [entZ_is]
section
variable (w : World) (b : Bool) (N0 T0 : Nat) (X : LX) (Z : LS) (F : FK) (tk : Str) (tt : Nat) (cy : Str) (cz N1 T1 c k : Nat) (ln2 : Int) (k1 p2 k2 N2 T2 c2 v : Nat) (ln3 : Int) (k3 p3 k4 e ts : Nat) (y : Str) (yk N3 T3 : Nat)
@[irreducible] noncomputable def lo1 : Res := startZ (VV w b N0 T0) 300 [3, 0, 3, 3, 3, 4, 0, 1] [] (codeO w.params F) (ledG w X Z F (frm3 w.params X F (.str ⟨#[]⟩ tt)))
theorem lo1' : (fun r => Lk r [(1, X.dx, lexD w.params X Z.ln Z.tl), (5, X.sp, spotO w.params X.kp (.int Z.p Z.tp)), (0, X.lx, lexO X), (2, F.it, iterO F), (3, F.mo, methO X), (4, F.L, (frm3 w.params X F (.str ⟨#[]⟩ tt)))] (callOf r.out = some (.call (.ref F.mo) ⟨[], []⟩)) (wtO r.out = 0)) (lo1 w b N0 T0 X Z F tt) := by cases b <;> rfl'
@[irreducible] noncomputable def lp1 : Res := startZ (VV w b N0 T0) 300 [3, 0, 3, 3, 3, 4, 0, 1] [] (codeO w.params F) (ledG w X Z F (frm4 w.params X F (.str ⟨#[]⟩ tt) (.str cy cz)))
theorem lp1' : (fun r => Lk r [(1, X.dx, lexD w.params X Z.ln Z.tl), (5, X.sp, spotO w.params X.kp (.int Z.p Z.tp)), (0, X.lx, lexO X), (2, F.it, iterO F), (3, F.mo, methO X), (4, F.L, (frm4 w.params X F (.str ⟨#[]⟩ tt) (.str cy cz)))] (callOf r.out = some (.call (.ref F.mo) ⟨[], []⟩)) (wtO r.out = 0)) (lp1 w b N0 T0 X Z F tt cy cz) := by cases b <;> rfl'
@[irreducible] noncomputable def lo2 : Res := resumeZ (VV w b N1 T1) 600 [3, 3, 2, 5, 5, 5, 5, 1, 0, 0, 0, 0, 1, 0, 0, 0, 1, 1, 0, 2, 2] [⟨cB "str.__eq__" [.str ⟨#[]⟩ F.ks, .str ⟨#[c + 1]⟩ k], fun _ => .bool false, 0⟩, ⟨cB "str.__contains__" [.str wsS X.kw, .str ⟨#[c + 1]⟩ k], fun _ => .bool true, 0⟩] (lo1 w b N0 T0 X Z F tt).out (.ok (.ret (.str ⟨#[c + 1]⟩ k))) (put (put (lo1 w b N0 T0 X Z F tt).led 1 (lexD w.params X ln2 k1)) 5 (spotO w.params X.kp (.int p2 k2)))
theorem lo2' : (fun r => Lk r [(0, X.lx, lexO X), (1, X.dx, lexD w.params X ln2 k1), (2, F.it, iterO F), (3, F.mo, methO X), (4, F.L, frm4z w.params X F T1 (.str ⟨#[]⟩ tt) (.str ⟨#[c + 1]⟩ k)), (5, X.sp, spotO w.params X.kp (.int p2 k2))] (finOf r.out = some (.again (codeO w.params F))) (True)) (lo2 w b N0 T0 X Z F tt N1 T1 c k ln2 k1 p2 k2) := by cases b <;> rfl'
@[irreducible] noncomputable def lo3 : Res := resumeZ (VV w b N1 T1) 600 [3, 3, 2, 5, 5, 5, 5, 1, 0, 0, 0, 0, 1, 0, 0, 0, 1, 1, 0, 2, 2, 5, 2, 5, 2, 5, 5, 2, 5, 5, 5, 3, 3, 0, 3, 3, 1] [⟨cB "str.__eq__" [.str ⟨#[]⟩ F.ks, .str ⟨#[c + 1]⟩ k], fun _ => .bool false, 0⟩, ⟨cB "str.__contains__" [.str wsS X.kw, .str ⟨#[c + 1]⟩ k], fun _ => .bool false, 0⟩, ⟨cB "str.__eq__" [.str ⟨#[c + 1]⟩ k, .str ⟨#[34]⟩ (T1 + 2)], fun _ => .bool false, 0⟩, ⟨cB "str.__eq__" [.str ⟨#[c + 1]⟩ k, .str ⟨#[92]⟩ (T1 + 3)], fun _ => .bool false, 0⟩, ⟨cB "str.__add__" [.str ⟨#[]⟩ tt, .str ⟨#[c + 1]⟩ k], fun _ => .str ⟨#[c + 1]⟩ k, 0⟩] (lo1 w b N0 T0 X Z F tt).out (.ok (.ret (.str ⟨#[c + 1]⟩ k))) (put (put (lo1 w b N0 T0 X Z F tt).led 1 (lexD w.params X ln2 k1)) 5 (spotO w.params X.kp (.int p2 k2)))
theorem lo3' : (fun r => Lk r [(0, X.lx, lexO X), (1, X.dx, lexD w.params X ln2 k1), (2, F.it, iterO F), (3, F.mo, methO X), (4, F.L, frm4z w.params X F T1 (.str ⟨#[c + 1]⟩ k) (.str ⟨#[c + 1]⟩ k)), (5, X.sp, spotO w.params X.kp (.int p2 k2))] (callOf r.out = some (codeB' w.params F)) (wtO r.out = 0)) (lo3 w b N0 T0 X Z F tt N1 T1 c k ln2 k1 p2 k2) := by cases b <;> rfl'
@[irreducible] noncomputable def lo4 : Res := resumeZ (VV w b N1 T1) 600 [3, 3, 2, 5, 5, 5, 5, 1, 0, 0, 0, 0, 1, 0, 0, 0, 1, 1, 0, 2, 2, 5, 2, 5, 3, 3, 0, 3, 3, 1] [⟨cB "str.__eq__" [.str ⟨#[]⟩ F.ks, .str ⟨#[c + 1]⟩ k], fun _ => .bool false, 0⟩, ⟨cB "str.__contains__" [.str wsS X.kw, .str ⟨#[c + 1]⟩ k], fun _ => .bool false, 0⟩, ⟨cB "str.__eq__" [.str ⟨#[c + 1]⟩ k, .str ⟨#[34]⟩ (T1 + 2)], fun _ => .bool true, 0⟩] (lo1 w b N0 T0 X Z F tt).out (.ok (.ret (.str ⟨#[c + 1]⟩ k))) (put (put (lo1 w b N0 T0 X Z F tt).led 1 (lexD w.params X ln2 k1)) 5 (spotO w.params X.kp (.int p2 k2)))
theorem lo4' : (fun r => Lk r [(0, X.lx, lexO X), (1, X.dx, lexD w.params X ln2 k1), (2, F.it, iterO F), (3, F.mo, methO X), (4, F.L, frm4z w.params X F T1 (.str ⟨#[]⟩ tt) (.str ⟨#[c + 1]⟩ k)), (5, X.sp, spotO w.params X.kp (.int p2 k2))] (callOf r.out = some (codeA w.params F)) (wtO r.out = 0)) (lo4 w b N0 T0 X Z F tt N1 T1 c k ln2 k1 p2 k2) := by cases b <;> rfl'
@[irreducible] noncomputable def lo5 : Res := resumeZ (VV w b N1 T1) 600 [3, 3, 2, 5, 5, 5, 5, 1, 0, 0, 0, 0, 1, 0, 0, 0, 1, 1, 0, 2, 2, 5, 2, 5, 2, 5, 1, 0, 0, 0, 1, 0, 0, 0, 1, 0, 0, 0, 0, 1, 2, 0, 1] [⟨cB "str.__eq__" [.str ⟨#[]⟩ F.ks, .str ⟨#[c + 1]⟩ k], fun _ => .bool false, 0⟩, ⟨cB "str.__contains__" [.str wsS X.kw, .str ⟨#[c + 1]⟩ k], fun _ => .bool false, 0⟩, ⟨cB "str.__eq__" [.str ⟨#[c + 1]⟩ k, .str ⟨#[34]⟩ (T1 + 2)], fun _ => .bool false, 0⟩, ⟨cB "str.__eq__" [.str ⟨#[c + 1]⟩ k, .str ⟨#[92]⟩ (T1 + 3)], fun _ => .bool true, 0⟩] (lo1 w b N0 T0 X Z F tt).out (.ok (.ret (.str ⟨#[c + 1]⟩ k))) (put (put (lo1 w b N0 T0 X Z F tt).led 1 (lexD w.params X ln2 k1)) 5 (spotO w.params X.kp (.int p2 k2)))
theorem lo5' : (fun r => Lk r [(0, X.lx, lexO X), (1, X.dx, lexD w.params X ln2 k1), (2, F.it, iterO F), (3, F.mo, methO X), (4, F.L, frm4z w.params X F T1 (.str ⟨#[]⟩ tt) (.str ⟨#[c + 1]⟩ k)), (5, X.sp, spotO w.params X.kp (.int p2 k2))] (callOf r.out = some (.call (.ref 35) ⟨[.ref X.lx], []⟩)) (wtO r.out = 0)) (lo5 w b N0 T0 X Z F tt N1 T1 c k ln2 k1 p2 k2) := by cases b <;> rfl'
@[irreducible] noncomputable def lp5 : Res := resumeZ (VV w b N1 T1) 600 [3, 3, 2, 5, 5, 5, 5, 1, 0, 0, 0, 0, 1, 0, 0, 0, 1, 1, 0, 2, 2, 5, 2, 5, 2, 5, 1, 0, 0, 0, 1, 0, 0, 0, 1, 0, 0, 0, 0, 1, 2, 0, 1] [⟨cB "str.__eq__" [.str ⟨#[]⟩ F.ks, .str ⟨#[c + 1]⟩ k], fun _ => .bool false, 0⟩, ⟨cB "str.__contains__" [.str wsS X.kw, .str ⟨#[c + 1]⟩ k], fun _ => .bool false, 0⟩, ⟨cB "str.__eq__" [.str ⟨#[c + 1]⟩ k, .str ⟨#[34]⟩ (T1 + 2)], fun _ => .bool false, 0⟩, ⟨cB "str.__eq__" [.str ⟨#[c + 1]⟩ k, .str ⟨#[92]⟩ (T1 + 3)], fun _ => .bool true, 0⟩] (lp1 w b N0 T0 X Z F tt cy cz).out (.ok (.ret (.str ⟨#[c + 1]⟩ k))) (put (put (lp1 w b N0 T0 X Z F tt cy cz).led 1 (lexD w.params X ln2 k1)) 5 (spotO w.params X.kp (.int p2 k2)))
theorem lp5' : (fun r => Lk r [(0, X.lx, lexO X), (1, X.dx, lexD w.params X ln2 k1), (2, F.it, iterO F), (3, F.mo, methO X), (4, F.L, frm4 w.params X F (.str ⟨#[]⟩ tt) (.str ⟨#[c + 1]⟩ k)), (5, X.sp, spotO w.params X.kp (.int p2 k2))] (callOf r.out = some (.call (.ref 35) ⟨[.ref X.lx], []⟩)) (wtO r.out = 0)) (lp5 w b N0 T0 X Z F tt cy cz N1 T1 c k ln2 k1 p2 k2) := by cases b <;> rfl'
@[irreducible] noncomputable def lo6 : Res := resumeZ (VV w b N2 T2) 300 [5, 5, 5, 5, 2, 5, 5, 5, 3, 3, 0, 3, 3, 1] [⟨cB "str.__add__" [.str ⟨#[]⟩ tt, .str ⟨#[c2 + 1]⟩ v], fun _ => .str ⟨#[c2 + 1]⟩ v, 0⟩] (lo5 w b N0 T0 X Z F tt N1 T1 c k ln2 k1 p2 k2).out (.ok (.ret (.str ⟨#[c2 + 1]⟩ v))) (put (put (lo5 w b N0 T0 X Z F tt N1 T1 c k ln2 k1 p2 k2).led 1 (lexD w.params X ln3 k3)) 5 (spotO w.params X.kp (.int p3 k4)))
theorem lo6' : (fun r => Lk r [(0, X.lx, lexO X), (1, X.dx, lexD w.params X ln3 k3), (2, F.it, iterO F), (3, F.mo, methO X), (4, F.L, frm4z w.params X F T1 (.str ⟨#[c2 + 1]⟩ v) (.str ⟨#[c2 + 1]⟩ v)), (5, X.sp, spotO w.params X.kp (.int p3 k4))] (callOf r.out = some (codeB' w.params F)) (wtO r.out = 0)) (lo6 w b N0 T0 X Z F tt N1 T1 c k ln2 k1 p2 k2 N2 T2 c2 v ln3 k3 p3 k4) := by cases b <;> rfl'
@[irreducible] noncomputable def lp6 : Res := resumeZ (VV w b N2 T2) 300 [5, 5, 5, 5, 2, 5, 5, 5, 3, 3, 0, 3, 3, 1] [⟨cB "str.__add__" [.str ⟨#[]⟩ tt, .str ⟨#[c2 + 1]⟩ v], fun _ => .str ⟨#[c2 + 1]⟩ v, 0⟩] (lp5 w b N0 T0 X Z F tt cy cz N1 T1 c k ln2 k1 p2 k2).out (.ok (.ret (.str ⟨#[c2 + 1]⟩ v))) (put (put (lp5 w b N0 T0 X Z F tt cy cz N1 T1 c k ln2 k1 p2 k2).led 1 (lexD w.params X ln3 k3)) 5 (spotO w.params X.kp (.int p3 k4)))
theorem lp6' : (fun r => Lk r [(0, X.lx, lexO X), (1, X.dx, lexD w.params X ln3 k3), (2, F.it, iterO F), (3, F.mo, methO X), (4, F.L, frm4 w.params X F (.str ⟨#[c2 + 1]⟩ v) (.str ⟨#[c2 + 1]⟩ v)), (5, X.sp, spotO w.params X.kp (.int p3 k4))] (callOf r.out = some (codeB' w.params F)) (wtO r.out = 0)) (lp6 w b N0 T0 X Z F tt cy cz N1 T1 c k ln2 k1 p2 k2 N2 T2 c2 v ln3 k3 p3 k4) := by cases b <;> rfl'
@[irreducible] noncomputable def le1 : Res := startZ (VV w b N0 T0) 300 [3, 1] [] (codeO w.params F) (ledG w X Z F (frm3 w.params X F (.str ⟨#[]⟩ tt)))
theorem le1' : (fun r => Lk r [(1, X.dx, lexD w.params X Z.ln Z.tl), (5, X.sp, spotO w.params X.kp (.int Z.p Z.tp)), (0, X.lx, lexO X), (2, F.it, iterO F), (3, F.mo, methO X), (4, F.L, (frm3 w.params X F (.str ⟨#[]⟩ tt)))] (callOf r.out = some (cB "callable_iterator.__next__" [.ref F.it])) (wtO r.out = 0)) (le1 w b N0 T0 X Z F tt) := by cases b <;> rfl'
@[irreducible] noncomputable def le2 : Res := resumeZ (VV w b N1 T1) 100 [5] [] (le1 w b N0 T0 X Z F tt).out (.error (.ref e)) [(X.lx, lexO X), (X.dx, lexD w.params X ln2 k1), (F.L, frm3 w.params X F (.str ⟨#[]⟩ tt)), (X.sp, spotO w.params X.kp (.int p2 k2)), (e, stopO ts)]
theorem le2' : (fun r => Lk r [(0, X.lx, lexO X), (1, X.dx, lexD w.params X ln2 k1), (2, F.L, frm3 w.params X F (.str ⟨#[]⟩ tt)), (3, X.sp, spotO w.params X.kp (.int p2 k2))] (isAg r.out = true) ((agOf r.out).quiet = true)) (le2 w b N0 T0 X Z F tt N1 T1 ln2 k1 p2 k2 e ts) := by cases b <;> rfl'
@[irreducible] noncomputable def le3 : Res := startZ (VV w b N2 T2) 60 [] [] (agOf (le2 w b N0 T0 X Z F tt N1 T1 ln2 k1 p2 k2 e ts).out) (le2 w b N0 T0 X Z F tt N1 T1 ln2 k1 p2 k2 e ts).led
theorem le3' : (fun r => Lk r [(4, e, stopO ts), (0, X.lx, lexO X), (1, X.dx, lexD w.params X ln2 k1), (2, F.L, frm3 w.params X F (.str ⟨#[]⟩ tt)), (3, X.sp, spotO w.params X.kp (.int p2 k2))] (finOf r.out = some (.done .next)) (True)) (le3 w b N0 T0 X Z F tt N1 T1 ln2 k1 p2 k2 N2 T2 e ts) := by cases b <;> rfl'
@[irreducible] noncomputable def lo3r : Res := resumeZ (VV w b N2 T2) 60 [] [] (lo3 w b N0 T0 X Z F tt N1 T1 c k ln2 k1 p2 k2).out (.ok (.ret (.str y yk))) []
theorem lo3r' : (fun r => Lk r [] (finOf r.out = some (.done (.ret (.str y yk)))) (True)) (lo3r w b N0 T0 X Z F tt N1 T1 c k ln2 k1 p2 k2 N2 T2 y yk) := by cases b <;> rfl'
@[irreducible] noncomputable def lo4r : Res := resumeZ (VV w b N2 T2) 60 [] [] (lo4 w b N0 T0 X Z F tt N1 T1 c k ln2 k1 p2 k2).out (.ok (.ret (.str y yk))) []
theorem lo4r' : (fun r => Lk r [] (finOf r.out = some (.done (.ret (.str y yk)))) (True)) (lo4r w b N0 T0 X Z F tt N1 T1 c k ln2 k1 p2 k2 N2 T2 y yk) := by cases b <;> rfl'
@[irreducible] noncomputable def lo6r : Res := resumeZ (VV w b N3 T3) 60 [] [] (lo6 w b N0 T0 X Z F tt N1 T1 c k ln2 k1 p2 k2 N2 T2 c2 v ln3 k3 p3 k4).out (.ok (.ret (.str y yk))) []
theorem lo6r' : (fun r => Lk r [] (finOf r.out = some (.done (.ret (.str y yk)))) (True)) (lo6r w b N0 T0 X Z F tt N1 T1 c k ln2 k1 p2 k2 N2 T2 c2 v ln3 k3 p3 k4 y yk N3 T3) := by cases b <;> rfl'
@[irreducible] noncomputable def lp6r : Res := resumeZ (VV w b N3 T3) 60 [] [] (lp6 w b N0 T0 X Z F tt cy cz N1 T1 c k ln2 k1 p2 k2 N2 T2 c2 v ln3 k3 p3 k4).out (.ok (.ret (.str y yk))) []
theorem lp6r' : (fun r => Lk r [] (finOf r.out = some (.done (.ret (.str y yk)))) (True)) (lp6r w b N0 T0 X Z F tt cy cz N1 T1 c k ln2 k1 p2 k2 N2 T2 c2 v ln3 k3 p3 k4 y yk N3 T3) := by cases b <;> rfl'
end
theorem str_one (c : Nat) (u : List Nat) : (⟨#[c]⟩ : Str) ++ (⟨u.toArray⟩ : Str) = ⟨(c :: u).toArray⟩ := by
  apply Str.ext'
  simp [Str.cps_append]
theorem Got.after {w : World} {X : LX} {Z : LS} {F : FK} {tok tok' : Str} {p : Nat} {ln : Int} {h h1 h' : Heap} {k : Nat} (G : Got w X Z F tok p ln h (.ret (.str tok' k)) h1) (K : Kp [] h1 h') (e : tok' = tok) : Got w X Z F tok p ln h (.ret (.str tok' k)) h' := by
  obtain ⟨q, K1, a, b, L⟩ := G
  exact ⟨q, K1.trans K (fun a ha => nomatch ha), a, b, L.same K⟩
theorem Cur.nil {w : World} {h : Heap} (S : Sta w h) : Cur w h [] h [] := Cur.start (led := []) S (fun _ h => nomatch h) List.nodup_nil fun _ h => nomatch h
theorem loopA0 {w : World} {X : LX} {F : FK} (hl : 2 ≤ X.text.length) (hsz : X.text.length ≤ sizeLine) (c : Nat) (u : List Nat) (Z : LS) (tt : Nat) (cy : Str) (cz : Nat) (more : List Nat) (hrest : X.rest Z.p = (c + 1) :: u ++ 34 :: more) (hu : ∀ c' ∈ (c + 1) :: u, c' ≠ 0 ∧ c' ≠ 34 ∧ c' ≠ 92 ∧ c' ≠ 10) (htl : u.length + 2 ≤ sizeLine) :
    CtrF w 3 (codeA w.params F) (GAt w X Z F (frm4 w.params X F (.str ⟨#[]⟩ tt) (.str cy cz))) (Got w X Z F ⟨((c + 1) :: u).toArray⟩ (Z.p + u.length + 2) Z.ln) := by
  obtain ⟨hc, hr2⟩ := rest_cons hrest
  have hu0 := hu (c + 1) (.head _)
  have h10 : c + 1 ≠ 10 := by omega
  generalize htk : (⟨#[]⟩ : Str) = tk
  rintro A R ⟨h0, g, d, T, ost⟩ hA hd S G H
  obtain ⟨b, hb⟩ : ∃ b, w.params.followText "special-get-raises" = b := ⟨_, rfl⟩
  obtain ⟨N, hN⟩ : ∃ N, h0.objs.size = N := ⟨_, rfl⟩
  obtain ⟨ha, C0⟩ := G.cur S
  refine code_call C0 hb hA hN _ (la1.eq_1 w b N T X Z F tk tt cy cz) no_orc (la1' ..).s (la1' ..).o fun h1 N1 T1 hN1 C1 => ?_
  have K1 : Kp [] h0 h1 := by
    refine C1.fin ha ?_
    exact mC (.inr (C1.at' ((la1' ..).g 2 rfl))) (mC (.inr (C1.at' ((la1' ..).g 0 rfl))) (mC (.inr (C1.at' ((la1' ..).g 3 rfl))) (mC (.inr (C1.at' ((la1' ..).g 4 rfl))) (mC (.inr (C1.at' ((la1' ..).g 5 rfl))) (mC (.inr (C1.at' ((la1' ..).g 1 rfl))) mN)))))
  refine rcm (rcc_sign hc hl hsz) _ _ _ (aroO_handled hA _) (by first | exact room hd (la1' ..).e rfl | (rw [aroO_depth, (la1' ..).e]; omega)) C1.sta ⟨G.lex.same K1, C1.at' ((la1' ..).g 4 rfl)⟩ fun v h2 T2 hPP => ?_
  obtain ⟨⟨k, hv⟩, K2, k1, k2, L2⟩ := hPP
  subst hv
  obtain ⟨N2, hN2⟩ : ∃ N, h2.objs.size = N := ⟨_, rfl⟩
  have C2 := C1.chg2 (by decide) ((la1' ..).g 0 rfl) ((la1' ..).g 1 rfl) K2 L2.dx L2.sp
  subst htk
  refine res_fin C2 hb hA hN2 _ (la4.eq_1 w b N T X Z F ⟨#[]⟩ tt cy cz N2 T2 c k _ k1 (Z.p + 1) k2) ?_ (la4' ..).s (la4' ..).o fun h3 N3 T3 hN3 C3 => ?_
  · exact mC (oStrEq (by rfl)) (mC (oStrEq ((sEq_one _ _).trans (by simp; omega))) (mC (oStrEq ((sEq_one _ _).trans (by simp; omega))) (mC (oStrAdd0 rfl) mN)))
  have K : Kp [X.dx, X.sp, F.L] h0 h3 := by
    refine C3.fin ha ?_
    exact mC (.inr (C3.at' ((la4' ..).g 0 rfl))) (mC (.inl (by ac_rfl)) (mC (.inr (C3.at' ((la4' ..).g 2 rfl))) (mC (.inr (C3.at' ((la4' ..).g 3 rfl))) (mC (.inl (by ac_rfl)) (mC (.inl (by ac_rfl)) mN)))))
  have L3 := G.turn K (C3.at' ((la4' ..).g 1 rfl)) (C3.at' ((la4' ..).g 5 rfl))
  rw [if_neg h10, Int.add_zero] at L3
  have ih' := loopA (w := w) (F := F) hl hsz u { Z with ln := Z.ln, tl := k1, p := Z.p + 1, tp := k2 } ⟨#[c + 1]⟩ k ⟨#[c + 1]⟩ k 34 more hr2 (fun c hc => hu c (.tail _ hc)) rfl (by rfl) (by show 1 + u.length + 1 ≤ _; omega)
  refine ⟨rfl, ih' _ _ _ hA hd C3.sta (G.next K L3 (C3.at' ((la4' ..).g 4 rfl))) fun f h' t' P => H f h' t' ?_⟩
  have P := P.step K
  rw [str_one, show Z.p + 1 + u.length + 1 = Z.p + u.length + 2 by omega, if_neg (by decide), Int.add_zero] at P
  exact P
theorem outer_plain {w : World} {X : LX} {F : FK} (hl : 2 ≤ X.text.length) (hsz : X.text.length ≤ sizeLine) (tk : Str) (cy : Str) (cz : Nat) (c : Nat) (u : List Nat) (Z : LS) (tt : Nat) (more : List Nat) (e : Nat) (hrest : X.rest Z.p = (c + 1) :: u ++ e :: more) (h0c : isWs (c + 1) = false ∧ c + 1 ≠ 34 ∧ c + 1 ≠ 92) (hu : ∀ c ∈ u, c ≠ 0 ∧ isWs c = false ∧ c ≠ 92 ∧ c ≠ 10) (he : isWs e = true) (htl : u.length + 2 ≤ sizeLine) :
    CtrF w 3 (codeO w.params F) (GAt w X Z F (frm3 w.params X F (.str ⟨#[]⟩ tt))) (Got w X Z F ⟨((c + 1) :: u).toArray⟩ (Z.p + u.length + 2) (Z.ln + if e = 10 then 1 else 0)) := by
  obtain ⟨hc, hr2⟩ := rest_cons hrest
  have h10 : c + 1 ≠ 10 := by have := h0c.1; unfold isWs at this; simp at this; omega
  rintro A R ⟨h0, g, d, T, ost⟩ hA hd S G H
  obtain ⟨b, hb⟩ : ∃ b, w.params.followText "special-get-raises" = b := ⟨_, rfl⟩
  obtain ⟨N, hN⟩ : ∃ N, h0.objs.size = N := ⟨_, rfl⟩
  obtain ⟨ha, C0⟩ := G.cur S
  refine code_call C0 hb hA hN _ (lo1.eq_1 w b N T X Z F tt) no_orc (lo1' ..).s (lo1' ..).o fun h1 N1 T1 hN1 C1 => ?_
  have K1 : Kp [] h0 h1 := by
    refine C1.fin ha ?_
    exact mC (.inr (C1.at' ((lo1' ..).g 2 rfl))) (mC (.inr (C1.at' ((lo1' ..).g 0 rfl))) (mC (.inr (C1.at' ((lo1' ..).g 3 rfl))) (mC (.inr (C1.at' ((lo1' ..).g 4 rfl))) (mC (.inr (C1.at' ((lo1' ..).g 5 rfl))) (mC (.inr (C1.at' ((lo1' ..).g 1 rfl))) mN)))))
  refine rcm (rcc_sign hc hl hsz) _ _ _ (aroO_handled hA _) (by first | exact room hd (lo1' ..).e rfl | (rw [aroO_depth, (lo1' ..).e]; omega)) C1.sta ⟨G.lex.same K1, C1.at' ((lo1' ..).g 4 rfl)⟩ fun v h2 T2 hPP => ?_
  obtain ⟨⟨k, hv⟩, K2, k1, k2, L2⟩ := hPP
  subst hv
  obtain ⟨N2, hN2⟩ : ∃ N, h2.objs.size = N := ⟨_, rfl⟩
  have C2 := C1.chg2 (by decide) ((lo1' ..).g 0 rfl) ((lo1' ..).g 1 rfl) K2 L2.dx L2.sp
  refine res_call C2 hb hA hN2 _ (lo3.eq_1 w b N T X Z F tt N2 T2 c k _ k1 (Z.p + 1) k2) ?_ (lo3' ..).s (lo3' ..).o fun h3 N3 T3 hN3 C3 => ?_
  · exact mC (oStrEq (by rfl)) (mC (oStrIn ((in_ws _).trans h0c.1)) (mC (oStrEq ((sEq_one _ _).trans (by simp; omega))) (mC (oStrEq ((sEq_one _ _).trans (by simp; omega))) (mC (oStrAdd0 rfl) mN))))
  have K : Kp [X.dx, X.sp, F.L] h0 h3 := by
    refine C3.fin ha ?_
    exact mC (.inr (C3.at' ((lo3' ..).g 0 rfl))) (mC (.inl (by ac_rfl)) (mC (.inr (C3.at' ((lo3' ..).g 2 rfl))) (mC (.inr (C3.at' ((lo3' ..).g 3 rfl))) (mC (.inl (by ac_rfl)) (mC (.inl (by ac_rfl)) mN)))))
  have L3 := G.turn K (C3.at' ((lo3' ..).g 1 rfl)) (C3.at' ((lo3' ..).g 5 rfl))
  have G3 := (G.next K L3 ((C3.at' ((lo3' ..).g 4 rfl)).trans (congrArg some (frm4z_is ..)))).f4 T2
  rw [if_neg h10, Int.add_zero] at G3
  refine loopB (w := w) (F := { F with f4 := T2 }) hl hsz u { Z with ln := Z.ln, tl := k1, p := Z.p + 1, tp := k2 } ⟨#[c + 1]⟩ k ⟨#[c + 1]⟩ k e more hr2 hu he (by rfl) (by show 1 + u.length + 1 ≤ _; omega) _ _ _ (aroO_handled hA _) (by first | exact room hd (lo3' ..).e rfl | (rw [aroO_depth, (lo3' ..).e]; omega)) C3.sta G3 fun f h4 T4 P => ?_
  have P' := P
  obtain ⟨⟨yk, rfl⟩, K4, tl4, tp4, L4⟩ := P'
  obtain ⟨N4, hN4⟩ : ∃ N, h4.objs.size = N := ⟨_, rfl⟩
  have S4 : Sta w h4 := C3.sta.kp K4 (by
    exact mC (G.lex.off _ (by ac_rfl)) (mC (G.lex.off _ (by ac_rfl)) (mC (G.off.2.2) mN)))
  refine res_fin (Cur.nil S4) hb hA rfl _ (lo3r.eq_1 w b N T X Z F tt N2 T2 c k _ k1 (Z.p + 1) k2 h4.objs.size T4 _ yk) no_orc (lo3r' ..).s (lo3r' ..).o fun h5 N5 T5 hN5 C5 => ?_
  have Q := Got.step (F := F) K P
  rw [str_one] at Q ⊢
  exact H _ _ _ ((Q.after C5.kp rfl).cast (show Z.p + 1 + u.length + 1 = Z.p + u.length + 2 by omega) rfl)
theorem outer_quote {w : World} {X : LX} {F : FK} (hl : 2 ≤ X.text.length) (hsz : X.text.length ≤ sizeLine) (tk : Str) (cy : Str) (cz : Nat) (c : Nat) (u : List Nat) (Z : LS) (tt : Nat) (more : List Nat) (hrest : X.rest Z.p = 34 :: (c + 1) :: u ++ 34 :: more) (hu : ∀ c' ∈ (c + 1) :: u, c' ≠ 0 ∧ c' ≠ 34 ∧ c' ≠ 92 ∧ c' ≠ 10) (htl : u.length + 2 ≤ sizeLine) :
    CtrF w 3 (codeO w.params F) (GAt w X Z F (frm3 w.params X F (.str ⟨#[]⟩ tt))) (Got w X Z F ⟨((c + 1) :: u).toArray⟩ (Z.p + u.length + 3) Z.ln) := by
  obtain ⟨hc, hr2⟩ := rest_cons hrest
  rintro A R ⟨h0, g, d, T, ost⟩ hA hd S G H
  obtain ⟨b, hb⟩ : ∃ b, w.params.followText "special-get-raises" = b := ⟨_, rfl⟩
  obtain ⟨N, hN⟩ : ∃ N, h0.objs.size = N := ⟨_, rfl⟩
  obtain ⟨ha, C0⟩ := G.cur S
  refine code_call C0 hb hA hN _ (lo1.eq_1 w b N T X Z F tt) no_orc (lo1' ..).s (lo1' ..).o fun h1 N1 T1 hN1 C1 => ?_
  have K1 : Kp [] h0 h1 := by
    refine C1.fin ha ?_
    exact mC (.inr (C1.at' ((lo1' ..).g 2 rfl))) (mC (.inr (C1.at' ((lo1' ..).g 0 rfl))) (mC (.inr (C1.at' ((lo1' ..).g 3 rfl))) (mC (.inr (C1.at' ((lo1' ..).g 4 rfl))) (mC (.inr (C1.at' ((lo1' ..).g 5 rfl))) (mC (.inr (C1.at' ((lo1' ..).g 1 rfl))) mN)))))
  refine rcm (rcc_sign hc hl hsz) _ _ _ (aroO_handled hA _) (by first | exact room hd (lo1' ..).e rfl | (rw [aroO_depth, (lo1' ..).e]; omega)) C1.sta ⟨G.lex.same K1, C1.at' ((lo1' ..).g 4 rfl)⟩ fun v h2 T2 hPP => ?_
  obtain ⟨⟨k, hv⟩, K2, k1, k2, L2⟩ := hPP
  subst hv
  obtain ⟨N2, hN2⟩ : ∃ N, h2.objs.size = N := ⟨_, rfl⟩
  have C2 := C1.chg2 (by decide) ((lo1' ..).g 0 rfl) ((lo1' ..).g 1 rfl) K2 L2.dx L2.sp
  refine res_call C2 hb hA hN2 _ (lo4.eq_1 w b N T X Z F tt N2 T2 33 k _ k1 (Z.p + 1) k2) ?_ (lo4' ..).s (lo4' ..).o fun h3 N3 T3 hN3 C3 => ?_
  · exact mC (oStrEq (by rfl)) (mC (oStrIn ((in_ws _).trans rfl)) (mC (oStrEq (by rfl)) mN))
  have K : Kp [X.dx, X.sp, F.L] h0 h3 := by
    refine C3.fin ha ?_
    exact mC (.inr (C3.at' ((lo4' ..).g 0 rfl))) (mC (.inl (by ac_rfl)) (mC (.inr (C3.at' ((lo4' ..).g 2 rfl))) (mC (.inr (C3.at' ((lo4' ..).g 3 rfl))) (mC (.inl (by ac_rfl)) (mC (.inl (by ac_rfl)) mN)))))
  have L3 := G.turn K (C3.at' ((lo4' ..).g 1 rfl)) (C3.at' ((lo4' ..).g 5 rfl))
  have G3 := (G.next K L3 ((C3.at' ((lo4' ..).g 4 rfl)).trans (congrArg some (frm4z_is ..)))).f4 T2
  rw [if_neg (by decide), Int.add_zero] at G3
  refine loopA0 (w := w) (F := { F with f4 := T2 }) hl hsz c u { Z with ln := Z.ln, tl := k1, p := Z.p + 1, tp := k2 } tt _ _ more hr2 hu htl _ _ _ (aroO_handled hA _) (by first | exact room hd (lo4' ..).e rfl | (rw [aroO_depth, (lo4' ..).e]; omega)) C3.sta G3 fun f h4 T4 P => ?_
  have P' := P
  obtain ⟨⟨yk, rfl⟩, K4, tl4, tp4, L4⟩ := P'
  obtain ⟨N4, hN4⟩ : ∃ N, h4.objs.size = N := ⟨_, rfl⟩
  have S4 : Sta w h4 := C3.sta.kp K4 (by
    exact mC (G.lex.off _ (by ac_rfl)) (mC (G.lex.off _ (by ac_rfl)) (mC (G.off.2.2) mN)))
  refine res_fin (Cur.nil S4) hb hA rfl _ (lo4r.eq_1 w b N T X Z F tt N2 T2 33 k _ k1 (Z.p + 1) k2 h4.objs.size T4 _ yk) no_orc (lo4r' ..).s (lo4r' ..).o fun h5 N5 T5 hN5 C5 => ?_
  have Q := Got.step (F := F) K P
  exact H _ _ _ ((Q.after C5.kp rfl).cast (show Z.p + 1 + u.length + 2 = Z.p + u.length + 3 by omega) rfl)
theorem outer_esc {w : World} {X : LX} {F : FK} (hl : 2 ≤ X.text.length) (hsz : X.text.length ≤ sizeLine) (tk : Str) (cy : Str) (cz : Nat) (c : Nat) (u : List Nat) (Z : LS) (tt : Nat) (more : List Nat) (e : Nat) (hrest : X.rest Z.p = 92 :: (c + 1) :: u ++ e :: more) (h10 : c + 1 ≠ 10) (hu : ∀ c ∈ u, c ≠ 0 ∧ isWs c = false ∧ c ≠ 92 ∧ c ≠ 10) (he : isWs e = true) (htl : u.length + 2 ≤ sizeLine) :
    CtrF w 3 (codeO w.params F) (GAt w X Z F (frm3 w.params X F (.str ⟨#[]⟩ tt))) (Got w X Z F ⟨((c + 1) :: u).toArray⟩ (Z.p + u.length + 3) (Z.ln + if e = 10 then 1 else 0)) := by
  obtain ⟨hc, hr1⟩ := rest_cons hrest
  obtain ⟨hc2, hr2⟩ := rest_cons hr1
  rintro A R ⟨h0, g, d, T, ost⟩ hA hd S G H
  obtain ⟨b, hb⟩ : ∃ b, w.params.followText "special-get-raises" = b := ⟨_, rfl⟩
  obtain ⟨N, hN⟩ : ∃ N, h0.objs.size = N := ⟨_, rfl⟩
  obtain ⟨ha, C0⟩ := G.cur S
  refine code_call C0 hb hA hN _ (lo1.eq_1 w b N T X Z F tt) no_orc (lo1' ..).s (lo1' ..).o fun h1 N1 T1 hN1 C1 => ?_
  have K1 : Kp [] h0 h1 := by
    refine C1.fin ha ?_
    exact mC (.inr (C1.at' ((lo1' ..).g 2 rfl))) (mC (.inr (C1.at' ((lo1' ..).g 0 rfl))) (mC (.inr (C1.at' ((lo1' ..).g 3 rfl))) (mC (.inr (C1.at' ((lo1' ..).g 4 rfl))) (mC (.inr (C1.at' ((lo1' ..).g 5 rfl))) (mC (.inr (C1.at' ((lo1' ..).g 1 rfl))) mN)))))
  refine rcm (rcc_sign hc hl hsz) _ _ _ (aroO_handled hA _) (by first | exact room hd (lo1' ..).e rfl | (rw [aroO_depth, (lo1' ..).e]; omega)) C1.sta ⟨G.lex.same K1, C1.at' ((lo1' ..).g 4 rfl)⟩ fun v h2 T2 hPP => ?_
  obtain ⟨⟨k, hv⟩, K2, k1, k2, L2⟩ := hPP
  subst hv
  obtain ⟨N2, hN2⟩ : ∃ N, h2.objs.size = N := ⟨_, rfl⟩
  have C2 := C1.chg2 (by decide) ((lo1' ..).g 0 rfl) ((lo1' ..).g 1 rfl) K2 L2.dx L2.sp
  refine res_call C2 hb hA hN2 _ (lo5.eq_1 w b N T X Z F tt N2 T2 91 k _ k1 (Z.p + 1) k2) ?_ (lo5' ..).s (lo5' ..).o fun h3 N3 T3 hN3 C3 => ?_
  · exact mC (oStrEq (by rfl)) (mC (oStrIn ((in_ws _).trans rfl)) (mC (oStrEq (by rfl)) (mC (oStrEq (by rfl)) mN)))
  have K : Kp [X.dx, X.sp, F.L] h0 h3 := by
    refine C3.fin ha ?_
    exact mC (.inr (C3.at' ((lo5' ..).g 0 rfl))) (mC (.inl (by ac_rfl)) (mC (.inr (C3.at' ((lo5' ..).g 2 rfl))) (mC (.inr (C3.at' ((lo5' ..).g 3 rfl))) (mC (.inl (by ac_rfl)) (mC (.inl (by ac_rfl)) mN)))))
  have L3 := G.turn K (C3.at' ((lo5' ..).g 1 rfl)) (C3.at' ((lo5' ..).g 5 rfl))
  have G3 := (G.next K L3 ((C3.at' ((lo5' ..).g 4 rfl)).trans (congrArg some (frm4z_is ..)))).f4 T2
  refine rcc_sign (Z := { Z with ln := _, tl := k1, p := Z.p + 1, tp := k2 }) hc2 hl hsz _ _ _ (aroO_handled hA _) (by first | exact room hd (lo5' ..).e rfl | (rw [aroO_depth, (lo5' ..).e]; omega)) C3.sta L3 fun v h4 T4 hPP => ?_
  obtain ⟨⟨v4, hv⟩, K4, k3, k4, L4⟩ := hPP
  subst hv
  have C4 := C3.chg2 (by decide) ((lo5' ..).g 1 rfl) ((lo5' ..).g 5 rfl) K4 L4.dx L4.sp
  refine res_call C4 hb hA rfl _ (lo6.eq_1 w b N T X Z F tt N2 T2 91 k _ k1 (Z.p + 1) k2 h4.objs.size T4 c v4 _ k3 (Z.p + 1 + 1) k4) ?_ (lo6' ..).s (lo6' ..).o fun h5 N5 T5 hN5 C5 => ?_
  · exact mC (oStrAdd0 rfl) mN
  have K5 : Kp [X.dx, X.sp, F.L] h0 h5 := by
    refine C5.fin ha ?_
    exact mC (.inr (C5.at' ((lo6' ..).g 0 rfl))) (mC (.inl (by ac_rfl)) (mC (.inr (C5.at' ((lo6' ..).g 2 rfl))) (mC (.inr (C5.at' ((lo6' ..).g 3 rfl))) (mC (.inl (by ac_rfl)) (mC (.inl (by ac_rfl)) mN)))))
  have L5 := G.turn K5 (C5.at' ((lo6' ..).g 1 rfl)) (C5.at' ((lo6' ..).g 5 rfl))
  have G5 := (G.next K5 L5 ((C5.at' ((lo6' ..).g 4 rfl)).trans (congrArg some (frm4z_is ..)))).f4 T2
  refine loopB (w := w) (F := { F with f4 := T2 }) hl hsz u { Z with ln := _, tl := k3, p := Z.p + 1 + 1, tp := k4 } ⟨#[c + 1]⟩ v4 ⟨#[c + 1]⟩ v4 e more hr2 hu he (by rfl) (by show 1 + u.length + 1 ≤ _; omega) _ _ _ (aroO_handled hA _) (by first | exact room hd (lo6' ..).e rfl | (rw [aroO_depth, (lo6' ..).e]; omega)) C5.sta G5 fun f h6 T6 P => ?_
  have P' := P
  obtain ⟨⟨yk, rfl⟩, K6, tl6, tp6, L6⟩ := P'
  have S6 : Sta w h6 := C5.sta.kp K6 (by
    exact mC (G.lex.off _ (by ac_rfl)) (mC (G.lex.off _ (by ac_rfl)) (mC (G.off.2.2) mN)))
  refine res_fin (Cur.nil S6) hb hA rfl _ (lo6r.eq_1 w b N T X Z F tt N2 T2 91 k _ k1 (Z.p + 1) k2 h4.objs.size T4 c v4 _ k3 (Z.p + 1 + 1) k4 _ yk h6.objs.size T6) no_orc (lo6r' ..).s (lo6r' ..).o fun h7 N7 T7 hN7 C7 => ?_
  have Q := Got.step (F := F) K5 P
  rw [str_one] at Q ⊢
  exact H _ _ _ ((Q.after C7.kp rfl).cast (show Z.p + 1 + 1 + u.length + 1 = Z.p + u.length + 3 by omega) (by simp [h10]; try omega))
theorem outer_esc4 {w : World} {X : LX} {F : FK} (hl : 2 ≤ X.text.length) (hsz : X.text.length ≤ sizeLine) (tk : Str) (cy : Str) (cz : Nat) (c : Nat) (u : List Nat) (Z : LS) (tt : Nat) (more : List Nat) (e : Nat) (hrest : X.rest Z.p = 92 :: (c + 1) :: u ++ e :: more) (h10 : c + 1 ≠ 10) (hu : ∀ c ∈ u, c ≠ 0 ∧ isWs c = false ∧ c ≠ 92 ∧ c ≠ 10) (he : isWs e = true) (htl : u.length + 2 ≤ sizeLine) :
    CtrF w 3 (codeO w.params F) (GAt w X Z F (frm4 w.params X F (.str ⟨#[]⟩ tt) (.str cy cz))) (Got w X Z F ⟨((c + 1) :: u).toArray⟩ (Z.p + u.length + 3) (Z.ln + if e = 10 then 1 else 0)) := by
  obtain ⟨hc, hr1⟩ := rest_cons hrest
  obtain ⟨hc2, hr2⟩ := rest_cons hr1
  rintro A R ⟨h0, g, d, T, ost⟩ hA hd S G H
  obtain ⟨b, hb⟩ : ∃ b, w.params.followText "special-get-raises" = b := ⟨_, rfl⟩
  obtain ⟨N, hN⟩ : ∃ N, h0.objs.size = N := ⟨_, rfl⟩
  obtain ⟨ha, C0⟩ := G.cur S
  refine code_call C0 hb hA hN _ (lp1.eq_1 w b N T X Z F tt cy cz) no_orc (lp1' ..).s (lp1' ..).o fun h1 N1 T1 hN1 C1 => ?_
  have K1 : Kp [] h0 h1 := by
    refine C1.fin ha ?_
    exact mC (.inr (C1.at' ((lp1' ..).g 2 rfl))) (mC (.inr (C1.at' ((lp1' ..).g 0 rfl))) (mC (.inr (C1.at' ((lp1' ..).g 3 rfl))) (mC (.inr (C1.at' ((lp1' ..).g 4 rfl))) (mC (.inr (C1.at' ((lp1' ..).g 5 rfl))) (mC (.inr (C1.at' ((lp1' ..).g 1 rfl))) mN)))))
  refine rcm (rcc_sign hc hl hsz) _ _ _ (aroO_handled hA _) (by first | exact room hd (lp1' ..).e rfl | (rw [aroO_depth, (lp1' ..).e]; omega)) C1.sta ⟨G.lex.same K1, C1.at' ((lp1' ..).g 4 rfl)⟩ fun v h2 T2 hPP => ?_
  obtain ⟨⟨k, hv⟩, K2, k1, k2, L2⟩ := hPP
  subst hv
  obtain ⟨N2, hN2⟩ : ∃ N, h2.objs.size = N := ⟨_, rfl⟩
  have C2 := C1.chg2 (by decide) ((lp1' ..).g 0 rfl) ((lp1' ..).g 1 rfl) K2 L2.dx L2.sp
  refine res_call C2 hb hA hN2 _ (lp5.eq_1 w b N T X Z F tt cy cz N2 T2 91 k _ k1 (Z.p + 1) k2) ?_ (lp5' ..).s (lp5' ..).o fun h3 N3 T3 hN3 C3 => ?_
  · exact mC (oStrEq (by rfl)) (mC (oStrIn ((in_ws _).trans rfl)) (mC (oStrEq (by rfl)) (mC (oStrEq (by rfl)) mN)))
  have K : Kp [X.dx, X.sp, F.L] h0 h3 := by
    refine C3.fin ha ?_
    exact mC (.inr (C3.at' ((lp5' ..).g 0 rfl))) (mC (.inl (by ac_rfl)) (mC (.inr (C3.at' ((lp5' ..).g 2 rfl))) (mC (.inr (C3.at' ((lp5' ..).g 3 rfl))) (mC (.inl (by ac_rfl)) (mC (.inl (by ac_rfl)) mN)))))
  have L3 := G.turn K (C3.at' ((lp5' ..).g 1 rfl)) (C3.at' ((lp5' ..).g 5 rfl))
  have G3 := G.next K L3 (C3.at' ((lp5' ..).g 4 rfl))
  refine rcc_sign (Z := { Z with ln := _, tl := k1, p := Z.p + 1, tp := k2 }) hc2 hl hsz _ _ _ (aroO_handled hA _) (by first | exact room hd (lp5' ..).e rfl | (rw [aroO_depth, (lp5' ..).e]; omega)) C3.sta L3 fun v h4 T4 hPP => ?_
  obtain ⟨⟨v4, hv⟩, K4, k3, k4, L4⟩ := hPP
  subst hv
  have C4 := C3.chg2 (by decide) ((lp5' ..).g 1 rfl) ((lp5' ..).g 5 rfl) K4 L4.dx L4.sp
  refine res_call C4 hb hA rfl _ (lp6.eq_1 w b N T X Z F tt cy cz N2 T2 91 k _ k1 (Z.p + 1) k2 h4.objs.size T4 c v4 _ k3 (Z.p + 1 + 1) k4) ?_ (lp6' ..).s (lp6' ..).o fun h5 N5 T5 hN5 C5 => ?_
  · exact mC (oStrAdd0 rfl) mN
  have K5 : Kp [X.dx, X.sp, F.L] h0 h5 := by
    refine C5.fin ha ?_
    exact mC (.inr (C5.at' ((lp6' ..).g 0 rfl))) (mC (.inl (by ac_rfl)) (mC (.inr (C5.at' ((lp6' ..).g 2 rfl))) (mC (.inr (C5.at' ((lp6' ..).g 3 rfl))) (mC (.inl (by ac_rfl)) (mC (.inl (by ac_rfl)) mN)))))
  have L5 := G.turn K5 (C5.at' ((lp6' ..).g 1 rfl)) (C5.at' ((lp6' ..).g 5 rfl))
  have G5 := (G.next K5 L5 (C5.at' ((lp6' ..).g 4 rfl)))
  refine loopB (w := w) (F := F) hl hsz u { Z with ln := _, tl := k3, p := Z.p + 1 + 1, tp := k4 } ⟨#[c + 1]⟩ v4 ⟨#[c + 1]⟩ v4 e more hr2 hu he (by rfl) (by show 1 + u.length + 1 ≤ _; omega) _ _ _ (aroO_handled hA _) (by first | exact room hd (lp6' ..).e rfl | (rw [aroO_depth, (lp6' ..).e]; omega)) C5.sta G5 fun f h6 T6 P => ?_
  have P' := P
  obtain ⟨⟨yk, rfl⟩, K6, tl6, tp6, L6⟩ := P'
  have S6 : Sta w h6 := C5.sta.kp K6 (by
    exact mC (G.lex.off _ (by ac_rfl)) (mC (G.lex.off _ (by ac_rfl)) (mC (G.off.2.2) mN)))
  refine res_fin (Cur.nil S6) hb hA rfl _ (lp6r.eq_1 w b N T X Z F tt cy cz N2 T2 91 k _ k1 (Z.p + 1) k2 h4.objs.size T4 c v4 _ k3 (Z.p + 1 + 1) k4 _ yk h6.objs.size T6) no_orc (lp6r' ..).s (lp6r' ..).o fun h7 N7 T7 hN7 C7 => ?_
  have Q := Got.step (F := F) K5 P
  rw [str_one] at Q ⊢
  exact H _ _ _ ((Q.after C7.kp rfl).cast (show Z.p + 1 + 1 + u.length + 1 = Z.p + u.length + 3 by omega) (by simp [h10]; try omega))
theorem outer_blank {w : World} {X : LX} {F : FK} (hl : 2 ≤ X.text.length) (hsz : X.text.length ≤ sizeLine) (tk : Str) (cy : Str) (cz : Nat) (c : Nat) (u : List Nat) (Z : LS) (tt : Nat) (more : List Nat) (e : Nat) (hrest : X.rest Z.p = 10 :: 92 :: (c + 1) :: u ++ e :: more) (h10 : c + 1 ≠ 10) (hu : ∀ c ∈ u, c ≠ 0 ∧ isWs c = false ∧ c ≠ 92 ∧ c ≠ 10) (he : isWs e = true) (htl : u.length + 2 ≤ sizeLine) :
    CtrF w 3 (codeO w.params F) (GAt w X Z F (frm3 w.params X F (.str ⟨#[]⟩ tt))) (Got w X Z F ⟨((c + 1) :: u).toArray⟩ (Z.p + u.length + 4) (Z.ln + 1 + if e = 10 then 1 else 0)) := by
  obtain ⟨hc, hr1⟩ := rest_cons hrest
  rintro A R ⟨h0, g, d, T, ost⟩ hA hd S G H
  obtain ⟨b, hb⟩ : ∃ b, w.params.followText "special-get-raises" = b := ⟨_, rfl⟩
  obtain ⟨N, hN⟩ : ∃ N, h0.objs.size = N := ⟨_, rfl⟩
  obtain ⟨ha, C0⟩ := G.cur S
  refine code_call C0 hb hA hN _ (lo1.eq_1 w b N T X Z F tt) no_orc (lo1' ..).s (lo1' ..).o fun h1 N1 T1 hN1 C1 => ?_
  have K1 : Kp [] h0 h1 := by
    refine C1.fin ha ?_
    exact mC (.inr (C1.at' ((lo1' ..).g 2 rfl))) (mC (.inr (C1.at' ((lo1' ..).g 0 rfl))) (mC (.inr (C1.at' ((lo1' ..).g 3 rfl))) (mC (.inr (C1.at' ((lo1' ..).g 4 rfl))) (mC (.inr (C1.at' ((lo1' ..).g 5 rfl))) (mC (.inr (C1.at' ((lo1' ..).g 1 rfl))) mN)))))
  refine rcm (rcc_sign hc hl hsz) _ _ _ (aroO_handled hA _) (by first | exact room hd (lo1' ..).e rfl | (rw [aroO_depth, (lo1' ..).e]; omega)) C1.sta ⟨G.lex.same K1, C1.at' ((lo1' ..).g 4 rfl)⟩ fun v h2 T2 hPP => ?_
  obtain ⟨⟨k, hv⟩, K2, k1, k2, L2⟩ := hPP
  subst hv
  obtain ⟨N2, hN2⟩ : ∃ N, h2.objs.size = N := ⟨_, rfl⟩
  have C2 := C1.chg2 (by decide) ((lo1' ..).g 0 rfl) ((lo1' ..).g 1 rfl) K2 L2.dx L2.sp
  refine res_fin C2 hb hA hN2 _ (lo2.eq_1 w b N T X Z F tt N2 T2 9 k _ k1 (Z.p + 1) k2) ?_ (lo2' ..).s (lo2' ..).o fun h3 N3 T3 hN3 C3 => ?_
  · exact mC (oStrEq (by rfl)) (mC (oStrIn ((in_ws _).trans rfl)) mN)
  have K : Kp [X.dx, X.sp, F.L] h0 h3 := by
    refine C3.fin ha ?_
    exact mC (.inr (C3.at' ((lo2' ..).g 0 rfl))) (mC (.inl (by ac_rfl)) (mC (.inr (C3.at' ((lo2' ..).g 2 rfl))) (mC (.inr (C3.at' ((lo2' ..).g 3 rfl))) (mC (.inl (by ac_rfl)) (mC (.inl (by ac_rfl)) mN)))))
  have L3 := G.turn K (C3.at' ((lo2' ..).g 1 rfl)) (C3.at' ((lo2' ..).g 5 rfl))
  have G3 := (G.next K L3 ((C3.at' ((lo2' ..).g 4 rfl)).trans (congrArg some (frm4z_is ..)))).f4 T2
  refine ⟨rfl, outer_esc4 (w := w) (F := { F with f4 := T2 }) hl hsz tk _ _ c u { Z with ln := _, tl := k1, p := Z.p + 1, tp := k2 } tt more e hr1 h10 hu he htl _ _ _ hA hd C3.sta G3 fun f h' t' P => H f h' t' ?_⟩
  have Q := Got.step (F := F) K P
  exact Q.cast (show Z.p + 1 + u.length + 3 = Z.p + u.length + 4 by omega) (by ac_rfl)
theorem outer_end {w : World} {X : LX} {F : FK} (hl : 2 ≤ X.text.length) (hsz : X.text.length ≤ sizeLine) (tk : Str) (cy : Str) (cz : Nat) (Z : LS) (tt : Nat) (hp : Z.p = X.text.length) :
    CtrF w 3 (codeO w.params F) (GAt w X Z F (frm3 w.params X F (.str ⟨#[]⟩ tt))) (fun h f h' => f = .next ∧ Kp [X.dx, X.sp, F.it] h h' ∧ ∃ tl tq, LexAt w X { Z with tl := tl, tp := tq } h') := by
  rintro A R ⟨h0, g, d, T, ost⟩ hA hd S G H
  obtain ⟨b, hb⟩ : ∃ b, w.params.followText "special-get-raises" = b := ⟨_, rfl⟩
  obtain ⟨N, hN⟩ : ∃ N, h0.objs.size = N := ⟨_, rfl⟩
  obtain ⟨ha, C0⟩ := G.cur S
  refine code_call C0 hb hA hN _ (le1.eq_1 w b N T X Z F tt) no_orc (le1' ..).s (le1' ..).o fun h1 N1 T1 hN1 C1 => ?_
  have K1 : Kp [] h0 h1 := by
    refine C1.fin ha ?_
    exact mC (.inr (C1.at' ((le1' ..).g 2 rfl))) (mC (.inr (C1.at' ((le1' ..).g 0 rfl))) (mC (.inr (C1.at' ((le1' ..).g 3 rfl))) (mC (.inr (C1.at' ((le1' ..).g 4 rfl))) (mC (.inr (C1.at' ((le1' ..).g 5 rfl))) (mC (.inr (C1.at' ((le1' ..).g 1 rfl))) mN)))))
  have G1 : GAt w X Z F (frm3 w.params X F (.str ⟨#[]⟩ tt)) h1 := ⟨G.lex.same K1, K1.get G.it (fun h => nomatch h), K1.get G.mo (fun h => nomatch h), K1.get G.L (fun h => nomatch h), G.nd, G.off⟩
  refine cNextEnd G1 C1.sta (aroO_handled hA _) (by first | exact room hd (le1' ..).e rfl | (rw [aroO_depth, (le1' ..).e]; omega)) hp hl hsz fun h2 T2 e ts K2 ⟨k1, k2, L2⟩ he hne => ?_
  have nd := G.nd
  have S2 : Sta w h2 := C1.sta.kp K2 (by
    exact mC (G.lex.off _ (by ac_rfl)) (mC (G.lex.off _ (by ac_rfl)) (mC (G.off.1) mN)))
  have l2 : h2.get? F.L = some (frm3 w.params X F (.str ⟨#[]⟩ tt)) := K2.get G1.L (by
    simp only [List.mem_cons, nmn, or_false, not_or]
    exact ⟨nd_ne nd 4 1 rfl rfl (by decide), nd_ne nd 4 12 rfl rfl (by decide), nd_ne nd 4 2 rfl rfl (by decide)⟩)
  have e1 : ∀ a o, h1.get? a = some o → e ≠ a := fun a o q z => absurd (Heap.lt_size q) (by rw [← z]; exact Nat.not_lt.mpr hne)
  have ha2 : ∀ p ∈ [(X.lx, lexO X), (X.dx, lexD w.params X Z.ln k1), (F.L, frm3 w.params X F (.str ⟨#[]⟩ tt)), (X.sp, spotO w.params X.kp (.int Z.p k2)), (e, stopO ts)], h2.get? p.1 = some p.2 := by
    exact mC (L2.lx) (mC (L2.dx) (mC (l2) (mC (L2.sp) (mC (he) mN))))
  have C2 := Cur.start S2 ha2 (by
    show [X.lx, X.dx, F.L, X.sp, e].Nodup
    have n4 : [X.lx, X.dx, F.L, X.sp].Nodup := List.Sublist.nodup (by repeat (first | exact List.nil_sublist _ | refine List.Sublist.cons_cons _ ?_ | refine List.Sublist.cons _ ?_)) nd
    rw [show [X.lx, X.dx, F.L, X.sp, e] = [X.lx, X.dx, F.L, X.sp] ++ [e] from rfl]
    refine List.nodup_append.mpr ⟨n4, by simp, ?_⟩
    simp only [fmc, nmn]
    exact ⟨⟨(e1 _ _ G1.lex.lx).symm, fun _ h => h.elim⟩, ⟨(e1 _ _ G1.lex.dx).symm, fun _ h => h.elim⟩, ⟨(e1 _ _ G1.L).symm, fun _ h => h.elim⟩, ⟨(e1 _ _ G1.lex.sp).symm, fun _ h => h.elim⟩, fun _ h => h.elim⟩) (by
    exact mC (G.lex.off _ (by ac_rfl)) (mC (G.lex.off _ (by ac_rfl)) (mC (G.off.2.2) (mC (G.lex.off _ (by ac_rfl)) (mC (C1.sta.off hne) mN)))))
  refine res_fin C2 hb hA rfl _ (le2.eq_1 w b N T X Z F tt h2.objs.size T2 Z.ln k1 Z.p k2 e ts) no_orc (le2' ..).s (agOf_fin (le2' ..).o) fun h3 N3 T3 hN3 C3 => ?_
  refine ⟨(le2' ..).e, ?_⟩
  refine code_fin C3 hb hA hN3 _ (le3.eq_1 w b N T X Z F tt h2.objs.size T2 Z.ln k1 Z.p k2 N3 T3 e ts) no_orc (le3' ..).s (le3' ..).o fun h4 N4 T4 hN4 C4 => ?_
  have K4 : Kp [] h2 h4 := by
    refine C4.fin ha2 ?_
    exact mC (.inr (C4.at' ((le3' ..).g 1 rfl))) (mC (.inr (C4.at' ((le3' ..).g 2 rfl))) (mC (.inr (C4.at' ((le3' ..).g 3 rfl))) (mC (.inr (C4.at' ((le3' ..).g 4 rfl))) (mC (.inr (C4.at' ((le3' ..).g 0 rfl))) mN))))
  exact H _ _ _ ⟨rfl, ((K1.mono fun a ha => nomatch ha).trans K2 fun a ha => .inl ha).trans K4 (fun a ha => nomatch ha), k1, k2, L2.same K4⟩
section
variable {w : World} {A : Around} {R : Result → Shared → Prop} {h₀ : Heap} {g : Array GenState} {d : Drawn} {T : Nat} {ost : OsState}
theorem code_meets {s : Shared} {T : String} {name : Str} {id : String} {b : Builtin} {self : Value} {rest : List Value} {S : PySem.Spec} (sl : Slot T name id) (hT : s.TypeIs self T) (en : entryFor table id = some b) (ha : argsOk id ⟨self :: rest, []⟩) (g : Meets (b ⟨self :: rest, []⟩) S)
    (h : S A R s) : codeAny (model pg w) A (.call (.builtin id) ⟨self :: rest, []⟩) R s :=
  codeAny_call_builtin sl.plain en (sl.check _ _ _ _ _ _ _ _ hT ha (g pg w A R s h))
noncomputable abbrev sv (p : Str × Nat) : Value := .str p.1 p.2
noncomputable abbrev sA (l : List (Str × Nat)) : Array Value := ⟨l.map sv⟩
theorem mapSeq_list (f : Array Value → Array Value) (xs : Array Value) (n : Nat) : ∃ n', Obj.mapSeq f (listO xs n) = listO (f xs) n' := ⟨_, rfl⟩
theorem list_upd {h : Heap} {a : Addr} {xs : Array Value} {n : Nat} (f : Array Value → Array Value) (ha : h.get? a = some (listO xs n)) : Kp [a] h (h.update a (Obj.mapSeq f)) ∧ ∃ n', (h.update a (Obj.mapSeq f)).get? a = some (listO (f xs) n') := by
  refine ⟨kp_upd _ _ _, ?_⟩
  obtain ⟨n', e⟩ := mapSeq_list f xs n
  exact ⟨n', by rw [Heap.get?_update_self _ ha (by rw [e]; rfl), e]⟩
theorem cLenB {a : Addr} {xs : Array Value} {n : Nat} (ha : h₀.get? a = some (listO xs n)) (hsz : xs.size ≤ sizeLine) (h : R (.ok (.ret (.int xs.size (T + 1)))) ⟨h₀, g, d, T + 1 + 1, ost⟩) : codeAny (model pg w) A (.builtin "len" ⟨[.ref a], []⟩) R ⟨h₀, g, d, T, ost⟩ := by
  have q : (xs.size : Int) < 2 ^ 63 := by
    have : sizeLine = 2 ^ 24 := rfl
    omega
  refine codeAny_builtin entry_len ?_
  exact wpAny_mono (wpAny_len_body_list (Q := fun v s' => R (.ok (.ret v)) s') ⟨_, ha, rfl, n, rfl⟩ q h) (fun fin s' ⟨r, e, q⟩ => by subst e; exact q) fun _ _ e => e
theorem cLen {a : Addr} {xs : Array Value} {n : Nat} (ha : h₀.get? a = some (listO xs n)) (hsz : xs.size ≤ sizeLine) (h : R (.ok (.ret (.int xs.size (T + 1)))) ⟨h₀, g, d, T + 1 + 1, ost⟩) : codeAny (model pg w) A (cB "len" [.ref a]) R ⟨h₀, g, d, T, ost⟩ := by
  have q : (xs.size : Int) < 2 ^ 63 := by
    have : sizeLine = 2 ^ 24 := rfl
    omega
  exact code_fn_entry kind_len plain_len entry_len (args_len1 _) (wpAny_len_body_list ⟨_, ha, rfl, n, rfl⟩ q h)
theorem cPop {a : Addr} {v : Value} {vs : List Value} {n t : Nat} (ha : h₀.get? a = some (listO ⟨v :: vs⟩ n)) (hsz : vs.length < sizeLine)
    (h : ∀ h' n', Kp [a] h₀ h' → h'.get? a = some (listO ⟨vs⟩ n') → R (.ok (.ret v)) ⟨h', g, d, T, ost⟩) : codeAny (model pg w) A (cB "list.pop" [.ref a, .int 0 t]) R ⟨h₀, g, d, T, ost⟩ := by
  refine code_meets F.slot_list_pop ⟨_, ha, rfl⟩ F.entry_list_pop (F.args_list_pop_2 _ _) (MeetsSeq.list_pop_at a ⟨v :: vs⟩ n 0 t 0 v (by decide) (by simp [seqIndex?]) rfl (by simp; omega)) ⟨ha, ?_⟩
  obtain ⟨K, n', e⟩ := list_upd (fun xs => xs.eraseIdxIfInBounds 0) ha
  exact h _ n' K (e.trans (by
    have : (Array.mk (v :: vs)).eraseIdxIfInBounds 0 = Array.mk vs := by
      apply Array.ext'
      simp [Array.eraseIdxIfInBounds]
    rw [this]))
theorem erase_map {α β : Type} (f : α → β) : ∀ (l : List α) (j : Nat), (l.map f).eraseIdx j = (l.eraseIdx j).map f
  | [], _ => rfl
  | _ :: _, 0 => rfl
  | _ :: l, j + 1 => by simp [erase_map f l j]
theorem eq_words (l : List (Str × Nat)) (x : Str) (t : Nat) : ∀ y, y ∈ sA l → MeetsSeq.EqGives y (.str x t) (match y with | .str z _ => z.cps.toList == x.cps.toList | _ => false) := fun y hy => by
  have : y ∈ l.map sv := by simpa using hy
  obtain ⟨p, hp, rfl⟩ := List.mem_map.mp this
  exact SeqRoads2.EqGives.str p.1 x p.2 t
theorem str_beq' (x y : Str) : (x.cps.toList == y.cps.toList) = decide (x = y) := by
  by_cases h : x = y
  · subst h; simp
  · rw [decide_eq_false h]
    refine beq_eq_false_iff_ne.mpr fun hl => h ?_
    apply Str.ext'
    exact Array.ext' hl
theorem cIn {a : Addr} {l : List (Str × Nat)} {x : Str} {n t : Nat} (ha : h₀.get? a = some (listO (sA l) n)) (h : R (.ok (.ret (.bool (decide (x ∈ l.map (·.1)))))) ⟨h₀, g, d, T, ost⟩) : codeAny (model pg w) A (cB "list.__contains__" [.ref a, .str x t]) R ⟨h₀, g, d, T, ost⟩ := by
  refine code_meets F.slot_list_contains ⟨_, ha, rfl⟩ F.entry_list_contains (F.args_list_contains_2 _ _) (MeetsSeq.list_contains a (sA l) n (.str x t) _ (eq_words l x t)) ⟨ha, ?_⟩
  have e : (sA l).any (fun y => match y with | .str z _ => z.cps.toList == x.cps.toList | _ => false) = decide (x ∈ l.map (·.1)) := by
    rw [List.any_toArray, Bool.eq_iff_iff, decide_eq_true_iff]
    simp only [List.any_eq_true, List.mem_map]
    constructor
    · rintro ⟨_, ⟨p, hp, rfl⟩, e⟩
      exact ⟨p, hp, of_decide_eq_true ((str_beq' _ _).symm.trans e)⟩
    · rintro ⟨p, hp, rfl⟩
      exact ⟨_, ⟨p, hp, rfl⟩, (str_beq' _ _).trans (decide_eq_true rfl)⟩
  rw [e]
  exact h
theorem cIndex {a : Addr} {l : List (Str × Nat)} {x : Str} {n t j : Nat} (ha : h₀.get? a = some (listO (sA l) n)) (hl : l.length ≤ sizeLine) (hj : (l.map (·.1))[j]? = some x) (hno : ∀ m, m < j → (l.map (·.1))[m]? ≠ some x) (h : R (.ok (.ret (.int j T))) ⟨h₀, g, d, T + 1, ost⟩) : codeAny (model pg w) A (cB "list.index" [.ref a, .str x t]) R ⟨h₀, g, d, T, ost⟩ := by
  obtain ⟨hj1, hj2⟩ := List.getElem?_eq_some_iff.mp hj
  rw [List.length_map] at hj1
  have hs : sizeLine = 2 ^ 24 := rfl
  refine code_meets F.slot_list_index ⟨_, ha, rfl⟩ F.entry_list_index (F.args_list_index_2 _ _) (MeetsSeq.list_index a (sA l) n (.str x t) _ (eq_words l x t) j (by simpa using hj1) (by omega) ?_ ?_) ⟨ha, h⟩
  · simp only [List.getElem_toArray, List.getElem_map, str_beq', decide_eq_true_eq]
    simpa using hj2
  · intro m hm hmj
    simp only [List.getElem_toArray, List.getElem_map, str_beq', decide_eq_false_iff_not]
    intro e
    have hm' : m < l.length := by simpa using hm
    exact hno m hmj (by rw [List.getElem?_map, List.getElem?_eq_getElem hm']; simp [e])
theorem cRemove {a : Addr} {l : List (Str × Nat)} {x : Str} {n t : Nat} (ha : h₀.get? a = some (listO (sA l) n)) (hl : l.length ≤ sizeLine) (hx : x ∈ l.map (·.1))
    (h : ∀ h' n' j q, l[j]? = some (x, q) → Kp [a] h₀ h' → h'.get? a = some (listO (sA (l.eraseIdx j)) n') → R (.ok (.ret .none)) ⟨h', g, d, T, ost⟩) : codeAny (model pg w) A (cB "list.remove" [.ref a, .str x t]) R ⟨h₀, g, d, T, ost⟩ := by
  obtain ⟨j, hj, hno⟩ : ∃ j, (l.map (·.1))[j]? = some x ∧ ∀ m, m < j → (l.map (·.1))[m]? ≠ some x := by
    have hlt := List.idxOf_lt_length_of_mem hx
    refine ⟨(l.map (·.1)).idxOf x, by rw [List.getElem?_eq_getElem hlt, List.getElem_idxOf], fun m hm e => ?_⟩
    obtain ⟨h1, h2⟩ := List.getElem?_eq_some_iff.mp e
    have q := List.not_of_lt_findIdx (p := (· == x)) (xs := l.map (·.1)) hm
    rw [h2] at q
    simp at q
  obtain ⟨hj1, hj2⟩ := List.getElem?_eq_some_iff.mp hj
  rw [List.length_map] at hj1
  refine code_meets F.slot_list_remove ⟨_, ha, rfl⟩ F.entry_list_remove (F.args_list_remove_2 _ _) (MeetsSeq.list_remove a (sA l) n (.str x t) _ (eq_words l x t) j (by simpa using hj1) ?_ ?_ (by simpa using hl)) ⟨ha, ?_⟩
  · simp only [List.getElem_toArray, List.getElem_map, str_beq', decide_eq_true_eq]
    simpa using hj2
  · intro m hm hmj
    simp only [List.getElem_toArray, List.getElem_map, str_beq', decide_eq_false_iff_not]
    intro e
    have hm' : m < l.length := by simpa using hm
    exact hno m hmj (by rw [List.getElem?_map, List.getElem?_eq_getElem hm']; simp [e])
  · obtain ⟨K, n', e⟩ := list_upd (fun xs => xs.eraseIdxIfInBounds j) ha
    refine h _ n' j (l[j]).2 ?_ K (e.trans ?_)
    · rw [List.getElem?_eq_getElem hj1]
      simp at hj2
      simp [← hj2]
    · have : (sA l).eraseIdxIfInBounds j = sA (l.eraseIdx j) := by
        apply Array.ext'
        have : j < (sA l).size := by simpa using hj1
        rw [Array.eraseIdxIfInBounds, dif_pos this]; simp [erase_map]
      rw [this]
theorem cItemZ {a : Addr} {xs : Array Value} {x : Value} {n t : Nat} {k : Int} (ha : h₀.get? a = some (listO xs n)) (h0 : 0 ≤ k) (hfit : k < 2 ^ 63) (hx : xs[k.toNat]? = some x) (h : R (.ok (.ret x)) ⟨h₀, g, d, T, ost⟩) : codeAny (model pg w) A (cB "list.__getitem__" [.ref a, .int k t]) R ⟨h₀, g, d, T, ost⟩ := by
  have hl : (⟨h₀, g, d, T, ost⟩ : Shared).heap.IsList a xs := ⟨_, ha, rfl, n, rfl⟩
  refine codeAny_call_builtin slot_list_getitem.plain entry_list_getitem (slot_list_getitem.check _ _ _ _ _ _ _ _ hl.typeIs (args_list_getitem _ _) ?_)
  show wpAny _ _ (Builtin.List.listSubscript? (.int k t) >>= _) _ _ _
  refine wpAny_bind (wpAny_listSubscript_int (fitsIndex_of h0 hfit) ?_)
  clear hfit
  obtain ⟨j, rfl⟩ := Int.eq_ofNat_of_zero_le h0
  have hx' : xs[j]? = some x := hx
  show wpAny _ _ ((seqItemAt a j >>= fun r => pure (r.map (j, ·))) >>= _) _ _ _
  refine wpAny_bind (wpAny_bind (wpAny_seqItemAt ha rfl (wpAny_pure ?_)))
  rw [hx']
  first
    | exact wpAny_bind (wpAny_pure (wpAny_pure h))
    | exact wpAny_pure h
theorem cItem {a : Addr} {xs : Array Value} {x : Value} {n k t : Nat} (ha : h₀.get? a = some (listO xs n)) (hfit : k ≤ sizeLine) (hx : xs[k]? = some x) (h : R (.ok (.ret x)) ⟨h₀, g, d, T, ost⟩) : codeAny (model pg w) A (cB "list.__getitem__" [.ref a, .int (k : Int) t]) R ⟨h₀, g, d, T, ost⟩ :=
  cItemZ ha (Int.natCast_nonneg k) (Int.lt_of_le_of_lt (Int.ofNat_le.mpr hfit) (by decide)) hx h
theorem cLast {a : Addr} {xs : Array Value} {x : Value} {n t : Nat} (ha : h₀.get? a = some (listO (xs.push x) n)) (h : R (.ok (.ret x)) ⟨h₀, g, d, T, ost⟩) : codeAny (model pg w) A (cB "list.__getitem__" [.ref a, .int (-1) t]) R ⟨h₀, g, d, T, ost⟩ := by
  have hl : (⟨h₀, g, d, T, ost⟩ : Shared).heap.IsList a (xs.push x) := ⟨_, ha, rfl, n, rfl⟩
  refine codeAny_call_builtin slot_list_getitem.plain entry_list_getitem (slot_list_getitem.check _ _ _ _ _ _ _ _ hl.typeIs (args_list_getitem _ _) ?_)
  show wpAny _ _ (Builtin.List.listSubscript? (.int (-1) t) >>= _) _ _ _
  refine wpAny_bind (wpAny_listSubscript_int (fitsIndex_neg (by decide) (by decide)) ?_)
  have hidx := seqIndex_neg (k := -1) (n := (xs.push x).size) (by decide) (by rw [Array.size_push]; omega)
  show wpAny _ _ ((Builtin.List.listItems (.ref a) >>= fun ys => pure ((seqIndex? (-1) ys.size).bind fun i => ys[i]?.map (i, ·))) >>= _) _ _ _
  refine wpAny_bind (wpAny_bind ?_)
  show wpAny _ _ (seqItems? (.ref a) >>= _) _ _ _
  refine wpAny_bind (wpAny_seqItems ha rfl (wpAny_pure (wpAny_pure ?_)))
  have e : (xs.push x)[(-1 + ((xs.push x).size : Int)).toNat]? = some x := by
    rw [Array.size_push, show (-1 + ((xs.size + 1 : Nat) : Int)).toNat = xs.size by omega]
    simp
  rw [hidx]
  simp only [Option.bind_some, e, Option.map_some]
  first
    | exact wpAny_bind (wpAny_pure (wpAny_pure h))
    | exact wpAny_pure h
theorem cIadd {a c : Addr} {l m : List (Str × Nat)} {n n2 : Nat} (ha : h₀.get? a = some (listO (sA l) n)) (hc : h₀.get? c = some (listO (sA m) n2)) (hsz : l.length + m.length ≤ sizeLine)
    (h : ∀ h' n', Kp [a] h₀ h' → h'.get? a = some (listO (sA (l ++ m)) n') → R (.ok (.ret (.ref a))) ⟨h', g, d, T, ost⟩) : codeAny (model pg w) A (cB "list.__iadd__" [.ref a, .ref c]) R ⟨h₀, g, d, T, ost⟩ := by
  have hs : sizeLine = 2 ^ 24 := rfl
  refine code_meets F.slot_list_iadd ⟨_, ha, rfl⟩ F.entry_list_iadd (F.args_list_iadd_2 _ _) (AutoSeq1.list___iadd___list_list_0 a (sA l) n c (sA m) n2 ?_ (by simp; omega) (by simp; omega)) ⟨ha, hc, ?_⟩
  · simp [Builtin.List.listTooLong]
    omega
  · obtain ⟨K, n', e⟩ := list_upd (fun xs => xs ++ sA m) ha
    exact h _ n' K (e.trans (by
      have : sA l ++ sA m = sA (l ++ m) := by apply Array.ext'; simp
      rw [this]))
end
noncomputable abbrev frm3z (P : Params) (X : LX) (F : FK) (tok : Value) : Obj := ⟨.type "frame", none, .dict #[entZ P sSelf F.f1 (.ref X.lx), entZ P sToken F.f2 tok, entZ P sFiter F.f3 (.ref F.it)] 3, #[]⟩
theorem frm3z_is (P : Params) (X : LX) (F : FK) (tok : Value) : frm3z P X F tok = frm3 P X F tok := by
  unfold frm3z
  rw [entZ_is, entZ_is, entZ_is]
noncomputable abbrev ledH (w : World) (X : LX) (Z : LS) (xs : Array Value) : Led := [(X.lx, lexO X), (X.dx, lexD w.params X Z.ln Z.tl), (X.pb, listO xs Z.n), (X.sp, spotO w.params X.kp (.int Z.p Z.tp))]
section
variable (w : World) (b : Bool) (N0 T0 : Nat) (X : LX) (Z : LS) (v : Value) (vs : List Value) (N1 T1 N2 T2 : Nat) (y : Str) (yk m tk N3 T3 : Nat)
@[irreducible] noncomputable def gt0 : Res := enterZ (VV w b N0 T0) 60 [5, 5] [] 42 (fdK w.params 42) ⟨[.ref X.lx], []⟩ (ledH w X Z #[])
theorem gt0' : (fun r => Lk r [] (isAg r.out = true) (True)) (gt0 w b N0 T0 X Z) := by cases b <;> rfl'
@[irreducible] noncomputable def gp0 : Res := enterZ (VV w b N0 T0) 60 [5, 5] [] 42 (fdK w.params 42) ⟨[.ref X.lx], []⟩ (ledH w X Z ⟨v :: vs⟩)
theorem gp0' : (fun r => Lk r [] (isAg r.out = true) (True)) (gp0 w b N0 T0 X Z v vs) := by cases b <;> rfl'
@[irreducible] noncomputable def gt1 : Res := startZ (VV w b N1 T1) 600 [5, 1, 0, 0, 0, 0, 1, 0, 0, 0, 1, 1, 0, 2, 3, 3, 0, 3, 0, 3, 3, 5, 5, 0, 0, 5, 1, 0, 0, 0, 0, 1, 0, 0, 0, 0, 0, 0, 1, 1, 0, 2, 0, 0, 0, 0, 0, 0, 6, 5, 5, 5, 7, 7, 0, 7, 7, 1] [] (agOf (gt0 w b N0 T0 X Z).out) (gt0 w b N0 T0 X Z).led
theorem gt1' : (fun r => Lk r [(0, X.lx, lexO X), (1, X.dx, lexD w.params X Z.ln Z.tl), (2, X.pb, listO #[] Z.n), (3, X.sp, spotO w.params X.kp (.int Z.p Z.tp)), (4, N0, frm3z w.params X { f1 := T0, f2 := T1 + 4, f3 := T1 + 7, f4 := 0, ks := T1 + 6, it := N1 + 1, mo := N1, L := N0 } (.str ⟨#[]⟩ (T1 + 3))), (5, N1, methO X), (6, N1 + 1, iterO { f1 := T0, f2 := T1 + 4, f3 := T1 + 7, f4 := 0, ks := T1 + 6, it := N1 + 1, mo := N1, L := N0 })] (callOf r.out = some (codeO w.params { f1 := T0, f2 := T1 + 4, f3 := T1 + 7, f4 := 0, ks := T1 + 6, it := N1 + 1, mo := N1, L := N0 })) (wtO r.out = 1)) (gt1 w b N0 T0 X Z N1 T1) := by cases b <;> rfl'
@[irreducible] noncomputable def gt2 : Res := resumeZ (VV w b N2 T2) 60 [] [] (gt1 w b N0 T0 X Z N1 T1).out (.ok (.ret (.str y yk))) []
theorem gt2' : (fun r => Lk r [] (finOf r.out = some (.done (.ret (.str y yk)))) (True)) (gt2 w b N0 T0 X Z N1 T1 N2 T2 y yk) := by cases b <;> rfl'
@[irreducible] noncomputable def gt3 : Res := resumeZ (VV w b N2 T2) 60 [1] [] (gt1 w b N0 T0 X Z N1 T1).out (.ok .next) [(N0, frm3 w.params X { f1 := T0, f2 := T1 + 4, f3 := T1 + 7, f4 := 0, ks := T1 + 6, it := N1 + 1, mo := N1, L := N0 } (.str ⟨#[]⟩ (T1 + 3)))]
theorem gt3' : (fun r => Lk r [(0, N0, frm3 w.params X { f1 := T0, f2 := T1 + 4, f3 := T1 + 7, f4 := 0, ks := T1 + 6, it := N1 + 1, mo := N1, L := N0 } (.str ⟨#[]⟩ (T1 + 3)))] (finOf r.out = some (.done (.ret (.str ⟨#[]⟩ (T1 + 3))))) (True)) (gt3 w b N0 T0 X Z N1 T1 N2 T2) := by cases b <;> rfl'
@[irreducible] noncomputable def gp1 : Res := startZ (VV w b N1 T1) 600 [5, 1, 0, 0, 0, 0, 1, 0, 0, 0, 1, 1, 0, 2, 3, 3, 1] [] (agOf (gp0 w b N0 T0 X Z v vs).out) (gp0 w b N0 T0 X Z v vs).led
theorem gp1' : (fun r => Lk r [(0, X.lx, lexO X), (1, X.dx, lexD w.params X Z.ln Z.tl), (2, X.pb, listO ⟨v :: vs⟩ Z.n), (3, X.sp, spotO w.params X.kp (.int Z.p Z.tp))] (callOf r.out = some (.builtin "len" ⟨[.ref X.pb], []⟩)) (wtO r.out = 1)) (gp1 w b N0 T0 X Z v vs N1 T1) := by cases b <;> rfl'
@[irreducible] noncomputable def gp2 : Res := resumeZ (VV w b N2 T2) 600 [5, 1, 0, 0, 0, 0, 1, 0, 0, 0, 1, 1, 0, 2, 3, 3, 3, 3, 1] [] (gp1 w b N0 T0 X Z v vs N1 T1).out (.ok (.ret (.int (Int.ofNat (m + 1)) tk))) (gp1 w b N0 T0 X Z v vs N1 T1).led
theorem gp2' : (fun r => Lk r [(0, X.lx, lexO X), (1, X.dx, lexD w.params X Z.ln Z.tl), (2, X.pb, listO ⟨v :: vs⟩ Z.n), (3, X.sp, spotO w.params X.kp (.int Z.p Z.tp))] (callOf r.out = some (cB "list.pop" [.ref X.pb, .int 0 (T2 + 1)])) (wtO r.out = 1)) (gp2 w b N0 T0 X Z v vs N1 T1 N2 T2 m tk) := by cases b <;> rfl'
@[irreducible] noncomputable def gp3 : Res := resumeZ (VV w b N3 T3) 60 [] [] (gp2 w b N0 T0 X Z v vs N1 T1 N2 T2 m tk).out (.ok (.ret (.str y yk))) []
theorem gp3' : (fun r => Lk r [] (finOf r.out = some (.done (.ret (.str y yk)))) (True)) (gp3 w b N0 T0 X Z v vs N1 T1 N2 T2 y yk m tk N3 T3) := by cases b <;> rfl'
end
theorem fn42 (w : World) : FnAt w 42 (fdK w.params 42) := ⟨⟨o42 w.params, by kernel_rfl, by kernel_rfl⟩, by kernel_rfl, by kernel_rfl, ⟨bodyOf (fdK w.params 42), by kernel_rfl⟩, ⟨41, o41 w.params, flds (o41 w.params), tokOf ((flds (o41 w.params)).getD 1 .none), by kernel_rfl, by kernel_rfl, by kernel_rfl, by kernel_rfl⟩⟩
inductive Tk : List Nat → List Nat → List Nat → Nat → Prop
  | plain (c : Nat) (u : List Nat) (e : Nat) (more : List Nat) : isWs (c + 1) = false ∧ c + 1 ≠ 34 ∧ c + 1 ≠ 92 → (∀ c ∈ u, c ≠ 0 ∧ isWs c = false ∧ c ≠ 92 ∧ c ≠ 10) → isWs e = true → u.length + 2 ≤ sizeLine → Tk ((c + 1) :: u ++ e :: more) ((c + 1) :: u) more (if e = 10 then 1 else 0)
  | quote (c : Nat) (u more : List Nat) : (∀ c' ∈ (c + 1) :: u, c' ≠ 0 ∧ c' ≠ 34 ∧ c' ≠ 92 ∧ c' ≠ 10) → u.length + 2 ≤ sizeLine → Tk (34 :: (c + 1) :: u ++ 34 :: more) ((c + 1) :: u) more 0
  | esc (c : Nat) (u : List Nat) (e : Nat) (more : List Nat) : c + 1 ≠ 10 → (∀ c ∈ u, c ≠ 0 ∧ isWs c = false ∧ c ≠ 92 ∧ c ≠ 10) → isWs e = true → u.length + 2 ≤ sizeLine → Tk (92 :: (c + 1) :: u ++ e :: more) ((c + 1) :: u) more (if e = 10 then 1 else 0)
  | blank (c : Nat) (u : List Nat) (e : Nat) (more : List Nat) : c + 1 ≠ 10 → (∀ c ∈ u, c ≠ 0 ∧ isWs c = false ∧ c ≠ 92 ∧ c ≠ 10) → isWs e = true → u.length + 2 ≤ sizeLine → Tk (10 :: 92 :: (c + 1) :: u ++ e :: more) ((c + 1) :: u) more (1 + if e = 10 then 1 else 0)
theorem rest_app {X : LX} {p : Nat} {a b : List Nat} (h : X.rest p = a ++ b) (hp : p ≤ X.text.length) : X.rest (p + a.length) = b ∧ p + a.length ≤ X.text.length := by
  have l1 := congrArg List.length h
  unfold LX.rest at *
  rw [List.length_drop, List.length_append] at l1
  have e : X.text.cps.toList.length = X.text.length := rfl
  refine ⟨?_, by omega⟩
  rw [← List.drop_drop, h, List.drop_left]
theorem outer_ok {w : World} {X : LX} {F : FK} (hl : 2 ≤ X.text.length) (hsz : X.text.length ≤ sizeLine) (Z : LS) (tt : Nat) {l tok more : List Nat} {nl : Nat} (hrest : X.rest Z.p = l) (hp : Z.p ≤ X.text.length) (ht : Tk l tok more nl) :
    CtrF w 3 (codeO w.params F) (GAt w X Z F (frm3 w.params X F (.str ⟨#[]⟩ tt))) (fun h f h' => ∃ p', X.rest p' = more ∧ p' ≤ X.text.length ∧ Got w X Z F ⟨tok.toArray⟩ p' (Z.ln + nl) h f h') := by
  intro A R s hA hd S G H
  cases ht with
  | plain c u e more h1 h2 h3 h4 =>
    refine outer_plain hl hsz ⟨#[]⟩ ⟨#[]⟩ 0 c u Z tt more e hrest h1 h2 h3 h4 A R s hA hd S G fun f h' t' P => H f h' t' ⟨_, ?_, ?_, P.cast rfl (by split <;> simp)⟩
    · have := (rest_app (a := (c + 1) :: u ++ [e]) (b := more) (by simpa using hrest) hp).1
      simpa [Nat.add_assoc] using this
    · have := (rest_app (a := (c + 1) :: u ++ [e]) (b := more) (by simpa using hrest) hp).2
      simpa [Nat.add_assoc] using this
  | quote c u more h1 h2 =>
    refine outer_quote hl hsz ⟨#[]⟩ ⟨#[]⟩ 0 c u Z tt more hrest h1 h2 A R s hA hd S G fun f h' t' P => H f h' t' ⟨_, ?_, ?_, P.cast rfl (by ac_rfl)⟩
    · have := (rest_app (a := 34 :: (c + 1) :: u ++ [34]) (b := more) (by simpa using hrest) hp).1
      simpa [Nat.add_assoc] using this
    · have := (rest_app (a := 34 :: (c + 1) :: u ++ [34]) (b := more) (by simpa using hrest) hp).2
      simpa [Nat.add_assoc] using this
  | esc c u e more h1 h2 h3 h4 =>
    refine outer_esc hl hsz ⟨#[]⟩ ⟨#[]⟩ 0 c u Z tt more e hrest h1 h2 h3 h4 A R s hA hd S G fun f h' t' P => H f h' t' ⟨_, ?_, ?_, P.cast rfl (by split <;> simp)⟩
    · have := (rest_app (a := 92 :: (c + 1) :: u ++ [e]) (b := more) (by simpa using hrest) hp).1
      simpa [Nat.add_assoc] using this
    · have := (rest_app (a := 92 :: (c + 1) :: u ++ [e]) (b := more) (by simpa using hrest) hp).2
      simpa [Nat.add_assoc] using this
  | blank c u e more h1 h2 h3 h4 =>
    refine outer_blank hl hsz ⟨#[]⟩ ⟨#[]⟩ 0 c u Z tt more e hrest h1 h2 h3 h4 A R s hA hd S G fun f h' t' P => H f h' t' ⟨_, ?_, ?_, P.cast rfl (by split <;> simp <;> omega)⟩
    · have := (rest_app (a := 10 :: 92 :: (c + 1) :: u ++ [e]) (b := more) (by simpa using hrest) hp).1
      simpa [Nat.add_assoc] using this
    · have := (rest_app (a := 10 :: 92 :: (c + 1) :: u ++ [e]) (b := more) (by simpa using hrest) hp).2
      simpa [Nat.add_assoc] using this
theorem LexAt.lt {w : World} {X : LX} {Z : LS} {h : Heap} (L : LexAt w X Z h) : ∀ a ∈ X.keys, a < h.objs.size := by
  obtain ⟨o, vs, t, r1, r2⟩ := L.rc
  exact mC (Heap.lt_size L.lx) (mC (Heap.lt_size L.dx) (mC (Heap.lt_size L.pb) (mC (Heap.lt_size L.tp) (mC (Heap.lt_size L.td) (mC (Heap.lt_size L.rd) (mC (Heap.lt_size r1) (mC (Heap.lt_size L.c1) (mC (Heap.lt_size L.c2) (mC (Heap.lt_size L.sp) mN)))))))))
theorem gat_nd {w : World} {X : LX} {Z : LS} {h : Heap} (L : LexAt w X Z h) {it mo l : Addr} (h1 : h.objs.size ≤ it) (h2 : h.objs.size ≤ mo) (h3 : h.objs.size ≤ l) (h4 : [it, mo, l].Nodup) : [X.lx, X.dx, it, mo, l, X.pb, X.tp, X.td, X.rd, X.rc, X.c1, X.c2, X.sp].Nodup := by
  have p : List.Perm [X.lx, X.dx, it, mo, l, X.pb, X.tp, X.td, X.rd, X.rc, X.c1, X.c2, X.sp] (X.keys ++ [it, mo, l]) :=
    List.Perm.cons _ (List.Perm.cons _ (List.perm_append_comm (l₁ := [it, mo, l]) (l₂ := [X.pb, X.tp, X.td, X.rd, X.rc, X.c1, X.c2, X.sp])))
  refine p.nodup_iff.mpr (List.nodup_append.mpr ⟨L.nd, h4, fun a ha b hb e => ?_⟩)
  have := L.lt a ha
  simp only [List.mem_cons, nmn, or_false] at hb
  rcases hb with hb | hb | hb
  · exact absurd this (by rw [show a = it from Eq.trans e hb]; exact Nat.not_lt.mpr h1)
  · exact absurd this (by rw [show a = mo from Eq.trans e hb]; exact Nat.not_lt.mpr h2)
  · exact absurd this (by rw [show a = l from Eq.trans e hb]; exact Nat.not_lt.mpr h3)
theorem get_ok {w : World} {X : LX} {Z : LS} (hl : 2 ≤ X.text.length) (hsz : X.text.length ≤ sizeLine) {l tok more : List Nat} {nl : Nat} (hrest : X.rest Z.p = l) (hp : Z.p ≤ X.text.length) (ht : Tk l tok more nl) (hxs : Z.xs = #[]) :
    Ctr w 4 (.call (.ref 42) ⟨[.ref X.lx], []⟩) (LexAt w X Z) (fun h v h' => (∃ k, v = .str ⟨tok.toArray⟩ k) ∧ Kp [X.dx, X.sp] h h' ∧ ∃ p' tl tp, X.rest p' = more ∧ p' ≤ X.text.length ∧ LexAt w X { Z with ln := Z.ln + nl, tl := tl, p := p', tp := tp } h') := by
  rintro A R ⟨h0, g, d, T, ost⟩ hA hd S L H
  obtain ⟨b, hb⟩ : ∃ b, w.params.followText "special-get-raises" = b := ⟨_, rfl⟩
  obtain ⟨N, hN⟩ : ∃ N, h0.objs.size = N := ⟨_, rfl⟩
  have hpb : h0.get? X.pb = some (listO #[] Z.n) := by
    have := L.pb
    rw [hxs] at this
    exact this
  have ha : ∀ p ∈ ledH w X Z #[], h0.get? p.1 = some p.2 := by
    exact mC (L.lx) (mC (L.dx) (mC (hpb) (mC (L.sp) mN)))
  have C0 : Cur w h0 ((ledH w X Z #[]).map (·.1)) h0 (ledH w X Z #[]) := by
    refine Cur.start S ha (L.sub (by repeat (first | exact List.nil_sublist _ | refine List.Sublist.cons_cons _ ?_ | refine List.Sublist.cons _ ?_))) ?_
    exact mC (L.off _ (by simp [LX.keys])) (mC (L.off _ (by simp [LX.keys])) (mC (L.off _ (by simp [LX.keys])) (mC (L.off _ (by simp [LX.keys])) mN)))
  refine seg_fn C0 (fn42 w) hb hA (by first | exact room0 hd | omega) hN _ (gt0.eq_1 w b N T X Z) (gt0' ..).s (gt0' ..).o fun h1 N1 T1 hN1 C1 => ?_
  refine code_call C1 hb hA hN1 _ (gt1.eq_1 w b N T X Z N1 T1) no_orc (gt1' ..).s (gt1' ..).o fun h2 N2 T2 hN2 C2 => ?_
  have K2 : Kp [] h0 h2 := by
    refine C2.fin ha ?_
    exact mC (.inr (C2.at' ((gt1' ..).g 0 rfl))) (mC (.inr (C2.at' ((gt1' ..).g 1 rfl))) (mC (.inr (C2.at' ((gt1' ..).g 2 rfl))) (mC (.inr (C2.at' ((gt1' ..).g 3 rfl))) mN)))
  have hN1' : N ≤ N1 := by rw [← hN, ← hN1]; exact C1.kp.1
  have G2 : GAt w X Z { f1 := T, f2 := T1 + 4, f3 := T1 + 7, f4 := 0, ks := T1 + 6, it := N1 + 1, mo := N1, L := N } (frm3 w.params X { f1 := T, f2 := T1 + 4, f3 := T1 + 7, f4 := 0, ks := T1 + 6, it := N1 + 1, mo := N1, L := N } (.str ⟨#[]⟩ (T1 + 3))) h2 := by
    refine ⟨L.same K2, C2.at' ((gt1' ..).g 6 rfl), C2.at' ((gt1' ..).g 5 rfl), (C2.at' ((gt1' ..).g 4 rfl)).trans (congrArg some (frm3z_is ..)), gat_nd L ?_ ?_ ?_ ?_, C2.off' ((gt1' ..).g 6 rfl), C2.off' ((gt1' ..).g 5 rfl), C2.off' ((gt1' ..).g 4 rfl)⟩
    · show h0.objs.size ≤ N1 + 1; omega
    · show h0.objs.size ≤ N1; omega
    · show h0.objs.size ≤ N; omega
    · have e1 := pick_ne C2.nd (by decide) ((gt1' w b N T X Z N1 T1).g 6 rfl) ((gt1' ..).g 5 rfl)
      have e2 := pick_ne C2.nd (by decide) ((gt1' w b N T X Z N1 T1).g 6 rfl) ((gt1' ..).g 4 rfl)
      have e3 := pick_ne C2.nd (by decide) ((gt1' w b N T X Z N1 T1).g 5 rfl) ((gt1' ..).g 4 rfl)
      simp only [List.nodup_cons, List.mem_cons, nmn, or_false, not_or]
      exact ⟨⟨e1, e2⟩, e3, fun h => h.elim, List.nodup_nil⟩
  refine outer_ok (w := w) hl hsz Z _ hrest hp ht _ _ _ (aroO_handled hA _) (by first | exact room hd (gt1' ..).e rfl | (rw [aroO_depth, (gt1' ..).e]; omega)) C2.sta G2 fun f h3 T3 P => ?_
  obtain ⟨p', hp1, hp2, ⟨yk, rfl⟩, K3, tl3, tp3, L3⟩ := P
  have S3 : Sta w h3 := C2.sta.kp K3 (by
    exact mC (L.off _ (by ac_rfl)) (mC (L.off _ (by ac_rfl)) (mC (C2.off' ((gt1' ..).g 4 rfl)) mN)))
  refine res_fin (Cur.nil S3) hb hA rfl _ (gt2.eq_1 w b N T X Z N1 T1 h3.objs.size T3 _ yk) no_orc (gt2' ..).s (gt2' ..).o fun h4 N4 T4 hN4 C4 => ?_
  have K : Kp [X.dx, X.sp] h0 h4 := (((K2.mono fun a ha => nomatch ha).trans K3 (by
    exact mC (.inl (by ac_rfl)) (mC (.inl (by ac_rfl)) (mC (.inr (by show h0.objs.size ≤ N; omega)) mN)))).trans C4.kp fun a ha => nomatch ha)
  exact H _ _ _ ⟨⟨yk, rfl⟩, K, p', tl3, tp3, hp1, hp2, L3.same C4.kp⟩
theorem get_end {w : World} {X : LX} {Z : LS} (hl : 2 ≤ X.text.length) (hsz : X.text.length ≤ sizeLine) (hp : Z.p = X.text.length) (hxs : Z.xs = #[]) :
    Ctr w 4 (.call (.ref 42) ⟨[.ref X.lx], []⟩) (LexAt w X Z) (fun h v h' => (∃ k, v = .str ⟨#[]⟩ k) ∧ Kp [X.dx, X.sp] h h' ∧ ∃ tl tp, LexAt w X { Z with tl := tl, tp := tp } h') := by
  rintro A R ⟨h0, g, d, T, ost⟩ hA hd S L H
  obtain ⟨b, hb⟩ : ∃ b, w.params.followText "special-get-raises" = b := ⟨_, rfl⟩
  obtain ⟨N, hN⟩ : ∃ N, h0.objs.size = N := ⟨_, rfl⟩
  have hpb : h0.get? X.pb = some (listO #[] Z.n) := by
    have := L.pb
    rw [hxs] at this
    exact this
  have ha : ∀ p ∈ ledH w X Z #[], h0.get? p.1 = some p.2 := by
    exact mC (L.lx) (mC (L.dx) (mC (hpb) (mC (L.sp) mN)))
  have C0 : Cur w h0 ((ledH w X Z #[]).map (·.1)) h0 (ledH w X Z #[]) := by
    refine Cur.start S ha (L.sub (by repeat (first | exact List.nil_sublist _ | refine List.Sublist.cons_cons _ ?_ | refine List.Sublist.cons _ ?_))) ?_
    exact mC (L.off _ (by simp [LX.keys])) (mC (L.off _ (by simp [LX.keys])) (mC (L.off _ (by simp [LX.keys])) (mC (L.off _ (by simp [LX.keys])) mN)))
  refine seg_fn C0 (fn42 w) hb hA (by first | exact room0 hd | omega) hN _ (gt0.eq_1 w b N T X Z) (gt0' ..).s (gt0' ..).o fun h1 N1 T1 hN1 C1 => ?_
  refine code_call C1 hb hA hN1 _ (gt1.eq_1 w b N T X Z N1 T1) no_orc (gt1' ..).s (gt1' ..).o fun h2 N2 T2 hN2 C2 => ?_
  have K2 : Kp [] h0 h2 := by
    refine C2.fin ha ?_
    exact mC (.inr (C2.at' ((gt1' ..).g 0 rfl))) (mC (.inr (C2.at' ((gt1' ..).g 1 rfl))) (mC (.inr (C2.at' ((gt1' ..).g 2 rfl))) (mC (.inr (C2.at' ((gt1' ..).g 3 rfl))) mN)))
  have hN1' : N ≤ N1 := by rw [← hN, ← hN1]; exact C1.kp.1
  have G2 : GAt w X Z { f1 := T, f2 := T1 + 4, f3 := T1 + 7, f4 := 0, ks := T1 + 6, it := N1 + 1, mo := N1, L := N } (frm3 w.params X { f1 := T, f2 := T1 + 4, f3 := T1 + 7, f4 := 0, ks := T1 + 6, it := N1 + 1, mo := N1, L := N } (.str ⟨#[]⟩ (T1 + 3))) h2 := by
    refine ⟨L.same K2, C2.at' ((gt1' ..).g 6 rfl), C2.at' ((gt1' ..).g 5 rfl), (C2.at' ((gt1' ..).g 4 rfl)).trans (congrArg some (frm3z_is ..)), gat_nd L ?_ ?_ ?_ ?_, C2.off' ((gt1' ..).g 6 rfl), C2.off' ((gt1' ..).g 5 rfl), C2.off' ((gt1' ..).g 4 rfl)⟩
    · show h0.objs.size ≤ N1 + 1; omega
    · show h0.objs.size ≤ N1; omega
    · show h0.objs.size ≤ N; omega
    · have e1 := pick_ne C2.nd (by decide) ((gt1' w b N T X Z N1 T1).g 6 rfl) ((gt1' ..).g 5 rfl)
      have e2 := pick_ne C2.nd (by decide) ((gt1' w b N T X Z N1 T1).g 6 rfl) ((gt1' ..).g 4 rfl)
      have e3 := pick_ne C2.nd (by decide) ((gt1' w b N T X Z N1 T1).g 5 rfl) ((gt1' ..).g 4 rfl)
      simp only [List.nodup_cons, List.mem_cons, nmn, or_false, not_or]
      exact ⟨⟨e1, e2⟩, e3, fun h => h.elim, List.nodup_nil⟩
  refine outer_end (w := w) hl hsz ⟨#[]⟩ ⟨#[]⟩ 0 Z _ hp _ _ _ (aroO_handled hA _) (by first | exact room hd (gt1' ..).e rfl | (rw [aroO_depth, (gt1' ..).e]; omega)) C2.sta G2 fun f h3 T3 P => ?_
  obtain ⟨rfl, K3, tl3, tp3, L3⟩ := P
  have S3 : Sta w h3 := C2.sta.kp K3 (by
    exact mC (L.off _ (by ac_rfl)) (mC (L.off _ (by ac_rfl)) (mC (C2.off' ((gt1' ..).g 6 rfl)) mN)))
  have f3 := K3.get G2.L (by
    simp only [List.mem_cons, nmn, or_false, not_or]
    exact ⟨nd_ne G2.nd 4 1 rfl rfl (by decide), nd_ne G2.nd 4 12 rfl rfl (by decide), nd_ne G2.nd 4 2 rfl rfl (by decide)⟩)
  have ha3 : ∀ p ∈ [((N : Addr), frm3 w.params X { f1 := T, f2 := T1 + 4, f3 := T1 + 7, f4 := 0, ks := T1 + 6, it := N1 + 1, mo := N1, L := N } (.str ⟨#[]⟩ (T1 + 3)))], h3.get? p.1 = some p.2 := by
    exact mC (f3) mN
  refine res_fin (Cur.start S3 ha3 (by ac_rfl) (by
    exact mC (C2.off' ((gt1' ..).g 4 rfl)) mN)) hb hA rfl _ (gt3.eq_1 w b N T X Z N1 T1 h3.objs.size T3) no_orc (gt3' ..).s (gt3' ..).o fun h4 N4 T4 hN4 C4 => ?_
  have K4 : Kp [] h3 h4 := by
    refine C4.fin ha3 ?_
    exact mC (.inr (C4.at' ((gt3' ..).g 0 rfl))) mN
  have K : Kp [X.dx, X.sp] h0 h4 := (((K2.mono fun a ha => nomatch ha).trans K3 (by
    exact mC (.inl (by ac_rfl)) (mC (.inl (by ac_rfl)) (mC (.inr (by show h0.objs.size ≤ N1 + 1; omega)) mN)))).trans K4 fun a ha => nomatch ha)
  exact H _ _ _ ⟨⟨_, rfl⟩, K, tl3, tp3, L3.same K4⟩
theorem get_wait {w : World} {X : LX} {Z : LS} {y : Str} {yk : Nat} {vs : List Value} (hxs : Z.xs = ⟨.str y yk :: vs⟩) (hv : vs.length < sizeLine) :
    Ctr w 2 (.call (.ref 42) ⟨[.ref X.lx], []⟩) (LexAt w X Z) (fun h v h' => v = .str y yk ∧ Kp [X.pb] h h' ∧ ∃ n, LexAt w X { Z with xs := ⟨vs⟩, n := n } h') := by
  rintro A R ⟨h0, g, d, T, ost⟩ hA hd S L H
  obtain ⟨b, hb⟩ : ∃ b, w.params.followText "special-get-raises" = b := ⟨_, rfl⟩
  obtain ⟨N, hN⟩ : ∃ N, h0.objs.size = N := ⟨_, rfl⟩
  have hpb : h0.get? X.pb = some (listO ⟨.str y yk :: vs⟩ Z.n) := by
    have := L.pb
    rw [hxs] at this
    exact this
  have ha : ∀ p ∈ ledH w X Z ⟨.str y yk :: vs⟩, h0.get? p.1 = some p.2 := by
    exact mC (L.lx) (mC (L.dx) (mC (hpb) (mC (L.sp) mN)))
  have C0 : Cur w h0 ((ledH w X Z ⟨.str y yk :: vs⟩).map (·.1)) h0 (ledH w X Z ⟨.str y yk :: vs⟩) := by
    refine Cur.start S ha (L.sub (by repeat (first | exact List.nil_sublist _ | refine List.Sublist.cons_cons _ ?_ | refine List.Sublist.cons _ ?_))) ?_
    exact mC (L.off _ (by simp [LX.keys])) (mC (L.off _ (by simp [LX.keys])) (mC (L.off _ (by simp [LX.keys])) (mC (L.off _ (by simp [LX.keys])) mN)))
  refine seg_fn C0 (fn42 w) hb hA (by first | exact room0 hd | omega) hN _ (gp0.eq_1 w b N T X Z (.str y yk) vs) (gp0' ..).s (gp0' ..).o fun h1 N1 T1 hN1 C1 => ?_
  refine code_call C1 hb hA hN1 _ (gp1.eq_1 w b N T X Z (.str y yk) vs N1 T1) no_orc (gp1' ..).s (gp1' ..).o fun h2 N2 T2 hN2 C2 => ?_
  refine cLenB (C2.at' ((gp1' ..).g 2 rfl)) (by show vs.length + 1 ≤ _; omega) ?_
  refine res_call C2 hb hA hN2 _ (gp2.eq_1 w b N T X Z (.str y yk) vs N1 T1 N2 (T2 + 1 + 1) vs.length (T2 + 1)) no_orc (gp2' ..).s (gp2' ..).o fun h3 N3 T3 hN3 C3 => ?_
  refine cPop (C3.at' ((gp2' ..).g 2 rfl)) hv fun h4 n4 K4 e4 => ?_
  have C4 := C3.put1 ((gp2' ..).g 2 rfl) K4 e4
  refine res_fin (Cur.nil C4.sta) hb hA rfl _ (gp3.eq_1 w b N T X Z (.str y yk) vs N1 T1 N2 (T2 + 1 + 1) y yk vs.length (T2 + 1) h4.objs.size T3) no_orc (gp3' ..).s (gp3' ..).o fun h5 N5 T5 hN5 C5 => ?_
  have K3 : Kp [] h0 h3 := by
    refine C3.fin ha ?_
    exact mC (.inr (C3.at' ((gp2' ..).g 0 rfl))) (mC (.inr (C3.at' ((gp2' ..).g 1 rfl))) (mC (.inr (C3.at' ((gp2' ..).g 2 rfl))) (mC (.inr (C3.at' ((gp2' ..).g 3 rfl))) mN)))
  have L3 := L.same K3
  have K : Kp [X.pb] h0 h5 := (((K3.mono fun a ha => nomatch ha).trans K4 fun a ha => .inl ha).trans C5.kp fun a ha => nomatch ha)
  have L4 : LexAt w X { Z with xs := ⟨vs⟩, n := n4 } h4 := L3.kpM (Z' := { Z with xs := ⟨vs⟩, n := n4 }) K4 (fun a ha hm => .inr (.inl (List.mem_singleton.mp hm))) (K4.get L3.dx fun z => nd_ne L.nd 1 2 rfl rfl (by decide) (List.mem_singleton.mp z)) e4 (K4.get L3.sp fun z => nd_ne L.nd 9 2 rfl rfl (by decide) (List.mem_singleton.mp z))
  exact H _ _ _ ⟨rfl, K, n4, L4.same C5.kp⟩
noncomputable def wordsL (cur : List Nat) : List Nat → List (List Nat)
  | [] => if cur.isEmpty then [] else [cur]
  | c :: l => if Unicode.isSpace c then (if cur.isEmpty then wordsL [] l else cur :: wordsL [] l) else wordsL (cur ++ [c]) l
noncomputable abbrev toS (l : List Nat) : Str := ⟨l.toArray⟩
theorem sub_list (s : Str) (b c : Nat) : Builtin.Str.strSub s b c = toS ((s.cps.toList.drop b).take (c - b)) := by
  apply Str.ext'
  show s.cps.extract b c = _
  apply Array.ext'
  simp [List.extract_eq_take_drop]
noncomputable def curOf (s : Str) (cur : Nat) : Option Nat → List Nat
  | none => []
  | some b => (s.cps.toList.drop b).take (cur - b)
theorem sw_words (s : Str) (limit : Nat) (hl : s.length < limit) : ∀ (m cur : Nat) (ws : Array (Nat × Nat)) (start : Option Nat), cur + m = s.length → ws.size ≤ cur → (∀ b, start = some b → b < cur) →
    (StrLaws.swEnd s (forIn (List.range' cur m) ((none, ws, start) : StrLaws.SwSt) (StrLaws.swBody s limit)).run).map (fun (p : Nat × Nat) => Builtin.Str.strSub s p.1 p.2) = ws.toList.map (fun (p : Nat × Nat) => Builtin.Str.strSub s p.1 p.2) ++ (wordsL (curOf s cur start) (s.cps.toList.drop cur)).map toS
  | 0, cur, ws, start, hm, hw, hb => by
    have hd : s.cps.toList.drop cur = [] := List.drop_eq_nil_of_le (by have : s.cps.toList.length = s.length := rfl; omega)
    rw [hd]
    cases start with
    | none => simp [StrLaws.swEnd, wordsL, curOf]
    | some b =>
      have hb' := hb b rfl
      have ne : (curOf s cur (some b)).isEmpty = false := by
        have e : s.cps.toList.length = s.length := rfl
        rw [List.isEmpty_eq_false_iff]
        intro z
        have := congrArg List.length z
        unfold curOf at this
        rw [List.length_take, List.length_drop] at this
        simp at this
        simp [Str.length] at e hm
        omega
      have : s.length = cur := by omega
      simp only [wordsL, ne, if_false, Bool.false_eq_true]
      show ((ws.push (b, s.length)).toList).map _ = _
      rw [Array.toList_push, List.map_append, this]
      simp only [List.map_cons, List.map_nil, sub_list]
      rfl
  | m + 1, cur, ws, start, hm, hw, hb => by
    have e0 : s.cps.toList.length = s.length := rfl
    have hlt : cur < s.cps.toList.length := by omega
    rw [List.range'_succ, List.forIn_cons, List.drop_eq_getElem_cons hlt]
    have hg : s.cps.getD cur 0 = s.cps.toList[cur] := by
      have : cur < s.cps.size := hlt
      simp [Array.getD, this]
    have hsz : ¬ ((ws.size == limit) = true) := by
      simp; omega
    have ih := sw_words s limit hl m (cur + 1)
    cases start with
    | none =>
      cases hsp : Unicode.isSpace s.cps.toList[cur] with
      | true =>
        have eb : StrLaws.swBody s limit cur (none, ws, none) = pure (ForInStep.yield (none, ws, none)) := by
          unfold StrLaws.swBody
          rw [if_neg hsz, hg, hsp]
        rw [eb]
        have := ih ws none (by omega) (by omega) (fun b hb => nomatch hb)
        simp only [wordsL, curOf, hsp, List.isEmpty_nil, if_true] at this ⊢
        simpa using this
      | false =>
        have eb : StrLaws.swBody s limit cur (none, ws, none) = pure (ForInStep.yield (none, ws, some cur)) := by
          unfold StrLaws.swBody
          rw [if_neg hsz, hg, hsp]
        rw [eb]
        have := ih ws (some cur) (by omega) (by omega) (fun b hb => by cases hb; omega)
        simp only [wordsL, curOf, hsp, Bool.false_eq_true, if_false, List.nil_append] at this ⊢
        rw [show cur + 1 - cur = 1 by omega, List.drop_eq_getElem_cons hlt] at this
        simpa using this
    | some b =>
      have hb' := hb b rfl
      have ne : (curOf s cur (some b)).isEmpty = false := by
        rw [List.isEmpty_eq_false_iff]
        intro z
        have := congrArg List.length z
        unfold curOf at this
        rw [List.length_take, List.length_drop] at this
        simp at this
        simp [Str.length] at e0 hm hlt
        omega
      cases hsp : Unicode.isSpace s.cps.toList[cur] with
      | true =>
        have eb : StrLaws.swBody s limit cur (none, ws, some b) = pure (ForInStep.yield (none, ws.push (b, cur), none)) := by
          unfold StrLaws.swBody
          rw [if_neg hsz, hg, hsp]
        rw [eb]
        have := ih (ws.push (b, cur)) none (by omega) (by rw [Array.size_push]; omega) (fun b hb => nomatch hb)
        simp only [wordsL, hsp, ne, if_true, if_false, Bool.false_eq_true]
        rw [Array.toList_push, List.map_append, List.map_cons, List.map_nil, sub_list, List.append_assoc] at this
        simpa [curOf] using this
      | false =>
        have eb : StrLaws.swBody s limit cur (none, ws, some b) = pure (ForInStep.yield (none, ws, some b)) := by
          unfold StrLaws.swBody
          rw [if_neg hsz, hg, hsp]
        rw [eb]
        have := ih ws (some b) (by omega) (by omega) (fun b' hb => by cases hb; omega)
        simp only [wordsL, hsp, Bool.false_eq_true, if_false]
        have ec : curOf s cur (some b) ++ [s.cps.toList[cur]] = curOf s (cur + 1) (some b) := by
          show (s.cps.toList.drop b).take (cur - b) ++ _ = (s.cps.toList.drop b).take (cur + 1 - b)
          rw [show cur + 1 - b = (cur - b) + 1 by omega, List.take_add_one]
          congr 1
          rw [List.getElem?_drop, show b + (cur - b) = cur by omega, List.getElem?_eq_getElem hlt]
          rfl
        rw [ec]
        simpa using this
theorem words_L (x : Str) : Txt.words x = (wordsL [] x.cps.toList).map toS := by
  have key := sw_words x (x.length + 1) (Nat.lt_succ_self _) x.length 0 #[] none (by omega) (Nat.le_refl _) (fun b hb => nomatch hb)
  rw [← StrLaws.sw_eq] at key
  simp only [List.map_nil, List.nil_append, curOf, List.drop_zero] at key
  rw [← key]
  unfold Txt.words
  split
  · next h =>
    have h := eq_of_beq h
    rw [h]
    simp only [List.map_cons, List.map_nil, sub_list, List.drop_zero, Nat.sub_zero]
    congr 1
    apply Str.ext'
    show x.cps = (List.take x.cps.size x.cps.toList).toArray
    rw [List.take_of_length_le (by ac_rfl)]
  · unfold PySem.wordsOf
    apply List.map_congr_left
    intro ⟨i, j⟩ _
    rfl
noncomputable def rpl (c : Nat) (z : List Nat) (l : List Nat) : List Nat := l.flatMap fun d => if d = c then z else [d]
theorem rpl_free (c : Nat) (z : List Nat) : ∀ l : List Nat, c ∉ l → rpl c z l = l
  | [], _ => rfl
  | k :: r, h => by
    have h1 : ¬ k = c := fun e => h (e ▸ List.mem_cons_self ..)
    have h2 : c ∉ r := fun m => h (List.mem_cons_of_mem _ m)
    have ih := rpl_free c z r h2
    unfold rpl at ih ⊢
    rw [List.flatMap_cons, if_neg h1, ih]
    rfl
theorem rpl_append (c : Nat) (z a b : List Nat) : rpl c z (a ++ b) = rpl c z a ++ rpl c z b := by
  unfold rpl; rw [List.flatMap_append]
theorem rpl_join (c : Nat) (z : Str) : ∀ parts : List Str, (∀ p ∈ parts, c ∉ p.cps.toList) → rpl c z.cps.toList (Str.join ⟨#[c]⟩ parts).cps.toList = (Str.join z parts).cps.toList
  | [], _ => rfl
  | [p], h => rpl_free c _ _ (h p (List.mem_singleton.mpr rfl))
  | p :: q :: r, h => by
    have ih := rpl_join c z (q :: r) fun a ha => h a (List.mem_cons_of_mem _ ha)
    show rpl c z.cps.toList (p ++ ⟨#[c]⟩ ++ Str.join ⟨#[c]⟩ (q :: r)).cps.toList = (p ++ z ++ Str.join z (q :: r)).cps.toList
    simp only [Str.cps_append, Array.toList_append]
    rw [rpl_append, rpl_append, ih, rpl_free c _ _ (h p (List.mem_cons_self ..))]
    congr 2
    simp [rpl]
theorem replace_L (x z : Str) (c : Nat) : (Txt.replace x ⟨#[c]⟩ z).cps.toList = rpl c z.cps.toList x.cps.toList := by
  rw [StrLaws.replace_one, ← rpl_join c _ _ (StrLaws.split_free x c), StrLaws.join_split]
theorem join_count (c : Nat) : ∀ parts : List Str, (∀ p ∈ parts, c ∉ p.cps.toList) → (Str.join ⟨#[c]⟩ parts).cps.toList.count c + 1 = parts.length ∨ parts = []
  | [], _ => .inr rfl
  | [p], h => .inl (by
      have : p.cps.toList.count c = 0 := List.count_eq_zero.mpr (h p (List.mem_singleton.mpr rfl))
      show p.cps.toList.count c + 1 = 1
      rw [this])
  | p :: q :: r, h => .inl (by
      rcases join_count c (q :: r) fun a ha => h a (List.mem_cons_of_mem _ ha) with ih | ih
      · have h0 : p.cps.toList.count c = 0 := List.count_eq_zero.mpr (h p (List.mem_cons_self ..))
        show (p ++ ⟨#[c]⟩ ++ Str.join ⟨#[c]⟩ (q :: r)).cps.toList.count c + 1 = _
        simp only [Str.cps_append, Array.toList_append, List.count_append, h0]
        have e1 : (⟨#[c]⟩ : Str).cps.toList.count c = 1 := by simp
        rw [e1]
        simp only [List.length_cons] at ih ⊢
        omega
      · cases ih)
theorem parts_len (x : Str) (w : Nat) : ∀ (a : Nat) (cuts : List Nat), (StrLaws.partsFrom x w a cuts).length = cuts.length + 1
  | _, [] => rfl
  | _, c :: r => by
    show (StrLaws.partsFrom x w (c + w) r).length + 1 = _
    rw [parts_len x w (c + w) r]
    rfl
theorem count_L (x : Str) (c : Nat) : (Builtin.Str.occurrences x ⟨#[c]⟩ 0 x.length (x.length + 1)).length = x.cps.toList.count c := by
  have h1 := StrLaws.join_split x ⟨#[c]⟩
  have h2 := join_count c _ (StrLaws.split_free x c)
  rw [h1] at h2
  cases he : (Builtin.Str.occurrences x ⟨#[c]⟩ 0 x.length (x.length + 1)) with
  | nil =>
    have : Txt.split x ⟨#[c]⟩ = [x] := by
      unfold Txt.split
      rw [he]
      split <;> rfl
    rw [this] at h2
    rcases h2 with h2 | h2
    · simp at h2 ⊢; omega
    · cases h2
  | cons i r =>
    by_cases hc : (decide (x.length < (⟨#[c]⟩ : Str).length) || decide (Builtin.Str.strKind x < Builtin.Str.strKind ⟨#[c]⟩)) = true
    · exfalso
      obtain ⟨f, h⟩ := StrLaws.occ_chain x ⟨#[c]⟩ (x.length + 1)
      rw [he] at h
      have hm := (StrLaws.subAt_one x c i).mp h.2.1
      have hin : c ∈ x.cps.toList := List.mem_of_getElem? hm
      exact StrLaws.split_free x c x (by unfold Txt.split; rw [if_pos hc]; exact List.mem_singleton.mpr rfl) hin
    · have : Txt.split x ⟨#[c]⟩ = StrLaws.partsFrom x 1 0 (i :: r) := by
        unfold Txt.split
        rw [if_neg hc, he, if_neg (by ac_rfl), StrLaws.partsBetween_eq]
        rfl
      rw [this, parts_len] at h2
      rcases h2 with h2 | h2
      · omega
      · obtain ⟨p, q, e⟩ := StrLaws.partsFrom_ne x 1 0 (i :: r)
        rw [e] at h2
        cases h2
section
variable {w : World} {A : Around} {R : Result → Shared → Prop} {h₀ : Heap} {g : Array GenState} {d : Drawn} {T : Nat} {ost : OsState}
theorem cReplace {x z : Str} {c t u v : Nat} (hu : u ≠ 0) (hv : v ≠ 0) (huv : u ≠ v) (hcz : ((⟨#[c]⟩ : Str) == z) = false) (hsz : x.length + (x.length + 1) * z.length ≤ sizeLine) (h : ∀ k T', R (.ok (.ret (.str (Txt.replace x ⟨#[c]⟩ z) k))) ⟨h₀, g, d, T', ost⟩) :
    codeAny (model pg w) A (cB "str.replace" [.str x t, .str ⟨#[c]⟩ u, .str z v]) R ⟨h₀, g, d, T, ost⟩ := by
  have hn := StrLaws.occ_length_le x ⟨#[c]⟩ 0 x.length (x.length + 1)
  have hm : x.length + (Builtin.Str.occurrences x ⟨#[c]⟩ 0 x.length (x.length + 1)).length * z.length ≤ sizeLine := Nat.le_trans (Nat.add_le_add_left (Nat.mul_le_mul_right _ hn) _) hsz
  have hu' : ¬ u = v := huv
  refine code_gives F.slot_str_replace (typeIs_str _ x t) F.entry_str_replace (F.args_str_replace_3 _ _ _) (gives_str_replace x ⟨#[c]⟩ z t u v fun _ => ⟨by simp [hu, hv], by simpa using huv, hcz, ?_⟩) ?_
  · show decide (_ > sizeLine) = false
    exact decide_eq_false (Nat.not_lt.mpr hm)
  · have e : Txt.replace x ⟨#[c]⟩ z = if ((Builtin.Str.occurrences x ⟨#[c]⟩ 0 x.length (x.length + 1)).isEmpty || ((⟨#[c]⟩ : Str).length == 0 && z.length == 0)) = true then x else Builtin.Str.glued z (Builtin.Str.partsBetween x (Builtin.Str.occurrences x ⟨#[c]⟩ 0 x.length (x.length + 1)) (⟨#[c]⟩ : Str).length) := rfl
    split
    · next hc =>
      rw [if_pos hc] at e
      have := h t T
      rw [e] at this
      exact this
    · next hc =>
      rw [if_neg hc] at e
      refine ⟨?_, ?_⟩
      · rw [← e]
        have : (Txt.replace x ⟨#[c]⟩ z).length ≤ x.length + (x.length + 1) * z.length := by
          show (Txt.replace x ⟨#[c]⟩ z).cps.size ≤ _
          rw [← Array.length_toList, replace_L]
          unfold rpl
          have : ∀ l : List Nat, (l.flatMap fun d => if d = c then z.cps.toList else [d]).length ≤ l.length + l.length * z.length := by
            intro l
            induction l with
            | nil => simp
            | cons a l ih =>
              rw [List.flatMap_cons, List.length_append, List.length_cons, Nat.succ_mul]
              have : (if a = c then z.cps.toList else [a]).length ≤ z.length + 1 := by
                split
                · show z.cps.toList.length ≤ z.cps.size + 1
                  simp
                · simp
              omega
          have := this x.cps.toList
          have e2 : x.cps.toList.length = x.length := rfl
          rw [e2] at this
          refine Nat.le_trans this ?_
          rw [Nat.succ_mul]
          omega
        exact Nat.le_trans this hsz
      · have := h T (T + 1)
        rw [e] at this
        exact this
theorem strs_sv : ∀ (ws : List Str) (tk : Nat), ∃ l : List (Str × Nat), l.map sv = strsFrom tk ws ∧ l.map (·.1) = ws
  | [], _ => ⟨[], rfl, rfl⟩
  | x :: r, tk => by
    obtain ⟨l, h1, h2⟩ := strs_sv r (tk + 1)
    exact ⟨(x, tk) :: l, by simp [strsFrom, h1], by simp [h2]⟩
theorem cSplit {x : Str} {t : Nat} (hsz : x.length ≤ sizeLine) (h : ∀ l T', l.map (·.1) = (wordsL [] x.cps.toList).map toS → R (.ok (.ret (.ref h₀.objs.size))) ⟨h₀.push (listO (sA l) 0), g, d, T', ost⟩) :
    codeAny (model pg w) A (cB "str.split" [.str x t]) R ⟨h₀, g, d, T, ost⟩ := by
  have hw := words_L x
  unfold Txt.words at hw
  have hn : (Builtin.Str.spaceWords x (x.length + 1)).length ≤ sizeLine ∨ (Builtin.Str.spaceWords x (x.length + 1)).length = x.length + 1 := by
    have h1 := (StrLaws.sw_weight x).1
    have h2 := StrLaws.len_le_wsum (Builtin.Str.spaceWords x (x.length + 1))
    omega
  have hn' : (Builtin.Str.spaceWords x (x.length + 1)).length ≤ sizeLine := by
    rcases hn with hn | hn
    · exact hn
    · exfalso
      have h1 := (StrLaws.sw_weight x).1
      have h2 := StrLaws.sw_pos x
      have : ∀ l : List (Nat × Nat), (∀ p ∈ l, p.1 < p.2) → 2 * l.length ≤ StrLaws.wsum l := by
        intro l
        induction l with
        | nil => intro _; exact Nat.le_refl _
        | cons p l ih =>
          intro hp
          have a := ih fun q hq => hp q (.tail _ hq)
          have b := hp p (.head _)
          show 2 * (l.length + 1) ≤ (p.2 - p.1 + 1) + StrLaws.wsum l
          omega
      have := this _ h2
      omega
  refine code_meets F.slot_str_split (typeIs_str _ x t) F.entry_str_split (F.args_str_split_1 _) (meets_str_split_space x t hsz hn') ?_
  show if _ then _ else _
  split
  · next hc =>
    rw [if_pos hc] at hw
    exact h [(x, t)] T hw
  · next hc =>
    rw [if_neg hc] at hw
    obtain ⟨l, h1, h2⟩ := strs_sv (PySem.wordsOf x) T
    rw [← h1]
    exact h l _ (h2.trans hw)
theorem oCount {x y : Str} {t u : Nat} : OrcOk pg w ⟨cB "str.count" [.str x t, .str y u], fun k => .int (Builtin.Str.occurrences x y 0 x.length (x.length + 1)).length k, 1⟩ :=
  orc_int F.slot_str_count (fun s => typeIs_str s x t) F.entry_str_count (F.args_str_count_2 _ _) (gives_str_count x y t u)
theorem cJoin {sep : Str} {t : Nat} {a : Addr} {l : List (Str × Nat)} {n : Nat} (ha : h₀.get? a = some (listO (sA l) n)) (hsz : ((l.map (·.1)).map (·.length)).sum + l.length * sep.length ≤ sizeLine) (h : ∀ k T', R (.ok (.ret (.str (Str.join sep (l.map (·.1))) k))) ⟨h₀, g, d, T', ost⟩) :
    codeAny (model pg w) A (cB "str.join" [.str sep t, .ref a]) R ⟨h₀, g, d, T, ost⟩ := by
  have htl : Builtin.Str.tooLong ((l.map (·.1)).toArray.foldl (· + ·.length + sep.length) 0) = false := by
    rw [StrLaws.joinTotal]
    rw [List.length_map]
    exact decide_eq_false (Nat.not_lt.mpr hsz)
  refine code_meets F.slot_str_join (typeIs_str _ sep t) F.entry_str_join (F.args_str_join_2 _ _) (meets_str_join_list sep t a l htl) ⟨⟨_, ha, rfl, n, by simp [strValues, listO]⟩, ?_⟩
  have h' := h T (T + 1)
  have jl := Nat.le_trans (StrLaws.join_length_le sep (l.map (·.1))) (by rw [List.length_map]; exact hsz)
  match l, h, h', jl with
  | [], _, h', jl =>
    refine ⟨by show (Builtin.Str.glued sep []).length ≤ _; rw [StrLaws.glued_eq_join]; exact jl, ?_⟩
    show R (.ok (.ret (.str (Builtin.Str.glued sep []) _))) _
    rw [StrLaws.glued_eq_join]; exact h'
  | [p], h, _, _ => exact h p.2 T
  | p :: q :: r, _, h', jl =>
    refine ⟨by show (Builtin.Str.glued sep ((p :: q :: r).map (·.1))).length ≤ _; rw [StrLaws.glued_eq_join]; exact jl, ?_⟩
    show R (.ok (.ret (.str (Builtin.Str.glued sep ((p :: q :: r).map (·.1))) _))) _
    rw [StrLaws.glued_eq_join]; exact h'
end
noncomputable abbrev litO (l : Value) (i : Nat) : Obj := ⟨.type "list_iterator", none, .fields #[l, .int (i : Int) 0], #[]⟩
section
variable {w : World} {A : Around} {R : Result → Shared → Prop} {h₀ : Heap} {g : Array GenState} {d : Drawn} {T : Nat} {ost : OsState}
theorem cNextItem {it l : Addr} {i n : Nat} {xs : Array Value} {x : Value} (hit : h₀.get? it = some (litO (.ref l) i)) (hl : h₀.get? l = some (listO xs n)) (hx : xs[i]? = some x)
    (h : ∀ h', Kp [it] h₀ h' → h'.get? it = some (litO (.ref l) (i + 1)) → R (.ok (.ret x)) ⟨h', g, d, T, ost⟩) : codeAny (model pg w) A (cB "list_iterator.__next__" [.ref it]) R ⟨h₀, g, d, T, ost⟩ := by
  refine codeAny_call_builtin slot_listiter_next.plain entry_listiter_next (slot_listiter_next.check _ _ _ _ _ _ _ _ ⟨_, hit, rfl⟩ (args_listiter_next _) ?_)
  show wpAny _ _ (field (.ref it) 0 >>= _) _ _ _
  refine wpAny_bind (wpAny_field hit rfl (x := .ref l) rfl ?_)
  show wpAny _ _ (if (Value.ref l == Value.none) = true then _ else _) _ _ _
  rw [if_neg (show ¬ ((Value.ref l == Value.none) = true) from Bool.false_ne_true)]
  show wpAny _ _ (field (.ref it) 1 >>= _) _ _ _
  refine wpAny_bind (wpAny_field hit rfl (x := .int i 0) rfl ?_)
  show wpAny _ _ (seqItems? (.ref l) >>= _) _ _ _
  refine wpAny_bind (wpAny_seqItems hl rfl ?_)
  simp only [Int.toNat_natCast, hx]
  refine wpAny_bind (wpAny_setField hit rfl (by ac_rfl) (wpAny_pure (h _ (kp_upd ..) ?_)))
  exact Heap.get?_update_self _ hit rfl
theorem cNextStop {it l : Addr} {i n : Nat} {xs : Array Value} (hA : A.handled = none) (hit : h₀.get? it = some (litO (.ref l) i)) (hl : h₀.get? l = some (listO xs n)) (hx : xs[i]? = none)
    (h : ∀ h' e tp, Kp [it] h₀ h' → h'.get? it = some (litO .none i) → h'.get? e = some (stopO tp) → h₀.objs.size ≤ e → R (.error (.ref e)) ⟨h', g, d, T, ost⟩) : codeAny (model pg w) A (cB "list_iterator.__next__" [.ref it]) R ⟨h₀, g, d, T, ost⟩ := by
  refine codeAny_call_builtin slot_listiter_next.plain entry_listiter_next (slot_listiter_next.check _ _ _ _ _ _ _ _ ⟨_, hit, rfl⟩ (args_listiter_next _) ?_)
  show wpAny _ _ (field (.ref it) 0 >>= _) _ _ _
  refine wpAny_bind (wpAny_field hit rfl (x := .ref l) rfl ?_)
  show wpAny _ _ (if (Value.ref l == Value.none) = true then _ else _) _ _ _
  rw [if_neg (show ¬ ((Value.ref l == Value.none) = true) from Bool.false_ne_true)]
  show wpAny _ _ (field (.ref it) 1 >>= _) _ _ _
  refine wpAny_bind (wpAny_field hit rfl (x := .int i 0) rfl ?_)
  show wpAny _ _ (seqItems? (.ref l) >>= _) _ _ _
  refine wpAny_bind (wpAny_seqItems hl rfl ?_)
  simp only [Int.toNat_natCast, hx]
  refine wpAny_bind (wpAny_rule (wpAny_bind (wpAny_setField hit rfl (by ac_rfl) ?_)))
  have i3 := Heap.get?_update_self (h := h₀) (Obj.mapFields (·.setIfInBounds 0 .none)) hit rfl
  show wpAny _ _ (newExc (.type "StopIteration") [] >>= _) _ _ _
  refine wpAny_bind ?_
  simp only [newExc, newTuple]
  refine wpAny_bind (wpAny_newObj_type ?_ (by size_fits))
  refine wpAny_bind (m := firstArgMember _ _) (wpAny_of_eq (a := Value.none) (by first | rfl | (simp only [firstArgMember]; rfl)) ?_)
  refine wpAny_newObj_type ?_ (by size_fits)
  simp only [raiseNew]
  refine wpAny_bind (wpAny_handled ?_)
  rw [show A.in1.handled = none from hA]
  refine wpAny_bind (wpAny_pure (wpAny_throw ?_))
  have U1 := kp_upd h₀ it (Obj.mapFields (·.setIfInBounds 0 .none))
  have U4 := U1.trans (kp_push _ ⟨.type "tuple", none, .seq #[] 0, #[]⟩) fun a ha => nomatch ha
  have U := U4.trans (kp_push _ (stopO (h₀.update it (Obj.mapFields (·.setIfInBounds 0 .none))).objs.size)) fun a ha => nomatch ha
  refine h _ _ _ U ?_ (Heap.get?_push_size _ rfl) U4.1
  have q := (kp_push (h₀.update it (Obj.mapFields (·.setIfInBounds 0 .none))) ⟨.type "tuple", none, .seq #[] 0, #[]⟩).get i3 (fun h => nomatch h)
  exact (kp_push _ (stopO (h₀.update it (Obj.mapFields (·.setIfInBounds 0 .none))).objs.size)).get q (fun h => nomatch h)
end
noncomputable def askS2 (w : World) (b c : Bool) : Setting := ⟨pg, { w.params with followText := fun r => if r = "special-get-raises" then b else if r = "comprehension-iter-twice" then c else w.params.followText r }⟩
theorem askS2_rfl : @askS2 = @askS2 := rfl
end Mine
lay_z Mine.askS2
name_z askZ2 for Mine.askS2 by Mine.askS2_rfl
namespace Mine
open PySem PySem.W PySem.W.X PyProof.Rows PySem.W.ZFast
theorem askZ2_is {w : World} {b c : Bool} (hb : w.params.followText "special-get-raises" = b) (hc : w.params.followText "comprehension-iter-twice" = c) : askZ2 w b c = ⟨pg, w.params⟩ := by
  rw [← congrFun (congrFun (congrFun askZ2_eq w) b) c]
  unfold askS2
  have e : (fun r => if r = "special-get-raises" then b else if r = "comprehension-iter-twice" then c else w.params.followText r) = w.params.followText := by
    funext r
    by_cases h : r = "special-get-raises"
    · rw [if_pos h, h, hb]
    · rw [if_neg h]
      by_cases h2 : r = "comprehension-iter-twice"
      · rw [if_pos h2, h2, hc]
      · rw [if_neg h2]
  rw [e]
noncomputable def VV2 (w : World) (b c : Bool) (N T : Nat) : HV := ⟨askZ2 w b c, ktZ w.params, N, T⟩
section
variable {w : World} {b cc : Bool} {A : Around} {R : Result → Shared → Prop} {n : Nat} {hs : List Nat} {os : List Orc} {led : Led} {s₀ h₀ : Heap} {M : List Addr} {g : Array GenState} {d : Drawn} {T N : Nat} {ost : OsState}
theorem code_fin2 {c : Code} {f : Fin} (C : Cur w s₀ M h₀ led) (hb : w.params.followText "special-get-raises" = b) (hc : w.params.followText "comprehension-iter-twice" = cc) (hA : A.handled = none) (hN : h₀.objs.size = N)
    (r : Res) (hr : r = startZ (VV2 w b cc N T) n hs os c led) (hos : ∀ o ∈ os, OrcOk pg w o) (hsm : Sames r) (e : finOf r.out = some f)
    (H : ∀ h N' T', h.objs.size = N' → Cur w s₀ M h r.led → postC pg w A R f ⟨h, g, d, T', ost⟩) : codeAny (model pg w) A c R ⟨h₀, g, d, T, ost⟩ := by
  subst hN
  have D0 : Hold (VV2 w b cc h₀.objs.size T) h₀ (led.map (·.1)) h₀ led 0 := ⟨rfl, C.at_, C.nd, C.sta, C.off, fun p hp => .inl (List.mem_map_of_mem hp), Nat.le_refl _, fun _ _ e _ => e⟩
  exact code_run (s := ⟨h₀, g, d, T, ost⟩) hr (askZ2_is hb hc) hA rfl hos hsm D0 (ful_fin e fun h D => H h _ _ rfl (C.run (b := b) (T := T) (m := r.m) ⟨D.size, D.at_, D.nd, D.stat, D.off, D.dom, D.low, D.keep⟩))
end
noncomputable def sWord : Str := ⟨#[119, 111, 114, 100]⟩
noncomputable def sZero : Str := ⟨#[48, 120, 48]⟩
noncomputable def toLoop : Code → Code
  | .compStart e d it acc env => .compLoop e d it acc env
  | c => c
noncomputable abbrev dO0 : Obj := ⟨.type "dict", none, .dict #[] 0, #[]⟩
noncomputable abbrev dO1 (P : Params) (k : Nat) (s : Str) (t : Nat) : Obj := ⟨.type "dict", none, .dict #[ent P sWord k (.str s t)] 1, #[]⟩
noncomputable abbrev dO1z (P : Params) (k : Nat) (s : Str) (t : Nat) : Obj := ⟨.type "dict", none, .dict #[entZ P sWord k (.str s t)] 1, #[]⟩
theorem dO1z_is (P : Params) (k : Nat) (s : Str) (t : Nat) : dO1z P k s t = dO1 P k s t := by
  unfold dO1z; rw [entZ_is]
noncomputable abbrev dObj (P : Params) : Option (Nat × Str × Nat) → Obj
  | none => dO0
  | some (k, s, t) => dO1 P k s t
noncomputable abbrev dOn (P : Params) (T : Nat) (s : Str) (t : Nat) : Option (Nat × Str × Nat) → Obj
  | none => dO1z P T s t
  | some (k, _, _) => dO1 P k s t
noncomputable def ddK (dd : Option (Nat × Str × Nat)) (T : Nat) : Nat := match dd with
  | none => T
  | some q => q.1
theorem dOn_is (P : Params) (T : Nat) (s : Str) (t : Nat) (dd : Option (Nat × Str × Nat)) : dOn P T s t dd = dO1 P (ddK dd T) s t := by
  cases dd with
  | none => exact dO1z_is ..
  | some q => rfl
section
variable (w : World) (b : Bool) (N0 T0 : Nat) (tok : Str) (tk N1 T1 N2 T2 : Nat) (y : Str) (yk N3 T3 D : Nat) (ys : Array Value) (N4 T4 : Nat) (cc : Bool) (i : Nat) (xs : Array Value) (n : Nat) (dd : Option (Nat × Str × Nat)) (N5 T5 : Nat) (s : Str) (t N6 T6 : Nat) (xs2 : Array Value) (n2 e ts k0 : Nat) (s0 : Str) (t0 : Nat)
@[irreducible] noncomputable def wd0 : Res := enterZ (VV w b N0 T0) 60 [1, 1] [] 90 (fdK w.params 90) ⟨[.str tok tk], []⟩ []
theorem wd0' : (fun r => Lk r [] (isAg r.out = true) (r.i = 1)) (wd0 w b N0 T0 tok tk) := by cases b <;> rfl'
@[irreducible] noncomputable def wd1 : Res := startZ (VV w b N1 T1) 200 [1, 1] [] (agOf (wd0 w b N0 T0 tok tk).out) (wd0 w b N0 T0 tok tk).led
theorem wd1' : (fun r => Lk r [] (callOf r.out = some (cB "str.replace" [.str tok tk, .str ⟨#[44]⟩ T1, .str ⟨#[32]⟩ (T1 + 1)])) (wtO r.out = 1)) (wd1 w b N0 T0 tok tk N1 T1) := by cases b <;> rfl'
@[irreducible] noncomputable def wd2 : Res := resumeZ (VV w b N2 T2) 200 [1] [] (wd1 w b N0 T0 tok tk N1 T1).out (.ok (.ret (.str y yk))) (wd1 w b N0 T0 tok tk N1 T1).led
theorem wd2' : (fun r => Lk r [] (callOf r.out = some (cB "str.split" [.str y yk])) (wtO r.out = 1)) (wd2 w b N0 T0 tok tk N1 T1 N2 T2 y yk) := by cases b <;> rfl'
@[irreducible] noncomputable def wd3 : Res := resumeZ (VV w b N3 T3) 200 [2, 2, 0, 2, 3, 1] [] (wd2 w b N0 T0 tok tk N1 T1 N2 T2 y yk).out (.ok (.ret (.ref D))) (snoc (wd2 w b N0 T0 tok tk N1 T1 N2 T2 y yk).led D (listO ys 0))
theorem wd3' : (fun r => Lk r [(1, D, listO ys 0), (2, N3, litO (.ref D) 0), (3, N3 + 1, listO #[] 0), (4, N3 + 2, dO0)] (callOf r.out = some (clOf r.out)) ((wtO r.out = 1) ∧ ((toLoop (clOf r.out)).quiet = true))) (wd3 w b N0 T0 tok tk N1 T1 N2 T2 y yk N3 T3 D ys) := by cases b <;> rfl'
@[irreducible] noncomputable def wcs : Res := startZ (VV2 w b cc N4 T4) 100 (bif cc then [] else [1, 1, 0, 1, 1]) [] (clOf (wd3 w b N0 T0 tok tk N1 T1 N2 T2 y yk N3 T3 D ys).out) [(N3, litO (.ref D) 0), (N3 + 1, listO #[] 0), (N3 + 2, dO0), (D, listO ys 0)]
theorem wcs' : (fun r => Lk r [] (finOf r.out = some (.again (toLoop (clOf (wd3 w b N0 T0 tok tk N1 T1 N2 T2 y yk N3 T3 D ys).out)))) (r.led = [(N3, litO (.ref D) 0), (N3 + 1, listO #[] 0), (N3 + 2, dO0), (D, listO ys 0)])) (wcs w b N0 T0 tok tk N1 T1 N2 T2 y yk N3 T3 D ys N4 T4 cc) := by cases b <;> cases cc <;> rfl'
@[irreducible] noncomputable def ca1 : Res := startZ (VV w b N4 T4) 100 [1, 1] [] (toLoop (clOf (wd3 w b N0 T0 tok tk N1 T1 N2 T2 y yk N3 T3 D ys).out)) [(N3, litO (.ref D) i), (N3 + 1, listO xs n), (N3 + 2, (dObj w.params dd)), (D, listO ys 0)]
theorem ca1' : (fun r => Lk r [(0, N3, litO (.ref D) i), (1, N3 + 1, listO xs n), (2, N3 + 2, (dObj w.params dd)), (3, D, listO ys 0)] (callOf r.out = some (cB "list_iterator.__next__" [.ref N3])) (wtO r.out = 0)) (ca1 w b N0 T0 tok tk N1 T1 N2 T2 y yk N3 T3 D ys N4 T4 i xs n dd) := by cases b <;> rcases dd with _ | ⟨k0, s0, t0⟩ <;> rfl'
@[irreducible] noncomputable def cb1 : Res := resumeZ (VV w b N5 T5) 200 [3, 3, 3, 2, 3, 1] [⟨cB "str.__ne__" [.str s t, .str sZero (T5 + 1)], fun _ => .bool true, 0⟩] (ca1 w b N0 T0 tok tk N1 T1 N2 T2 y yk N3 T3 D ys N4 T4 i xs n dd).out (.ok (.ret (.str s t))) (put (ca1 w b N0 T0 tok tk N1 T1 N2 T2 y yk N3 T3 D ys N4 T4 i xs n dd).led 0 (litO (.ref D) (i + 1)))
theorem cb1' : (fun r => Lk r [(0, N3, litO (.ref D) (i + 1)), (1, N3 + 1, listO xs n), (2, N3 + 2, dOn w.params T5 s t dd), (3, D, listO ys 0)] (callOf r.out = some (cB "list.append" [.ref (N3 + 1), .str s t])) (wtO r.out = 0)) (cb1 w b N0 T0 tok tk N1 T1 N2 T2 y yk N3 T3 D ys N4 T4 i xs n dd N5 T5 s t) := by cases b <;> rcases dd with _ | ⟨k0, s0, t0⟩ <;> rfl'
@[irreducible] noncomputable def cc1 : Res := resumeZ (VV w b N6 T6) 100 [] [] (cb1 w b N0 T0 tok tk N1 T1 N2 T2 y yk N3 T3 D ys N4 T4 i xs n dd N5 T5 s t).out (.ok (.ret .none)) (put (cb1 w b N0 T0 tok tk N1 T1 N2 T2 y yk N3 T3 D ys N4 T4 i xs n dd N5 T5 s t).led 1 (listO xs2 n2))
theorem cc1' : (fun r => Lk r [(0, N3, litO (.ref D) (i + 1)), (1, N3 + 1, listO xs2 n2), (2, N3 + 2, dOn w.params T5 s t dd), (3, D, listO ys 0)] (finOf r.out = some (.again (toLoop (clOf (wd3 w b N0 T0 tok tk N1 T1 N2 T2 y yk N3 T3 D ys).out)))) (True)) (cc1 w b N0 T0 tok tk N1 T1 N2 T2 y yk N3 T3 D ys N4 T4 i xs n dd N5 T5 s t N6 T6 xs2 n2) := by cases b <;> rcases dd with _ | ⟨k0, s0, t0⟩ <;> rfl'
@[irreducible] noncomputable def cz1 : Res := resumeZ (VV w b N5 T5) 200 [3, 3, 3, 2] [⟨cB "str.__ne__" [.str s t, .str sZero (T5 + 1)], fun _ => .bool false, 0⟩] (ca1 w b N0 T0 tok tk N1 T1 N2 T2 y yk N3 T3 D ys N4 T4 i xs n dd).out (.ok (.ret (.str s t))) (put (ca1 w b N0 T0 tok tk N1 T1 N2 T2 y yk N3 T3 D ys N4 T4 i xs n dd).led 0 (litO (.ref D) (i + 1)))
theorem cz1' : (fun r => Lk r [(0, N3, litO (.ref D) (i + 1)), (1, N3 + 1, listO xs n), (2, N3 + 2, dOn w.params T5 s t dd), (3, D, listO ys 0)] (finOf r.out = some (.again (toLoop (clOf (wd3 w b N0 T0 tok tk N1 T1 N2 T2 y yk N3 T3 D ys).out)))) (True)) (cz1 w b N0 T0 tok tk N1 T1 N2 T2 y yk N3 T3 D ys N4 T4 i xs n dd N5 T5 s t) := by cases b <;> rcases dd with _ | ⟨k0, s0, t0⟩ <;> rfl'
@[irreducible] noncomputable def ce1 : Res := resumeZ (VV w b N5 T5) 100 [1] [] (ca1 w b N0 T0 tok tk N1 T1 N2 T2 y yk N3 T3 D ys N4 T4 i xs n dd).out (.error (.ref e)) [(e, stopO ts)]
theorem ce1' : (fun r => Lk r [(0, e, stopO ts)] (finOf r.out = some (.done .next)) (True)) (ce1 w b N0 T0 tok tk N1 T1 N2 T2 y yk N3 T3 D ys N4 T4 i xs n dd N5 T5 e ts) := by cases b <;> rcases dd with _ | ⟨k0, s0, t0⟩ <;> rfl'
@[irreducible] noncomputable def wf0 : Res := resumeZ (VV w b N4 T4) 100 [1] [] (wd3 w b N0 T0 tok tk N1 T1 N2 T2 y yk N3 T3 D ys).out (.ok .next) [(N3 + 2, dO0)]
theorem wf0' : (fun r => Lk r [] (finOf r.out = some (.done (.ret (.ref (N3 + 1))))) (True)) (wf0 w b N0 T0 tok tk N1 T1 N2 T2 y yk N3 T3 D ys N4 T4) := by cases b <;> rfl'
@[irreducible] noncomputable def wf1 : Res := resumeZ (VV w b N4 T4) 100 [1, 1, 1] [] (wd3 w b N0 T0 tok tk N1 T1 N2 T2 y yk N3 T3 D ys).out (.ok .next) [(N3 + 2, dO1 w.params k0 s0 t0)]
theorem wf1' : (fun r => Lk r [] (finOf r.out = some (.done (.ret (.ref (N3 + 1))))) (True)) (wf1 w b N0 T0 tok tk N1 T1 N2 T2 y yk N3 T3 D ys N4 T4 k0 s0 t0) := by cases b <;> rfl'
end
structure WAt (w : World) (N3 D i : Nat) (xs : Array Value) (n : Nat) (dd : Obj) (ys : Array Value) (h : Heap) : Prop where
  it : h.get? N3 = some (litO (.ref D) i)
  acc : h.get? (N3 + 1) = some (listO xs n)
  dct : h.get? (N3 + 2) = some dd
  src : h.get? D = some (listO ys 0)
  nd : [N3, N3 + 1, N3 + 2, D].Nodup
  off : ∀ a ∈ [N3, N3 + 1, N3 + 2, D], Off w a
theorem WAt.cur {w : World} {N3 D i : Nat} {xs : Array Value} {n : Nat} {dd : Obj} {ys : Array Value} {h : Heap} (W : WAt w N3 D i xs n dd ys h) (S : Sta w h) : (∀ p ∈ ([(N3, litO (.ref D) i), (N3 + 1, listO xs n), (N3 + 2, dd), (D, listO ys 0)] : Led), h.get? p.1 = some p.2) ∧ Cur w h (([(N3, litO (.ref D) i), (N3 + 1, listO xs n), (N3 + 2, dd), (D, listO ys 0)] : Led).map (·.1)) h [(N3, litO (.ref D) i), (N3 + 1, listO xs n), (N3 + 2, dd), (D, listO ys 0)] := by
  have ha : ∀ p ∈ ([(N3, litO (.ref D) i), (N3 + 1, listO xs n), (N3 + 2, dd), (D, listO ys 0)] : Led), h.get? p.1 = some p.2 := by
    exact mC (W.it) (mC (W.acc) (mC (W.dct) (mC (W.src) mN)))
  refine ⟨ha, Cur.start S ha W.nd ?_⟩
  exact mC (W.off _ (by ac_rfl)) (mC (W.off _ (by ac_rfl)) (mC (W.off _ (by ac_rfl)) (mC (W.off _ (by ac_rfl)) mN)))
noncomputable def WEnd (w : World) (N3 : Nat) (a : List (Str × Nat)) (h : Heap) (f : Flow) (h' : Heap) : Prop := f = .next ∧ Kp [N3, N3 + 1, N3 + 2] h h' ∧ ∃ n dd, h'.get? (N3 + 1) = some (listO (sA a) n) ∧ h'.get? (N3 + 2) = some (dObj w.params dd)
theorem sA_push (a : List (Str × Nat)) (p : Str × Nat) : (sA a).push (sv p) = sA (a ++ [p]) := by
  apply Array.ext'; simp
theorem src_item {ys : Array Value} {i : Nat} {p : Str × Nat} {rem : List (Str × Nat)} (h : ys.toList.drop i = (p :: rem).map sv) : ys[i]? = some (sv p) ∧ ys.toList.drop (i + 1) = rem.map sv := by
  have e : (ys.toList.drop i)[0]? = some (sv p) := by rw [h]; rfl
  rw [List.getElem?_drop, Nat.add_zero, Array.getElem?_toList] at e
  refine ⟨e, ?_⟩
  have := congrArg (List.drop 1) h
  rw [List.drop_drop] at this
  simpa using this
theorem src_end {ys : Array Value} {i : Nat} (h : ys.toList.drop i = []) : ys[i]? = none := by
  have := List.drop_eq_nil_iff.mp h
  exact Array.getElem?_eq_none (by simpa using this)
theorem loopW {w : World} {b : Bool} (hb : w.params.followText "special-get-raises" = b) (N0 T0 N1 T1 N2 T2 N3 T3 : Nat) (tok : Str) (tk : Nat) (y : Str) (yk D : Nat) (ys : Array Value) : ∀ (rem : List (Str × Nat)) (i : Nat) (a : List (Str × Nat)) (n : Nat) (dd : Option (Nat × Str × Nat)), ys.toList.drop i = rem.map sv → a.length + rem.length ≤ sizeLine →
    CtrF w 0 (toLoop (clOf (wd3 w b N0 T0 tok tk N1 T1 N2 T2 y yk N3 T3 D ys).out)) (WAt w N3 D i (sA a) n (dObj w.params dd) ys) (WEnd w N3 (a ++ rem.filter fun q => decide (q.1 ≠ sZero))) := by
  intro rem
  induction rem with
  | nil =>
    intro i a n dd hrem hsz
    rintro A R ⟨h0, g, d, T, ost⟩ hA hd S W H
    obtain ⟨N, hN⟩ : ∃ N, h0.objs.size = N := ⟨_, rfl⟩
    obtain ⟨ha, C0⟩ := W.cur S
    refine code_call C0 hb hA hN _ (ca1.eq_1 w b N0 T0 tok tk N1 T1 N2 T2 y yk N3 T3 D ys N T i (sA a) n dd) no_orc (ca1' ..).s (ca1' ..).o fun h1 N5 T5 hN1 C1 => ?_
    have K1 : Kp [] h0 h1 := by
      refine C1.fin ha ?_
      exact mC (.inr (C1.at' ((ca1' ..).g 0 rfl))) (mC (.inr (C1.at' ((ca1' ..).g 1 rfl))) (mC (.inr (C1.at' ((ca1' ..).g 2 rfl))) (mC (.inr (C1.at' ((ca1' ..).g 3 rfl))) mN)))
    refine cNextStop (aroO_handled hA _) (C1.at' ((ca1' ..).g 0 rfl)) (C1.at' ((ca1' ..).g 3 rfl)) (src_end hrem) fun h2 e ts K2 e2 e3 hne => ?_
    have S2 : Sta w h2 := C1.sta.kp K2 fun x hx => by cases List.mem_singleton.mp hx; exact W.off _ (by ac_rfl)
    have ha2 : ∀ p ∈ ([(e, stopO ts)] : Led), h2.get? p.1 = some p.2 := by
      exact mC (e3) mN
    refine res_fin (Cur.start S2 ha2 (by ac_rfl) (by
      exact mC (C1.sta.off hne) mN)) hb hA rfl _ (ce1.eq_1 w b N0 T0 tok tk N1 T1 N2 T2 y yk N3 T3 D ys N T i (sA a) n dd h2.objs.size T5 e ts) no_orc (ce1' ..).s (ce1' ..).o fun h3 N3' T3' hN3' C3 => ?_
    have K3 : Kp [] h2 h3 := by
      refine C3.fin ha2 ?_
      exact mC (.inr (C3.at' ((ce1' ..).g 0 rfl))) mN
    have K23 := K2.trans K3 fun a ha => nomatch ha
    have n1 : N3 + 1 ∉ [N3] := fun z => nd_ne W.nd 1 0 rfl rfl (by decide) (List.mem_singleton.mp z)
    have n2 : N3 + 2 ∉ [N3] := fun z => nd_ne W.nd 2 0 rfl rfl (by decide) (List.mem_singleton.mp z)
    refine H _ _ _ ⟨rfl, (K1.mono fun a ha => nomatch ha).trans K23 (fun x hx => .inl (by cases List.mem_singleton.mp hx; exact .head _)), n, dd, ?_, K23.get (C1.at' ((ca1' ..).g 2 rfl)) n2⟩
    simpa using K23.get (C1.at' ((ca1' ..).g 1 rfl)) n1
  | cons p rem ih =>
    intro i a n dd hrem hsz
    rintro A R ⟨h0, g, d, T, ost⟩ hA hd S W H
    obtain ⟨N, hN⟩ : ∃ N, h0.objs.size = N := ⟨_, rfl⟩
    obtain ⟨ha, C0⟩ := W.cur S
    refine code_call C0 hb hA hN _ (ca1.eq_1 w b N0 T0 tok tk N1 T1 N2 T2 y yk N3 T3 D ys N T i (sA a) n dd) no_orc (ca1' ..).s (ca1' ..).o fun h1 N5 T5 hN1 C1 => ?_
    obtain ⟨hx, hrem'⟩ := src_item hrem
    refine cNextItem (C1.at' ((ca1' ..).g 0 rfl)) (C1.at' ((ca1' ..).g 3 rfl)) hx fun h2 K2 e2 => ?_
    have C2 := C1.put1 ((ca1' ..).g 0 rfl) K2 e2
    obtain ⟨s, t⟩ := p
    by_cases hz : s = sZero
    · refine res_fin C2 hb hA rfl _ (cz1.eq_1 w b N0 T0 tok tk N1 T1 N2 T2 y yk N3 T3 D ys N T i (sA a) n dd h2.objs.size T5 s t) ?_ (cz1' ..).s (cz1' ..).o fun h3 N6 T6 hN3 C3 => ?_
      · exact mC (oStrNe (by rw [hz]; rfl)) mN
      have K : Kp [N3, N3 + 1, N3 + 2] h0 h3 := by
        refine C3.fin ha ?_
        exact mC (.inl (by ac_rfl)) (mC (.inl (by ac_rfl)) (mC (.inl (by ac_rfl)) (mC (.inr (C3.at' ((cz1' ..).g 3 rfl))) mN)))
      have W3 : WAt w N3 D (i + 1) (sA a) n (dObj w.params (some (ddK dd T5, s, t))) ys h3 := ⟨C3.at' ((cz1' ..).g 0 rfl), C3.at' ((cz1' ..).g 1 rfl), ((C3.at' ((cz1' ..).g 2 rfl)).trans (congrArg some (dOn_is ..))), C3.at' ((cz1' ..).g 3 rfl), W.nd, W.off⟩
      refine ⟨(wd3' ..).e.2, ih (i + 1) a n (some (ddK dd T5, s, t)) hrem' (by simp at hsz ⊢; omega) _ _ _ hA hd C3.sta W3 fun f h' t' P => H f h' t' ?_⟩
      have e : List.filter (fun q => decide (q.1 ≠ sZero)) ((s, t) :: rem) = List.filter (fun q => decide (q.1 ≠ sZero)) rem := by simp [hz]
      rw [e]
      exact ⟨P.1, K.trans P.2.1 (fun a ha => .inl ha), P.2.2⟩
    · refine res_call C2 hb hA rfl _ (cb1.eq_1 w b N0 T0 tok tk N1 T1 N2 T2 y yk N3 T3 D ys N T i (sA a) n dd h2.objs.size T5 s t) ?_ (cb1' ..).s (cb1' ..).o fun h3 N6 T6 hN3 C3 => ?_
      · simp only [fmc, nmn]
        exact ⟨oStrNe (by
          have := str_beq' s sZero
          rw [decide_eq_false hz] at this
          simpa [bne] using this), fun _ h => h.elim⟩
      refine cAppend (C3.at' ((cb1' ..).g 1 rfl)) (by simp at hsz ⊢; omega) fun h4 N4 hN4 K4 e4 => ?_
      have C4 := C3.put1 ((cb1' ..).g 1 rfl) K4 e4
      refine res_fin C4 hb hA hN4 _ (cc1.eq_1 w b N0 T0 tok tk N1 T1 N2 T2 y yk N3 T3 D ys N T i (sA a) n dd h2.objs.size T5 s t N4 T6 ((sA a).push (.str s t)) (n + 1)) no_orc (cc1' ..).s (cc1' ..).o fun h5 N7 T7 hN5 C5 => ?_
      have K : Kp [N3, N3 + 1, N3 + 2] h0 h5 := by
        refine C5.fin ha ?_
        exact mC (.inl (by ac_rfl)) (mC (.inl (by ac_rfl)) (mC (.inl (by ac_rfl)) (mC (.inr (C5.at' ((cc1' ..).g 3 rfl))) mN)))
      have W5 : WAt w N3 D (i + 1) (sA (a ++ [(s, t)])) (n + 1) (dObj w.params (some (ddK dd T5, s, t))) ys h5 := ⟨C5.at' ((cc1' ..).g 0 rfl), (C5.at' ((cc1' ..).g 1 rfl)).trans (by rw [← sA_push a (s, t)]), ((C5.at' ((cc1' ..).g 2 rfl)).trans (congrArg some (dOn_is ..))), C5.at' ((cc1' ..).g 3 rfl), W.nd, W.off⟩
      refine ⟨(wd3' ..).e.2, ih (i + 1) (a ++ [(s, t)]) (n + 1) (some (ddK dd T5, s, t)) hrem' (by simp at hsz ⊢; omega) _ _ _ hA hd C5.sta W5 fun f h' t' P => H f h' t' ?_⟩
      have e : List.filter (fun q => decide (q.1 ≠ sZero)) ((s, t) :: rem) = (s, t) :: List.filter (fun q => decide (q.1 ≠ sZero)) rem := by simp [hz]
      rw [e]
      rw [List.append_assoc] at P
      exact ⟨P.1, K.trans P.2.1 (fun a ha => .inl ha), P.2.2⟩
theorem fn90 (w : World) : FnAt w 90 (fdK w.params 90) := ⟨⟨o90 w.params, by kernel_rfl, by kernel_rfl⟩, by kernel_rfl, by kernel_rfl, ⟨bodyOf (fdK w.params 90), by kernel_rfl⟩, ⟨89, o89 w.params, flds (o89 w.params), tokOf ((flds (o89 w.params)).getD 1 .none), by kernel_rfl, by kernel_rfl, by kernel_rfl, by kernel_rfl⟩⟩
noncomputable def wordsIn (tok : Str) : List Str := ((wordsL [] (rpl 44 [32] tok.cps.toList)).map toS).filter fun q => decide (q ≠ sZero)
theorem wordsL_len : ∀ (l cur : List Nat), (wordsL cur l).length ≤ l.length + 1
  | [], cur => by unfold wordsL; split <;> simp
  | c :: l, cur => by
    have a := wordsL_len l []
    have b := wordsL_len l (cur ++ [c])
    unfold wordsL
    split
    · split
      · simp; omega
      · simp; omega
    · simp; omega
theorem filt_map (l : List (Str × Nat)) : (l.filter fun q => decide (q.1 ≠ sZero)).map (·.1) = (l.map (·.1)).filter fun q => decide (q ≠ sZero) := by
  rw [List.filter_map]; rfl
theorem seg_fnT {w : World} {b : Bool} {A : Around} {R : Result → Shared → Prop} {n : Nat} {hs : List Nat} {led : Led} {s₀ h₀ : Heap} {M : List Addr} {g : Array GenState} {d : Drawn} {T N : Nat} {ost : OsState} {a : Addr} {fd : FuncData} {args : Args} (C : Cur w s₀ M h₀ led) (F : FnAt w a fd) (hb : w.params.followText "special-get-raises" = b) (hA : A.handled = none) (hroom : A.depth < recursionLimit) (hN : h₀.objs.size = N)
    (r : Res) (hr : r = enterZ (VV w b N T) n hs [] a fd args led) (hsm : Sames r) (e : isAg r.out = true)
    (H : ∀ h N' T', T' = T + r.i → h.objs.size = N' → Cur w s₀ M h r.led → codeAny (model pg w) A (agOf r.out) R ⟨h, g, d, T', ost⟩) : codeAny (model pg w) A (.call (.ref a) args) R ⟨h₀, g, d, T, ost⟩ := by
  subst hN
  obtain ⟨o, h1, h2⟩ := F.at_
  obtain ⟨bd, h3⟩ := F.body
  obtain ⟨c, oc, vs, t, h4, h5, h6, h7⟩ := F.code
  exact fn_run (s := ⟨h₀, g, d, T, ost⟩) hr (askZ_is hb) hA rfl (fun _ h => nomatch h) hsm (C.hold _) hroom (C.sta _ _ h1) h2 F.co F.gen h3 ⟨c, oc, vs, t, h4, C.sta _ _ h5, h6, h7⟩ (two_at ..) (agOf_fin e) fun h D => H h _ _ rfl rfl (C.run D)
theorem words_ok {w : World} (tok : Str) (tk : Nat) (hsz : 3 * tok.length + 4 ≤ sizeLine) :
    Ctr w 1 (.call (.ref 90) ⟨[.str tok tk], []⟩) (fun _ => True) (fun h v h' => ∃ D l n, v = .ref D ∧ h.objs.size ≤ D ∧ h'.get? D = some (listO (sA l) n) ∧ l.map (·.1) = wordsIn tok ∧ Off w D ∧ Kp [] h h') := by
  rintro A R ⟨h0, g, d, T, ost⟩ hA hd S - H
  obtain ⟨b, hb⟩ : ∃ b, w.params.followText "special-get-raises" = b := ⟨_, rfl⟩
  obtain ⟨cc, hcc⟩ : ∃ b, w.params.followText "comprehension-iter-twice" = b := ⟨_, rfl⟩
  obtain ⟨N, hN⟩ : ∃ N, h0.objs.size = N := ⟨_, rfl⟩
  refine seg_fnT (Cur.nil S) (fn90 w) hb hA (by first | exact room0 hd | omega) hN _ (wd0.eq_1 w b N T tok tk) (wd0' ..).s (wd0' ..).o fun h1 N1 T1 hT1 hN1 C1 => ?_
  rw [(wd0' ..).e] at hT1
  refine code_call C1 hb hA hN1 _ (wd1.eq_1 w b N T tok tk N1 T1) no_orc (wd1' ..).s (wd1' ..).o fun h2 N2 T2 hN2 C2 => ?_
  have e3 : (⟨#[32]⟩ : Str).length = 1 := rfl
  refine cReplace (by omega) (by omega) (by omega) (by rfl) (by rw [e3]; omega) fun yk T2 => ?_
  generalize hy : Txt.replace tok ⟨#[44]⟩ ⟨#[32]⟩ = y
  have hyl : y.cps.toList = rpl 44 [32] tok.cps.toList := by rw [← hy, replace_L]
  have hylen : y.length = tok.length := by
    show y.cps.size = tok.cps.size
    rw [← Array.length_toList, hyl, ← Array.length_toList]
    unfold rpl
    generalize tok.cps.toList = l
    induction l with
    | nil => rfl
    | cons a l ih => rw [List.flatMap_cons, List.length_append, ih, List.length_cons]; split <;> simp <;> omega
  refine res_call C2 hb hA hN2 _ (wd2.eq_1 w b N T tok tk N1 T1 N2 T2 y yk) no_orc (wd2' ..).s (wd2' ..).o fun h3 N3 T3 hN3 C3 => ?_
  refine cSplit (by omega) fun l T3 hl => ?_
  rw [hN3]
  have KP := kp_push h3 (listO (sA l) 0)
  have hD : (h3.push (listO (sA l) 0)).get? N3 = some (listO (sA l) 0) := by rw [← hN3]; exact Heap.get?_push_size _ rfl
  have C3' := (C3.same KP).join hD (fun hm => by
    obtain ⟨q, hq, e⟩ := List.mem_map.mp hm
    have := Heap.lt_size (C3.at_ q hq)
    rw [e, hN3] at this
    exact Nat.lt_irrefl _ this) (C3.sta.off (by rw [hN3]; exact Nat.le_refl _)) (.inr (by rw [← hN3]; exact C3.kp.1))
  obtain ⟨N4, hN4⟩ : ∃ N, (h3.push (listO (sA l) 0)).objs.size = N := ⟨_, rfl⟩
  refine res_call C3' hb hA hN4 _ (wd3.eq_1 w b N T tok tk N1 T1 N2 T2 y yk N4 T3 N3 (sA l)) no_orc (wd3' ..).s (wd3' ..).o fun h4 N5 T4 hN5 C4 => ?_
  have nd4 : [N4, N4 + 1, N4 + 2, N3].Nodup := by
    have a1 := pick_ne C4.nd (by decide) ((wd3' w b N T tok tk N1 T1 N2 T2 y yk N4 T3 N3 (sA l)).g 1 rfl) ((wd3' ..).g 0 rfl)
    have a2 := pick_ne C4.nd (by decide) ((wd3' w b N T tok tk N1 T1 N2 T2 y yk N4 T3 N3 (sA l)).g 2 rfl) ((wd3' ..).g 0 rfl)
    have a3 := pick_ne C4.nd (by decide) ((wd3' w b N T tok tk N1 T1 N2 T2 y yk N4 T3 N3 (sA l)).g 3 rfl) ((wd3' ..).g 0 rfl)
    simp only [List.nodup_cons, List.mem_cons, nmn, or_false, not_or]
    exact ⟨⟨by omega, by omega, a1⟩, ⟨by omega, a2⟩, a3, fun h => h.elim, List.nodup_nil⟩
  have off4 : ∀ a ∈ [N4, N4 + 1, N4 + 2, N3], Off w a := by
    exact mC (C4.off' ((wd3' ..).g 1 rfl)) (mC (C4.off' ((wd3' ..).g 2 rfl)) (mC (C4.off' ((wd3' ..).g 3 rfl)) (mC (C4.off' ((wd3' ..).g 0 rfl)) mN)))
  have W4 : WAt w N4 N3 0 (sA []) 0 (dObj w.params none) (sA l) h4 := ⟨C4.at' ((wd3' ..).g 1 rfl), C4.at' ((wd3' ..).g 2 rfl), C4.at' ((wd3' ..).g 3 rfl), C4.at' ((wd3' ..).g 0 rfl), nd4, off4⟩
  obtain ⟨ha4, C4'⟩ := W4.cur C4.sta
  refine code_fin2 C4' hb hcc (aroO_handled hA _) hN5 _ (wcs.eq_1 w b N T tok tk N1 T1 N2 T2 y yk N4 T3 N3 (sA l) N5 T4 cc) no_orc (wcs' ..).s (wcs' ..).o fun h5 N6 T5 hN6 C5 => ?_
  rw [(wcs' ..).e] at C5
  have W5 : WAt w N4 N3 0 (sA []) 0 (dObj w.params none) (sA l) h5 := ⟨C5.at_ (_, _) (.head _), C5.at_ (_, _) (.tail _ (.head _)), C5.at_ (_, _) (.tail _ (.tail _ (.head _))), C5.at_ (_, _) (.tail _ (.tail _ (.tail _ (.head _)))), nd4, off4⟩
  have K45 : Kp [] h4 h5 := C5.fin ha4 fun p hp => .inr (C5.at_ p hp)
  have hll : l.length ≤ tok.length + 1 := by
    have := wordsL_len y.cps.toList []
    have e := congrArg List.length hl
    rw [List.length_map, List.length_map] at e
    have e2 : y.cps.toList.length = y.length := rfl
    omega
  refine ⟨(wd3' ..).e.2, loopW hb N T N1 T1 N2 T2 N4 T3 tok tk y yk N3 (sA l) l 0 [] 0 none (by ac_rfl) (by simp; omega) _ _ _ (aroO_handled hA _) (by first | exact room hd (wd3' ..).e.1 rfl | (rw [aroO_depth, (wd3' ..).e.1]; omega)) C5.sta W5 fun f h6 T6 P => ?_⟩
  obtain ⟨rfl, K6, n6, dd, a6, d6⟩ := P
  have S6 : Sta w h6 := C5.sta.kp K6 fun a ha => off4 a (by
    simp only [List.mem_cons, nmn, or_false] at ha ⊢
    rcases ha with h | h | h
    · exact .inl h
    · exact .inr (.inl h)
    · exact .inr (.inr (.inl h)))
  have hN04 : h0.objs.size ≤ N4 := by
    have := C3'.kp.1
    rw [← hN4]; exact this
  have fin6 : ∀ h7 T7, Kp [N4 + 2] h6 h7 → R (.ok (.ret (.ref (N4 + 1)))) ⟨h7, g, d, T7, ost⟩ := fun h7 T7 K7 => by
    have n12 : N4 + 1 ∉ [N4 + 2] := fun z => absurd (List.mem_singleton.mp z) (by omega)
    refine H _ _ _ ⟨N4 + 1, _, n6, rfl, (show h0.objs.size ≤ N4 + 1 by omega), K7.get a6 n12, ?_, off4 _ (by ac_rfl), ?_⟩
    · rw [List.nil_append, filt_map, hl, hyl]
      rfl
    · have K4 : Kp [] h0 h4 := C4.fin (led₀ := []) (fun _ h => nomatch h) (fun _ h => nomatch h)
      refine (((K4.trans K45 fun a ha => nomatch ha).trans K6 ?_).trans K7 ?_)
      · exact mC (.inr hN04) (mC (.inr (show h0.objs.size ≤ N4 + 1 by omega)) (mC (.inr (show h0.objs.size ≤ N4 + 2 by omega)) mN))
      · exact mC (.inr (show h0.objs.size ≤ N4 + 2 by omega)) mN
  cases dd with
  | none =>
    have ha6 : ∀ p ∈ ([(N4 + 2, dO0)] : Led), h6.get? p.1 = some p.2 := by
      exact mC (d6) mN
    refine res_fin (Cur.start S6 ha6 (by ac_rfl) (by
      exact mC (off4 _ (by ac_rfl)) mN)) hb hA rfl _ (wf0.eq_1 w b N T tok tk N1 T1 N2 T2 y yk N4 T3 N3 (sA l) h6.objs.size T6) no_orc (wf0' ..).s (wf0' ..).o fun h7 N7 T7 hN7 C7 => ?_
    exact fin6 _ _ C7.kp
  | some q =>
    obtain ⟨k0, s0, t0⟩ := q
    have ha6 : ∀ p ∈ ([(N4 + 2, dO1 w.params k0 s0 t0)] : Led), h6.get? p.1 = some p.2 := by
      exact mC (d6) mN
    refine res_fin (Cur.start S6 ha6 (by ac_rfl) (by
      exact mC (off4 _ (by ac_rfl)) mN)) hb hA rfl _ (wf1.eq_1 w b N T tok tk N1 T1 N2 T2 y yk N4 T3 N3 (sA l) h6.objs.size T6 k0 s0 t0) no_orc (wf1' ..).s (wf1' ..).o fun h7 N7 T7 hN7 C7 => ?_
    exact fin6 _ _ C7.kp
structure LA (w : World) (X : LX) (Y : LS) (E : Led) (h : Heap) : Prop where
  lex : LexAt w X Y h
  at_ : ∀ p ∈ E, h.get? p.1 = some p.2
  nd : (X.keys ++ E.map (·.1)).Nodup
  off : ∀ p ∈ E, Off w p.1
noncomputable abbrev ledF (w : World) (X : LX) (Z : LS) (E : Led) : Led := (X.lx, lexO X) :: (X.dx, lexD w.params X Z.ln Z.tl) :: (X.sp, spotO w.params X.kp (.int Z.p Z.tp)) :: E
section
variable {w : World} {X : LX} {Y Y' : LS} {E E' : Led} {h h' : Heap}
theorem LA.ha (L : LA w X Y E h) : ∀ p ∈ ledF w X Y E, h.get? p.1 = some p.2 := by
  simp only [fmc]
  exact ⟨L.lex.lx, L.lex.dx, L.lex.sp, L.at_⟩
theorem LA.cur (L : LA w X Y E h) (S : Sta w h) : Cur w h ((ledF w X Y E).map (·.1)) h (ledF w X Y E) := by
  refine Cur.start S L.ha ?_ ?_
  · refine List.Sublist.nodup ?_ L.nd
    show List.Sublist ([X.lx, X.dx, X.sp] ++ E.map (·.1)) (X.keys ++ E.map (·.1))
    exact List.Sublist.append (by repeat (first | exact List.nil_sublist _ | refine List.Sublist.cons_cons _ ?_ | refine List.Sublist.cons _ ?_)) (List.Sublist.refl _)
  · simp only [fmc]
    exact ⟨L.lex.off _ (by ac_rfl), L.lex.off _ (by ac_rfl), L.lex.off _ (by ac_rfl), L.off⟩
theorem LA.out (L : LA w X Y E h) {a : Addr} (ha : a ∈ X.keys) : a ∉ E.map (·.1) := fun hm => (List.nodup_append.mp L.nd).2.2 a ha a hm rfl
theorem LA.turn (L : LA w X Y E h) (K : Kp (X.dx :: X.sp :: E.map (·.1)) h h') {ln : Int} {tl p tp : Nat} (hdx : h'.get? X.dx = some (lexD w.params X ln tl)) (hsp : h'.get? X.sp = some (spotO w.params X.kp (.int p tp))) : LexAt w X { Y with ln := ln, tl := tl, p := p, tp := tp } h' := by
  refine L.lex.kpM (Z' := { Y with ln := ln, tl := tl, p := p, tp := tp }) K (fun a ha hm => ?_) hdx (K.get L.lex.pb ?_) hsp
  · rcases List.mem_cons.mp hm with h | hm
    · exact .inl h
    · rcases List.mem_cons.mp hm with h | hm
      · exact .inr (.inr h)
      · exact absurd hm (L.out ha)
  · intro hm
    rcases List.mem_cons.mp hm with h | hm
    · exact nd_ne L.lex.nd 2 1 rfl rfl (by decide) h
    · rcases List.mem_cons.mp hm with h | hm
      · exact nd_ne L.lex.nd 2 9 rfl rfl (by decide) h
      · exact L.out (by ac_rfl) hm
theorem LA.call (L : LA w X Y E h) {M : List Addr} (K : Kp M h h') (hM : ∀ a ∈ M, a ∈ X.keys) (L' : LexAt w X Y' h') : LA w X Y' E h' :=
  ⟨L', fun p hp => K.get (L.at_ p hp) fun hm => L.out (hM _ hm) (List.mem_map_of_mem hp), L.nd, L.off⟩
theorem LA.same (L : LA w X Y E h) (K : Kp [] h h') : LA w X Y E h' := L.call K (fun _ h => nomatch h) (L.lex.same K)
theorem LA.set (L : LA w X Y E h) (L' : LexAt w X Y' h') (hk : E'.map (·.1) = E.map (·.1)) (ha : ∀ p ∈ E', h'.get? p.1 = some p.2) : LA w X Y' E' h' :=
  ⟨L', ha, by rw [hk]; exact L.nd, fun p hp => by
    have : p.1 ∈ E.map (·.1) := by rw [← hk]; exact List.mem_map_of_mem hp
    obtain ⟨q, hq, e⟩ := List.mem_map.mp this
    rw [← e]; exact L.off q hq⟩
theorem LA.add (L : LA w X Y E h) (S : Sta w h) {h' : Heap} {a : Addr} {o : Obj} (K : Kp [] h h') (hn : h.objs.size ≤ a) (ha : h'.get? a = some o) : LA w X Y (E ++ [(a, o)]) h' := by
  have L' := L.same K
  refine ⟨L'.lex, fun p hp => ?_, ?_, fun p hp => ?_⟩
  · rcases List.mem_append.mp hp with q | q
    · exact L'.at_ p q
    · cases List.mem_singleton.mp q; exact ha
  · rw [List.map_append, ← List.append_assoc]
    refine List.nodup_append.mpr ⟨L.nd, by simp, fun x hx y hy => ?_⟩
    cases List.mem_singleton.mp hy
    intro e
    have e' : x = a := e
    subst e'
    rcases List.mem_append.mp hx with q | q
    · exact absurd (L.lex.lt _ q) (Nat.not_lt.mpr hn)
    · obtain ⟨p, hp, rfl⟩ := List.mem_map.mp q
      exact absurd (Heap.lt_size (L.at_ p hp)) (Nat.not_lt.mpr hn)
  · rcases List.mem_append.mp hp with q | q
    · exact L.off p q
    · cases List.mem_singleton.mp q; exact S.off hn
end
noncomputable abbrev sliceL (t : Nat) : Obj := ⟨.type "slice", none, .fields #[.int (-1) t, .none, .none], #[]⟩
section
variable {w : World} {A : Around} {R : Result → Shared → Prop} {h₀ : Heap} {g : Array GenState} {d : Drawn} {T : Nat} {ost : OsState}
theorem picked_last (n : Nat) : Builtin.Str.strSliceIndices (some (-1 : Int)) none 1 (n + 1) = [n] := by
  have e1 : max (0 : Int) (min ((-1 : Int) + ((n + 1 : Nat) : Int)) ((n + 1 : Nat) : Int)) = n := by omega
  simp only [Builtin.Str.strSliceIndices, show ((-1 : Int) < 0) = True from by simp, if_true, show ((1 : Int) > 0) = True from by simp, e1]
  rw [show ((n + 1 : Nat) : Int) = ((n + 1 : Nat) : Int) from rfl, sliceRange_one, show n + 1 - n = 1 by omega]
  rfl
theorem cSliceLast {u : List Nat} {c t v : Nat} {a : Addr} (ha : h₀.get? a = some (sliceL v)) (h : ∀ k T', R (.ok (.ret (.str ⟨#[c]⟩ k))) ⟨h₀, g, d, T', ost⟩) :
    codeAny (model pg w) A (cB "str.__getitem__" [.str (toS (u ++ [c])) t, .ref a]) R ⟨h₀, g, d, T, ost⟩ := by
  refine codeAny_call_builtin F.slot_str_getitem.plain F.entry_str_getitem (F.slot_str_getitem.check _ _ _ _ _ _ _ _ (typeIs_str _ _ t) (F.args_str_getitem_2 _ _) ?_)
  refine meets_str_getitem_slice (toS (u ++ [c])) t a (some ((-1 : Int), v)) none none rfl pg w A R _ ⟨⟨_, ha, rfl, rfl⟩, ?_⟩
  have hl : (toS (u ++ [c])).length = u.length + 1 := by simp [Str.length]
  have e : slicePicked (toS (u ++ [c])) (some ((-1 : Int), v)) none none = [u.length] := by
    show Builtin.Str.strSliceIndices (some (-1 : Int)) none 1 (toS (u ++ [c])).length = _
    rw [hl]; exact picked_last _
  have hp : (toS (u ++ [c])).cps[u.length]? = some c := by simp
  unfold sliceMade
  rw [e]
  split
  · next hc =>
    have : u = [] := by
      simp only [Bool.and_eq_true] at hc
      have h2 := hc.2
      rw [hl] at h2
      simp at h2
      exact h2
    subst this
    exact h t T
  · refine ⟨?_, ?_⟩
    · simp only [List.filterMap_cons, hp, List.filterMap_nil]
      show 1 ≤ sizeLine
      decide
    · simp only [List.filterMap_cons, hp, List.filterMap_nil]
      exact h _ _
end
noncomputable def sLexer : Str := ⟨#[108, 101, 120, 101, 114]⟩
noncomputable def sWords : Str := ⟨#[119, 111, 114, 100, 115]⟩
noncomputable abbrev frF (P : Params) (lx wd : Addr) (a b c : Nat) (tok : Value) : Obj := ⟨.type "frame", none, .dict #[ent P sLexer a (.ref lx), ent P sToken b tok, ent P sWords c (.ref wd)] 3, #[]⟩
noncomputable abbrev frFz (P : Params) (lx wd : Addr) (a b c : Nat) (tok : Value) : Obj := ⟨.type "frame", none, .dict #[entZ P sLexer a (.ref lx), entZ P sToken b tok, entZ P sWords c (.ref wd)] 3, #[]⟩
theorem frFz_is (P : Params) (lx wd : Addr) (a b c : Nat) (tok : Value) : frFz P lx wd a b c tok = frF P lx wd a b c tok := by
  unfold frFz; rw [entZ_is, entZ_is, entZ_is]
section
variable (w : World) (b : Bool) (N0 T0 : Nat) (X : LX) (Z : LS) (N1 T1 N2 T2 : Nat) (Y : LS) (fa fb fc : Nat) (tk : Str) (tt : Nat) (xs : Array Value) (n N3 T3 c k N4 T4 : Nat) (Y2 : LS) (y : Str) (yk N5 T5 D : Nat) (ys : Array Value) (m N6 T6 : Nat) (xs2 : Array Value) (n2 : Nat)
@[irreducible] noncomputable def fc0 : Res := enterZ (VV w b N0 T0) 60 [4, 4] [] 97 (fdK w.params 97) ⟨[.ref X.lx], []⟩ (ledF w X Z [])
theorem fc0' : (fun r => Lk r [] (isAg r.out = true) (True)) (fc0 w b N0 T0 X Z) := by cases b <;> rfl'
@[irreducible] noncomputable def fc1 : Res := startZ (VV w b N1 T1) 500 [6, 6, 6, 0, 6, 7, 7, 0, 7, 7, 7, 6, 7, 7, 7, 0, 7, 7, 7, 6, 7, 7, 7, 0, 7, 7, 7, 6, 7, 7, 9, 4, 4, 4, 4, 1] [] (agOf (fc0 w b N0 T0 X Z).out) (fc0 w b N0 T0 X Z).led
theorem fc1' : (fun r => Lk r [(0, X.lx, lexO X), (1, X.dx, lexD w.params X Z.ln Z.tl), (2, X.sp, spotO w.params X.kp (.int Z.p Z.tp)), (3, N0, frFz w.params X.lx N1 T0 (T1 + 1) (T1 + 2) (.str ⟨#[44]⟩ T1)), (4, N1, listO #[] 0)] (callOf r.out = some (clOf r.out)) ((wtO r.out = 1) ∧ ((clOf r.out).quiet = true))) (fc1 w b N0 T0 X Z N1 T1) := by cases b <;> rfl'
@[irreducible] noncomputable def fw1 : Res := startZ (VV w b N2 T2) 200 [4, 0, 1] [] (clOf (fc1 w b N0 T0 X Z N1 T1).out) (ledF w X Y [(N0, (frF w.params X.lx N1 fa fb fc (.str tk tt))), (N1, listO xs n)])
theorem fw1' : (fun r => Lk r [(0, X.lx, lexO X), (1, X.dx, lexD w.params X Y.ln Y.tl), (2, X.sp, spotO w.params X.kp (.int Y.p Y.tp)), (3, N0, (frF w.params X.lx N1 fa fb fc (.str tk tt))), (4, N1, listO xs n), (5, N2, sliceL (T2 + 1))] (callOf r.out = some (cB "str.__getitem__" [.str tk tt, .ref N2])) (wtO r.out = 0)) (fw1 w b N0 T0 X Z N1 T1 N2 T2 Y fa fb fc tk tt xs n) := by cases b <;> rfl'
@[irreducible] noncomputable def fx2 : Res := resumeZ (VV w b N3 T3) 100 [2] [⟨cB "str.__eq__" [.str ⟨#[c]⟩ k, .str ⟨#[44]⟩ (T3 + 0)], fun _ => .bool false, 0⟩] (fw1 w b N0 T0 X Z N1 T1 N2 T2 Y fa fb fc tk tt xs n).out (.ok (.ret (.str ⟨#[c]⟩ k))) (fw1 w b N0 T0 X Z N1 T1 N2 T2 Y fa fb fc tk tt xs n).led
theorem fx2' : (fun r => Lk r [(0, X.lx, lexO X), (1, X.dx, lexD w.params X Y.ln Y.tl), (2, X.sp, spotO w.params X.kp (.int Y.p Y.tp)), (3, N0, (frF w.params X.lx N1 fa fb fc (.str tk tt))), (4, N1, listO xs n)] (finOf r.out = some (.done .next)) (True)) (fx2 w b N0 T0 X Z N1 T1 N2 T2 Y fa fb fc tk tt xs n N3 T3 c k) := by cases b <;> rfl'
@[irreducible] noncomputable def fw2 : Res := resumeZ (VV w b N3 T3) 300 [2, 4, 1, 0, 0, 0, 1, 0, 0, 0, 1, 0, 0, 0, 0, 1, 2, 0, 1] [⟨cB "str.__eq__" [.str ⟨#[c]⟩ k, .str ⟨#[44]⟩ (T3 + 0)], fun _ => .bool true, 0⟩] (fw1 w b N0 T0 X Z N1 T1 N2 T2 Y fa fb fc tk tt xs n).out (.ok (.ret (.str ⟨#[c]⟩ k))) (fw1 w b N0 T0 X Z N1 T1 N2 T2 Y fa fb fc tk tt xs n).led
theorem fw2' : (fun r => Lk r [(0, X.lx, lexO X), (1, X.dx, lexD w.params X Y.ln Y.tl), (2, X.sp, spotO w.params X.kp (.int Y.p Y.tp)), (3, N0, (frF w.params X.lx N1 fa fb fc (.str tk tt))), (4, N1, listO xs n)] (callOf r.out = some (.call (.ref 42) ⟨[.ref X.lx], []⟩)) (wtO r.out = 0)) (fw2 w b N0 T0 X Z N1 T1 N2 T2 Y fa fb fc tk tt xs n N3 T3 c k) := by cases b <;> rfl'
@[irreducible] noncomputable def fw3 : Res := resumeZ (VV w b N4 T4) 300 [4, 4, 4, 0, 4, 0, 1] [] (fw2 w b N0 T0 X Z N1 T1 N2 T2 Y fa fb fc tk tt xs n N3 T3 c k).out (.ok (.ret (.str y yk))) (put (put (fw2 w b N0 T0 X Z N1 T1 N2 T2 Y fa fb fc tk tt xs n N3 T3 c k).led 1 (lexD w.params X Y2.ln Y2.tl)) 2 (spotO w.params X.kp (.int Y2.p Y2.tp)))
theorem fw3' : (fun r => Lk r [(0, X.lx, lexO X), (1, X.dx, lexD w.params X Y2.ln Y2.tl), (2, X.sp, spotO w.params X.kp (.int Y2.p Y2.tp)), (3, N0, (frF w.params X.lx N1 fa fb fc (.str y yk))), (4, N1, listO xs n)] (callOf r.out = some (.call (.ref 90) ⟨[.str y yk], []⟩)) (wtO r.out = 0)) (fw3 w b N0 T0 X Z N1 T1 N2 T2 Y fa fb fc tk tt xs n N3 T3 c k N4 T4 Y2 y yk) := by cases b <;> rfl'
@[irreducible] noncomputable def fw4 : Res := resumeZ (VV w b N5 T5) 300 [5, 5, 7, 1] [] (fw3 w b N0 T0 X Z N1 T1 N2 T2 Y fa fb fc tk tt xs n N3 T3 c k N4 T4 Y2 y yk).out (.ok (.ret (.ref D))) (snoc (fw3 w b N0 T0 X Z N1 T1 N2 T2 Y fa fb fc tk tt xs n N3 T3 c k N4 T4 Y2 y yk).led D (listO ys m))
theorem fw4' : (fun r => Lk r [(0, X.lx, lexO X), (1, X.dx, lexD w.params X Y2.ln Y2.tl), (2, X.sp, spotO w.params X.kp (.int Y2.p Y2.tp)), (3, N0, (frF w.params X.lx N1 fa fb fc (.str y yk))), (4, N1, listO xs n), (6, D, listO ys m)] (callOf r.out = some (cB "list.__iadd__" [.ref N1, .ref D])) (wtO r.out = 0)) (fw4 w b N0 T0 X Z N1 T1 N2 T2 Y fa fb fc tk tt xs n N3 T3 c k N4 T4 Y2 y yk N5 T5 D ys m) := by cases b <;> rfl'
@[irreducible] noncomputable def fw5 : Res := resumeZ (VV w b N6 T6) 300 [4, 4] [] (fw4 w b N0 T0 X Z N1 T1 N2 T2 Y fa fb fc tk tt xs n N3 T3 c k N4 T4 Y2 y yk N5 T5 D ys m).out (.ok (.ret (.ref N1))) (put (fw4 w b N0 T0 X Z N1 T1 N2 T2 Y fa fb fc tk tt xs n N3 T3 c k N4 T4 Y2 y yk N5 T5 D ys m).led 4 (listO xs2 n2))
theorem fw5' : (fun r => Lk r [(0, X.lx, lexO X), (1, X.dx, lexD w.params X Y2.ln Y2.tl), (2, X.sp, spotO w.params X.kp (.int Y2.p Y2.tp)), (3, N0, (frF w.params X.lx N1 fa fb fc (.str y yk))), (4, N1, listO xs2 n2)] (finOf r.out = some (.again (clOf (fc1 w b N0 T0 X Z N1 T1).out))) (True)) (fw5 w b N0 T0 X Z N1 T1 N2 T2 Y fa fb fc tk tt xs n N3 T3 c k N4 T4 Y2 y yk N5 T5 D ys m N6 T6 xs2 n2) := by cases b <;> rfl'
@[irreducible] noncomputable def fc2 : Res := resumeZ (VV w b N2 T2) 100 [1] [] (fc1 w b N0 T0 X Z N1 T1).out (.ok .next) [(N0, (frF w.params X.lx N1 fa fb fc (.str tk tt)))]
theorem fc2' : (fun r => Lk r [(0, N0, (frF w.params X.lx N1 fa fb fc (.str tk tt)))] (finOf r.out = some (.done (.ret (.ref N1)))) (True)) (fc2 w b N0 T0 X Z N1 T1 N2 T2 fa fb fc tk tt) := by cases b <;> rfl'
end
theorem fn97 (w : World) : FnAt w 97 (fdK w.params 97) := ⟨⟨o97 w.params, by kernel_rfl, by kernel_rfl⟩, by kernel_rfl, by kernel_rfl, ⟨bodyOf (fdK w.params 97), by kernel_rfl⟩, ⟨96, o96 w.params, flds (o96 w.params), tokOf ((flds (o96 w.params)).getD 1 .none), by kernel_rfl, by kernel_rfl, by kernel_rfl, by kernel_rfl⟩⟩
inductive Fac : List Nat → List Str → List Nat → Nat → Prop
  | last {l u more : List Nat} {c nl : Nat} : Tk l (u ++ [c]) more nl → c ≠ 44 → Fac l (wordsIn (toS (u ++ [c]))) more nl
  | step {l u more more' : List Nat} {ws : List Str} {nl nl' : Nat} : Tk l (u ++ [44]) more nl → Fac more ws more' nl' → Fac l (wordsIn (toS (u ++ [44])) ++ ws) more' (nl + nl')
theorem Tk.len {l tok more : List Nat} {nl : Nat} (h : Tk l tok more nl) : tok.length ≤ l.length := by
  cases h <;> simp <;> omega
theorem Tk.more {l tok more : List Nat} {nl : Nat} (h : Tk l tok more nl) : tok.length + 1 + more.length ≤ l.length := by
  cases h <;> simp <;> omega
theorem rest_len {X : LX} {p : Nat} {l : List Nat} (h : X.rest p = l) : l.length ≤ X.text.length := by
  rw [← h]; unfold LX.rest; rw [List.length_drop]; exact Nat.sub_le _ _
theorem exitF {w : World} {b : Bool} (hb : w.params.followText "special-get-raises" = b) (N0 T0 N1 T1 : Nat) (X : LX) (Z : LS) (Y : LS) (fa fb fc : Nat) (u : List Nat) (c : Nat) (tt : Nat) (a : List (Str × Nat)) (n : Nat) (hc : c ≠ 44) :
    CtrF w 4 (clOf (fc1 w b N0 T0 X Z N1 T1).out) (LA w X Y [(N0, frF w.params X.lx N1 fa fb fc (.str (toS (u ++ [c])) tt)), (N1, listO (sA a) n)]) (fun h f h' => f = .next ∧ Kp [] h h') := by
  rintro A R ⟨h0, g, d, T, ost⟩ hA hd S L H
  obtain ⟨N, hN⟩ : ∃ N, h0.objs.size = N := ⟨_, rfl⟩
  have ha := L.ha
  have C0 := L.cur S
  refine code_call C0 hb hA hN _ (fw1.eq_1 w b N0 T0 X Z N1 T1 N T Y fa fb fc (toS (u ++ [c])) tt (sA a) n) no_orc (fw1' ..).s (fw1' ..).o fun h1 N2 T2 hN1 C1 => ?_
  refine cSliceLast (C1.at' ((fw1' ..).g 5 rfl)) fun k T2' => ?_
  refine res_fin C1 hb hA hN1 _ (fx2.eq_1 w b N0 T0 X Z N1 T1 N T Y fa fb fc (toS (u ++ [c])) tt (sA a) n N2 T2' c k) ?_ (fx2' ..).s (fx2' ..).o fun h2 N3 T3 hN2 C2 => ?_
  · exact mC (oStrEq ((sEq_one _ _).trans (by simpa using hc))) mN
  exact H _ _ _ ⟨rfl, by
    refine C2.fin ha ?_
    exact mC (.inr (C2.at' ((fx2' ..).g 0 rfl))) (mC (.inr (C2.at' ((fx2' ..).g 1 rfl))) (mC (.inr (C2.at' ((fx2' ..).g 2 rfl))) (mC (.inr (C2.at' ((fx2' ..).g 3 rfl))) (mC (.inr (C2.at' ((fx2' ..).g 4 rfl))) mN))))⟩
noncomputable def FEnd (w : World) (X : LX) (Y : LS) (N0 N1 fa fb fc : Nat) (a : List (Str × Nat)) (ws : List Str) (more : List Nat) (nl : Nat) (h : Heap) (f : Flow) (h' : Heap) : Prop :=
  f = .next ∧ Kp (X.dx :: X.sp :: [N0, N1]) h h' ∧ ∃ p' tl tp m n tk tt, X.rest p' = more ∧ p' ≤ X.text.length ∧ m.map (·.1) = ws ∧ LA w X { Y with ln := Y.ln + nl, tl := tl, p := p', tp := tp } [(N0, frF w.params X.lx N1 fa fb fc (.str tk tt)), (N1, listO (sA (a ++ m)) n)] h'
theorem loopF {w : World} {b : Bool} (hb : w.params.followText "special-get-raises" = b) (N0 T0 N1 T1 : Nat) (X : LX) (Z : LS) (hl : 2 ≤ X.text.length) (hsz : 4 * X.text.length + 10 ≤ sizeLine) {l : List Nat} {ws : List Str} {more : List Nat} {nl : Nat} (hF : Fac l ws more nl) : ∀ (Y : LS) (fa fb fc : Nat) (u : List Nat) (tt : Nat) (a : List (Str × Nat)) (n : Nat), X.rest Y.p = l → Y.p ≤ X.text.length → Y.xs = #[] → a.length + l.length ≤ 2 * X.text.length →
    CtrF w 4 (clOf (fc1 w b N0 T0 X Z N1 T1).out) (LA w X Y [(N0, frF w.params X.lx N1 fa fb fc (.str (toS (u ++ [44])) tt)), (N1, listO (sA a) n)]) (FEnd w X Y N0 N1 fa fb fc a ws more nl) := by
  induction hF with
  | @last l u2 more c2 nl htk hc2 =>
    intro Y fa fb fc u tt a n hrest hp hxs hal
    rintro A R ⟨h0, g, d, T, ost⟩ hA hd S L H
    obtain ⟨N, hN⟩ : ∃ N, h0.objs.size = N := ⟨_, rfl⟩
    have ha := L.ha
    have C0 := L.cur S
    refine code_call C0 hb hA hN _ (fw1.eq_1 w b N0 T0 X Z N1 T1 N T Y fa fb fc (toS (u ++ [44])) tt (sA a) n) no_orc (fw1' ..).s (fw1' ..).o fun h1 N2 T2 hN1 C1 => ?_
    refine cSliceLast (C1.at' ((fw1' ..).g 5 rfl)) fun k T2' => ?_
    refine res_call C1 hb hA hN1 _ (fw2.eq_1 w b N0 T0 X Z N1 T1 N T Y fa fb fc (toS (u ++ [44])) tt (sA a) n N2 T2' 44 k) ?_ (fw2' ..).s (fw2' ..).o fun h2 N3 T3 hN2 C2 => ?_
    · exact mC (oStrEq ((sEq_one _ _).trans (by rfl))) mN
    have K2 : Kp [] h0 h2 := by
      refine C2.fin ha ?_
      exact mC (.inr (C2.at' ((fw2' ..).g 0 rfl))) (mC (.inr (C2.at' ((fw2' ..).g 1 rfl))) (mC (.inr (C2.at' ((fw2' ..).g 2 rfl))) (mC (.inr (C2.at' ((fw2' ..).g 3 rfl))) (mC (.inr (C2.at' ((fw2' ..).g 4 rfl))) mN))))
    refine get_ok hl (by omega) hrest hp htk hxs _ _ _ (aroO_handled hA _) (by first | exact room hd (fw2' ..).e rfl | (rw [aroO_depth, (fw2' ..).e]; omega)) C2.sta (L.lex.same K2) fun v h3 T3 hPP => ?_
    obtain ⟨⟨yk, hv⟩, K3, p', tl, tp, hp1, hp2, L3⟩ := hPP
    subst hv
    have C3 := C2.chg2 (by decide) ((fw2' ..).g 1 rfl) ((fw2' ..).g 2 rfl) K3 L3.dx L3.sp
    have htl := htk.len
    have hrl := rest_len hrest
    have hvl : (toS (u2 ++ [c2])).length = (u2 ++ [c2]).length := by simp [Str.length]
    refine res_call C3 hb hA rfl _ (fw3.eq_1 w b N0 T0 X Z N1 T1 N T Y fa fb fc (toS (u ++ [44])) tt (sA a) n N2 T2' 44 k h3.objs.size T3 { Y with ln := Y.ln + nl, tl := tl, p := p', tp := tp } (toS (u2 ++ [c2])) yk) no_orc (fw3' ..).s (fw3' ..).o fun h4 N4 T4 hN4 C4 => ?_
    refine words_ok (toS (u2 ++ [c2])) yk (by rw [hvl]; omega) _ _ _ (aroO_handled hA _) (by first | exact room hd (fw3' ..).e rfl | (rw [aroO_depth, (fw3' ..).e]; omega)) C4.sta trivial fun v h5 T5 hPP => ?_
    obtain ⟨D, m, nm, hv, hDn, hD, hm, hoff, K5⟩ := hPP
    subst hv
    have C5 := (C4.same K5).join hD (fun hx => by
      obtain ⟨q, hq, e⟩ := List.mem_map.mp hx
      have := Heap.lt_size (C4.at_ q hq)
      rw [e] at this
      exact absurd this (Nat.not_lt.mpr hDn)) hoff (.inr (Nat.le_trans C4.kp.1 hDn))
    refine res_call C5 hb hA rfl _ (fw4.eq_1 w b N0 T0 X Z N1 T1 N T Y fa fb fc (toS (u ++ [44])) tt (sA a) n N2 T2' 44 k h3.objs.size T3 { Y with ln := Y.ln + nl, tl := tl, p := p', tp := tp } (toS (u2 ++ [c2])) yk h5.objs.size T5 D (sA m) nm) no_orc (fw4' ..).s (fw4' ..).o fun h6 N6 T6 hN6 C6 => ?_
    have hml : m.length ≤ (u2 ++ [c2]).length + 1 := by
      have := congrArg List.length hm
      rw [List.length_map] at this
      rw [this]
      unfold wordsIn
      refine Nat.le_trans (List.length_filter_le _ _) ?_
      rw [List.length_map]
      refine Nat.le_trans (wordsL_len _ _) ?_
      have : (rpl 44 [32] (toS (u2 ++ [c2])).cps.toList).length = (u2 ++ [c2]).length := by
        show (rpl 44 [32] (u2 ++ [c2])).length = _
        unfold rpl
        generalize (u2 ++ [c2]) = l2
        induction l2 with
        | nil => rfl
        | cons a l ih => rw [List.flatMap_cons, List.length_append, ih, List.length_cons]; split <;> simp <;> omega
      omega
    refine cIadd (C6.at' ((fw4' ..).g 4 rfl)) (C6.at' ((fw4' ..).g 5 rfl)) (by omega) fun h7 n7 K7 e7 => ?_
    have C7 := C6.put1 ((fw4' ..).g 4 rfl) K7 e7
    refine res_fin C7 hb hA rfl _ (fw5.eq_1 w b N0 T0 X Z N1 T1 N T Y fa fb fc (toS (u ++ [44])) tt (sA a) n N2 T2' 44 k h3.objs.size T3 { Y with ln := Y.ln + nl, tl := tl, p := p', tp := tp } (toS (u2 ++ [c2])) yk h5.objs.size T5 D (sA m) nm h7.objs.size T6 (sA (a ++ m)) n7) no_orc (fw5' ..).s (fw5' ..).o fun h8 N8 T8 hN8 C8 => ?_
    have K8 : Kp (X.dx :: X.sp :: [N0, N1]) h0 h8 := by
      refine C8.fin ha ?_
      exact mC (.inr (C8.at' ((fw5' ..).g 0 rfl))) (mC (.inl (by ac_rfl)) (mC (.inl (by ac_rfl)) (mC (.inl (by ac_rfl)) (mC (.inl (by ac_rfl)) mN))))
    have L8 := L.turn K8 (C8.at' ((fw5' ..).g 1 rfl)) (C8.at' ((fw5' ..).g 2 rfl))
    have A8 : LA w X { Y with ln := Y.ln + nl, tl := tl, p := p', tp := tp } [(N0, frF w.params X.lx N1 fa fb fc (.str (toS (u2 ++ [c2])) yk)), (N1, listO (sA (a ++ m)) n7)] h8 := L.set L8 rfl (by
      exact mC (C8.at' ((fw5' ..).g 3 rfl)) (mC (C8.at' ((fw5' ..).g 4 rfl)) mN))
    refine ⟨(fc1' ..).e.2, exitF hb N0 T0 N1 T1 X Z { Y with ln := Y.ln + nl, tl := tl, p := p', tp := tp } fa fb fc u2 c2 yk (a ++ m) n7 hc2 _ _ _ hA hd C8.sta A8 fun f h' t' ⟨hf, K9⟩ => H f h' t' ⟨hf, K8.trans K9 (fun a ha => nomatch ha), p', tl, tp, m, n7, _, yk, hp1, hp2, hm, A8.same K9⟩⟩
  | @step l u2 more more' ws nl nl' htk hF ih =>
    intro Y fa fb fc u tt a n hrest hp hxs hal
    rintro A R ⟨h0, g, d, T, ost⟩ hA hd S L H
    obtain ⟨N, hN⟩ : ∃ N, h0.objs.size = N := ⟨_, rfl⟩
    have ha := L.ha
    have C0 := L.cur S
    refine code_call C0 hb hA hN _ (fw1.eq_1 w b N0 T0 X Z N1 T1 N T Y fa fb fc (toS (u ++ [44])) tt (sA a) n) no_orc (fw1' ..).s (fw1' ..).o fun h1 N2 T2 hN1 C1 => ?_
    refine cSliceLast (C1.at' ((fw1' ..).g 5 rfl)) fun k T2' => ?_
    refine res_call C1 hb hA hN1 _ (fw2.eq_1 w b N0 T0 X Z N1 T1 N T Y fa fb fc (toS (u ++ [44])) tt (sA a) n N2 T2' 44 k) ?_ (fw2' ..).s (fw2' ..).o fun h2 N3 T3 hN2 C2 => ?_
    · exact mC (oStrEq ((sEq_one _ _).trans (by rfl))) mN
    have K2 : Kp [] h0 h2 := by
      refine C2.fin ha ?_
      exact mC (.inr (C2.at' ((fw2' ..).g 0 rfl))) (mC (.inr (C2.at' ((fw2' ..).g 1 rfl))) (mC (.inr (C2.at' ((fw2' ..).g 2 rfl))) (mC (.inr (C2.at' ((fw2' ..).g 3 rfl))) (mC (.inr (C2.at' ((fw2' ..).g 4 rfl))) mN))))
    refine get_ok hl (by omega) hrest hp htk hxs _ _ _ (aroO_handled hA _) (by first | exact room hd (fw2' ..).e rfl | (rw [aroO_depth, (fw2' ..).e]; omega)) C2.sta (L.lex.same K2) fun v h3 T3 hPP => ?_
    obtain ⟨⟨yk, hv⟩, K3, p', tl, tp, hp1, hp2, L3⟩ := hPP
    subst hv
    have C3 := C2.chg2 (by decide) ((fw2' ..).g 1 rfl) ((fw2' ..).g 2 rfl) K3 L3.dx L3.sp
    have htl := htk.len
    have hrl := rest_len hrest
    have hvl : (toS (u2 ++ [44])).length = (u2 ++ [44]).length := by simp [Str.length]
    refine res_call C3 hb hA rfl _ (fw3.eq_1 w b N0 T0 X Z N1 T1 N T Y fa fb fc (toS (u ++ [44])) tt (sA a) n N2 T2' 44 k h3.objs.size T3 { Y with ln := Y.ln + nl, tl := tl, p := p', tp := tp } (toS (u2 ++ [44])) yk) no_orc (fw3' ..).s (fw3' ..).o fun h4 N4 T4 hN4 C4 => ?_
    refine words_ok (toS (u2 ++ [44])) yk (by rw [hvl]; omega) _ _ _ (aroO_handled hA _) (by first | exact room hd (fw3' ..).e rfl | (rw [aroO_depth, (fw3' ..).e]; omega)) C4.sta trivial fun v h5 T5 hPP => ?_
    obtain ⟨D, m, nm, hv, hDn, hD, hm, hoff, K5⟩ := hPP
    subst hv
    have C5 := (C4.same K5).join hD (fun hx => by
      obtain ⟨q, hq, e⟩ := List.mem_map.mp hx
      have := Heap.lt_size (C4.at_ q hq)
      rw [e] at this
      exact absurd this (Nat.not_lt.mpr hDn)) hoff (.inr (Nat.le_trans C4.kp.1 hDn))
    refine res_call C5 hb hA rfl _ (fw4.eq_1 w b N0 T0 X Z N1 T1 N T Y fa fb fc (toS (u ++ [44])) tt (sA a) n N2 T2' 44 k h3.objs.size T3 { Y with ln := Y.ln + nl, tl := tl, p := p', tp := tp } (toS (u2 ++ [44])) yk h5.objs.size T5 D (sA m) nm) no_orc (fw4' ..).s (fw4' ..).o fun h6 N6 T6 hN6 C6 => ?_
    have hml : m.length ≤ (u2 ++ [44]).length + 1 := by
      have := congrArg List.length hm
      rw [List.length_map] at this
      rw [this]
      unfold wordsIn
      refine Nat.le_trans (List.length_filter_le _ _) ?_
      rw [List.length_map]
      refine Nat.le_trans (wordsL_len _ _) ?_
      have : (rpl 44 [32] (toS (u2 ++ [44])).cps.toList).length = (u2 ++ [44]).length := by
        show (rpl 44 [32] (u2 ++ [44])).length = _
        unfold rpl
        generalize (u2 ++ [44]) = l2
        induction l2 with
        | nil => rfl
        | cons a l ih => rw [List.flatMap_cons, List.length_append, ih, List.length_cons]; split <;> simp <;> omega
      omega
    refine cIadd (C6.at' ((fw4' ..).g 4 rfl)) (C6.at' ((fw4' ..).g 5 rfl)) (by omega) fun h7 n7 K7 e7 => ?_
    have C7 := C6.put1 ((fw4' ..).g 4 rfl) K7 e7
    refine res_fin C7 hb hA rfl _ (fw5.eq_1 w b N0 T0 X Z N1 T1 N T Y fa fb fc (toS (u ++ [44])) tt (sA a) n N2 T2' 44 k h3.objs.size T3 { Y with ln := Y.ln + nl, tl := tl, p := p', tp := tp } (toS (u2 ++ [44])) yk h5.objs.size T5 D (sA m) nm h7.objs.size T6 (sA (a ++ m)) n7) no_orc (fw5' ..).s (fw5' ..).o fun h8 N8 T8 hN8 C8 => ?_
    have K8 : Kp (X.dx :: X.sp :: [N0, N1]) h0 h8 := by
      refine C8.fin ha ?_
      exact mC (.inr (C8.at' ((fw5' ..).g 0 rfl))) (mC (.inl (by ac_rfl)) (mC (.inl (by ac_rfl)) (mC (.inl (by ac_rfl)) (mC (.inl (by ac_rfl)) mN))))
    have L8 := L.turn K8 (C8.at' ((fw5' ..).g 1 rfl)) (C8.at' ((fw5' ..).g 2 rfl))
    have A8 : LA w X { Y with ln := Y.ln + nl, tl := tl, p := p', tp := tp } [(N0, frF w.params X.lx N1 fa fb fc (.str (toS (u2 ++ [44])) yk)), (N1, listO (sA (a ++ m)) n7)] h8 := L.set L8 rfl (by
      exact mC (C8.at' ((fw5' ..).g 3 rfl)) (mC (C8.at' ((fw5' ..).g 4 rfl)) mN))
    have hmore := htk.more
    refine ⟨(fc1' ..).e.2, ih { Y with ln := Y.ln + nl, tl := tl, p := p', tp := tp } fa fb fc u2 yk (a ++ m) n7 hp1 hp2 hxs (by rw [List.length_append]; omega) _ _ _ hA hd C8.sta A8 fun f h' t' P => H f h' t' ?_⟩
    obtain ⟨hf, K9, p2, tl2, tp2, m2, n2, tk2, tt2, q1, q2, q3, q4⟩ := P
    refine ⟨hf, K8.trans K9 (fun a ha => .inl ha), p2, tl2, tp2, m ++ m2, n2, tk2, tt2, q1, q2, ?_, ?_⟩
    · rw [List.map_append, hm, q3]
    · rw [← List.append_assoc]
      have e : Y.ln + ((nl + nl' : Nat) : Int) = Y.ln + nl + nl' := by omega
      rw [e]
      exact q4
theorem factor_ok {w : World} {X : LX} {Z : LS} (hl : 2 ≤ X.text.length) (hsz : 4 * X.text.length + 10 ≤ sizeLine) {l : List Nat} {ws : List Str} {more : List Nat} {nl : Nat} (hF : Fac l ws more nl) (hrest : X.rest Z.p = l) (hp : Z.p ≤ X.text.length) (hxs : Z.xs = #[]) :
    Ctr w 5 (.call (.ref 97) ⟨[.ref X.lx], []⟩) (LexAt w X Z) (fun h v h' => ∃ D m n, v = .ref D ∧ h.objs.size ≤ D ∧ h'.get? D = some (listO (sA m) n) ∧ m.map (·.1) = ws ∧ Off w D ∧ Kp [X.dx, X.sp] h h' ∧ ∃ p' tl tp, X.rest p' = more ∧ p' ≤ X.text.length ∧ LexAt w X { Z with ln := Z.ln + nl, tl := tl, p := p', tp := tp } h') := by
  rintro A R ⟨h0, g, d, T, ost⟩ hA hd S L0 H
  obtain ⟨b, hb⟩ : ∃ b, w.params.followText "special-get-raises" = b := ⟨_, rfl⟩
  obtain ⟨N, hN⟩ : ∃ N, h0.objs.size = N := ⟨_, rfl⟩
  have L : LA w X Z [] h0 := ⟨L0, (fun _ h => nomatch h), (by simpa using L0.nd), (fun _ h => nomatch h)⟩
  have ha := L.ha
  refine seg_fn (L.cur S) (fn97 w) hb hA (by first | exact room0 hd | omega) hN _ (fc0.eq_1 w b N T X Z) (fc0' ..).s (fc0' ..).o fun h1 N1 T1 hN1 C1 => ?_
  refine code_call C1 hb hA hN1 _ (fc1.eq_1 w b N T X Z N1 T1) no_orc (fc1' ..).s (fc1' ..).o fun h2 N2 T2 hN2 C2 => ?_
  have K2 : Kp [] h0 h2 := by
    refine C2.fin ha ?_
    exact mC (.inr (C2.at' ((fc1' ..).g 0 rfl))) (mC (.inr (C2.at' ((fc1' ..).g 1 rfl))) (mC (.inr (C2.at' ((fc1' ..).g 2 rfl))) mN))
  have L2 := L0.same K2
  have hN1' : h0.objs.size ≤ N1 := by rw [← hN1]; exact C1.kp.1
  have ne : N ≠ N1 := pick_ne C2.nd (by decide) ((fc1' w b N T X Z N1 T1).g 3 rfl) ((fc1' ..).g 4 rfl)
  have A2 : LA w X Z [(N, frF w.params X.lx N1 T (T1 + 1) (T1 + 2) (.str (toS ([] ++ [44])) T1)), (N1, listO (sA []) 0)] h2 := by
    refine ⟨L2, ?_, ?_, ?_⟩
    · exact mC ((C2.at' ((fc1' ..).g 3 rfl)).trans (congrArg some (frFz_is ..))) (mC (C2.at' ((fc1' ..).g 4 rfl)) mN)
    · refine List.nodup_append.mpr ⟨L0.nd, by simpa using ne, fun x hx y hy e => ?_⟩
      have hlt := L0.lt x hx
      simp only [List.map_cons, List.map_nil, List.mem_cons, nmn, or_false] at hy
      rcases hy with hy | hy
      · exact absurd hlt (by rw [show x = N from Eq.trans e hy, hN]; exact Nat.lt_irrefl _)
      · exact absurd hlt (by rw [show x = N1 from Eq.trans e hy]; exact Nat.not_lt.mpr hN1')
    · exact mC (C2.off' ((fc1' ..).g 3 rfl)) (mC (C2.off' ((fc1' ..).g 4 rfl)) mN)
  refine loopF hb N T N1 T1 X Z hl hsz hF Z T (T1 + 1) (T1 + 2) [] T1 [] 0 hrest hp hxs (by have := rest_len hrest; simp; omega) _ _ _ (aroO_handled hA _) (by first | exact room hd (fc1' ..).e.1 rfl | (rw [aroO_depth, (fc1' ..).e.1]; omega)) C2.sta A2 fun f h3 T3 P => ?_
  obtain ⟨rfl, K3, p', tl, tp, m, n, tk, tt, q1, q2, q3, A3⟩ := P
  have S3 : Sta w h3 := C2.sta.kp K3 (by
    exact mC (L0.off _ (by ac_rfl)) (mC (L0.off _ (by ac_rfl)) (mC (C2.off' ((fc1' ..).g 3 rfl)) (mC (C2.off' ((fc1' ..).g 4 rfl)) mN))))
  have ha3 : ∀ p ∈ ([(N, frF w.params X.lx N1 T (T1 + 1) (T1 + 2) (.str tk tt))] : Led), h3.get? p.1 = some p.2 := by
    exact mC (A3.at_ (_, _) (.head _)) mN
  refine res_fin (Cur.start S3 ha3 (by ac_rfl) (by
    exact mC (C2.off' ((fc1' ..).g 3 rfl)) mN)) hb hA rfl _ (fc2.eq_1 w b N T X Z N1 T1 h3.objs.size T3 T (T1 + 1) (T1 + 2) tk tt) no_orc (fc2' ..).s (fc2' ..).o fun h4 N4 T4 hN4 C4 => ?_
  have K4 : Kp [] h3 h4 := by
    refine C4.fin ha3 ?_
    exact mC (.inr (C4.at' ((fc2' ..).g 0 rfl))) mN
  have K : Kp [X.dx, X.sp] h0 h4 := (((K2.mono fun a ha => nomatch ha).trans K3 (by
    exact mC (.inl (by ac_rfl)) (mC (.inl (by ac_rfl)) (mC (.inr (show h0.objs.size ≤ N by omega)) (mC (.inr hN1') mN))))).trans K4 fun a ha => nomatch ha)
  exact H _ _ _ ⟨N1, m, n, rfl, hN1', K4.get (A3.at_ (N1, listO (sA ([] ++ m)) n) (.tail _ (.head _))) (fun h => nomatch h), q3, C2.off' ((fc1' ..).g 4 rfl), K, p', tl, tp, q1, q2, A3.lex.same K4⟩
noncomputable abbrev ledQ (w : World) (X : LX) (Z : LS) (E : Led) : Led := (X.lx, lexO X) :: (X.dx, lexD w.params X Z.ln Z.tl) :: (X.sp, spotO w.params X.kp (.int Z.p Z.tp)) :: (X.pb, listO Z.xs Z.n) :: E
section
variable {w : World} {X : LX} {Y Y' : LS} {E E' : Led} {h h' : Heap}
theorem LA.haQ (L : LA w X Y E h) : ∀ p ∈ ledQ w X Y E, h.get? p.1 = some p.2 := by
  simp only [fmc]
  exact ⟨L.lex.lx, L.lex.dx, L.lex.sp, L.lex.pb, L.at_⟩
theorem LA.curQ (L : LA w X Y E h) (S : Sta w h) : Cur w h ((ledQ w X Y E).map (·.1)) h (ledQ w X Y E) := by
  refine Cur.start S L.haQ ?_ ?_
  · have p : List.Perm ([X.lx, X.dx, X.sp, X.pb] ++ E.map (·.1)) ([X.lx, X.dx, X.pb, X.sp] ++ E.map (·.1)) := List.Perm.append_right _ (List.Perm.cons _ (List.Perm.cons _ (List.Perm.swap _ _ _)))
    show ([X.lx, X.dx, X.sp, X.pb] ++ E.map (·.1)).Nodup
    refine p.nodup_iff.mpr (List.Sublist.nodup ?_ L.nd)
    exact List.Sublist.append (by repeat (first | exact List.nil_sublist _ | refine List.Sublist.cons_cons _ ?_ | refine List.Sublist.cons _ ?_)) (List.Sublist.refl _)
  · simp only [fmc]
    exact ⟨L.lex.off _ (by ac_rfl), L.lex.off _ (by ac_rfl), L.lex.off _ (by ac_rfl), L.lex.off _ (by ac_rfl), L.off⟩
theorem LA.turnQ (L : LA w X Y E h) (K : Kp (X.dx :: X.sp :: X.pb :: E.map (·.1)) h h') (hdx : h'.get? X.dx = some (lexD w.params X Y'.ln Y'.tl)) (hsp : h'.get? X.sp = some (spotO w.params X.kp (.int Y'.p Y'.tp))) (hpb : h'.get? X.pb = some (listO Y'.xs Y'.n)) : LexAt w X Y' h' := by
  refine L.lex.kpM K (fun a ha hm => ?_) hdx hpb hsp
  rcases List.mem_cons.mp hm with h | hm
  · exact .inl h
  · rcases List.mem_cons.mp hm with h | hm
    · exact .inr (.inr h)
    · rcases List.mem_cons.mp hm with h | hm
      · exact .inr (.inl h)
      · exact absurd hm (L.out ha)
theorem LA.keep {M : List Addr} (L : LA w X Y E h) (K : Kp M h h') (hM : ∀ a ∈ M, a ∈ E.map (·.1)) : LexAt w X Y h' := by
  have no : ∀ a ∈ X.keys, a ∉ M := fun a ha hm => L.out ha (hM a hm)
  refine L.lex.kpM (Z' := Y) K (fun a ha hm => absurd hm (no a ha)) (K.get L.lex.dx (no _ (by ac_rfl))) (K.get L.lex.pb (no _ (by ac_rfl))) (K.get L.lex.sp (no _ (by ac_rfl)))
end
noncomputable def sTable : Str := ⟨#[116, 97, 98, 108, 101]⟩
noncomputable def sTwo : Str := ⟨#[116, 119, 111]⟩
noncomputable def sOne : Str := ⟨#[111, 110, 101]⟩
noncomputable def sQueue : Str := ⟨#[113, 117, 101, 117, 101]⟩
noncomputable def sFirst : Str := ⟨#[102, 105, 114, 115, 116]⟩
noncomputable def sSecond : Str := ⟨#[115, 101, 99, 111, 110, 100]⟩
structure PF where
  L : Nat
  tb : Nat
  d1 : Nat
  d2 : Nat
  q : Nat
  k1 : Nat
  k2 : Nat
  k3 : Nat
  k4 : Nat
  k5 : Nat
  k6 : Nat
  k7 : Nat
noncomputable abbrev frP5 (P : Params) (lx : Addr) (F : PF) : Obj := ⟨.type "frame", none, .dict #[ent P sLexer F.k1 (.ref lx), ent P sTable F.k2 (.ref F.tb), ent P sTwo F.k3 (.ref F.d2), ent P sOne F.k4 (.ref F.d1), ent P sQueue F.k5 (.ref F.q)] 5, #[]⟩
noncomputable abbrev frP6 (P : Params) (lx : Addr) (F : PF) (a : Value) : Obj := ⟨.type "frame", none, .dict #[ent P sLexer F.k1 (.ref lx), ent P sTable F.k2 (.ref F.tb), ent P sTwo F.k3 (.ref F.d2), ent P sOne F.k4 (.ref F.d1), ent P sQueue F.k5 (.ref F.q), ent P sFirst F.k6 a] 6, #[]⟩
noncomputable abbrev frP7 (P : Params) (lx : Addr) (F : PF) (a b : Value) : Obj := ⟨.type "frame", none, .dict #[ent P sLexer F.k1 (.ref lx), ent P sTable F.k2 (.ref F.tb), ent P sTwo F.k3 (.ref F.d2), ent P sOne F.k4 (.ref F.d1), ent P sQueue F.k5 (.ref F.q), ent P sFirst F.k6 a, ent P sSecond F.k7 b] 7, #[]⟩
noncomputable abbrev frP5z (P : Params) (lx : Addr) (F : PF) : Obj := ⟨.type "frame", none, .dict #[entZ P sLexer F.k1 (.ref lx), entZ P sTable F.k2 (.ref F.tb), entZ P sTwo F.k3 (.ref F.d2), entZ P sOne F.k4 (.ref F.d1), entZ P sQueue F.k5 (.ref F.q)] 5, #[]⟩
noncomputable abbrev frP6z (P : Params) (lx : Addr) (F : PF) (k : Nat) (a : Value) : Obj := ⟨.type "frame", none, .dict #[ent P sLexer F.k1 (.ref lx), ent P sTable F.k2 (.ref F.tb), ent P sTwo F.k3 (.ref F.d2), ent P sOne F.k4 (.ref F.d1), ent P sQueue F.k5 (.ref F.q), entZ P sFirst k a] 6, #[]⟩
noncomputable abbrev frP7z (P : Params) (lx : Addr) (F : PF) (k : Nat) (a b : Value) : Obj := ⟨.type "frame", none, .dict #[ent P sLexer F.k1 (.ref lx), ent P sTable F.k2 (.ref F.tb), ent P sTwo F.k3 (.ref F.d2), ent P sOne F.k4 (.ref F.d1), ent P sQueue F.k5 (.ref F.q), ent P sFirst F.k6 a, entZ P sSecond k b] 7, #[]⟩
theorem frP5z_is (P : Params) (lx : Addr) (F : PF) : frP5z P lx F = frP5 P lx F := by
  unfold frP5z; simp only [entZ_is]
theorem frP6z_is (P : Params) (lx : Addr) (F : PF) (k : Nat) (a : Value) : frP6z P lx F k a = frP6 P lx { F with k6 := k } a := by
  unfold frP6z; simp only [entZ_is]
theorem frP7z_is (P : Params) (lx : Addr) (F : PF) (k : Nat) (a b : Value) : frP7z P lx F k a b = frP7 P lx { F with k7 := k } a b := by
  unfold frP7z; simp only [entZ_is]
noncomputable abbrev frSec (P : Params) (lx : Addr) (F : PF) (a : Value) : Option (Nat × Str × Nat) → Obj
  | none => frP6 P lx F a
  | some (k, s, t) => frP7 P lx { F with k7 := k } a (.str s t)
noncomputable abbrev frSn (P : Params) (lx : Addr) (F : PF) (T : Nat) (a : Value) (s : Str) (t : Nat) : Option (Nat × Str × Nat) → Obj
  | none => frP7z P lx F T a (.str s t)
  | some (k, _, _) => frP7 P lx { F with k7 := k } a (.str s t)
noncomputable def secK (wd : Option (Nat × Str × Nat)) (T : Nat) : Nat := match wd with
  | none => T
  | some q => q.1
theorem frSn_is (P : Params) (lx : Addr) (F : PF) (T : Nat) (a : Value) (s : Str) (t : Nat) (wd : Option (Nat × Str × Nat)) : frSn P lx F T a s t wd = frSec P lx F a (some (secK wd T, s, t)) := by
  cases wd with
  | none => exact frP7z_is ..
  | some q => rfl
noncomputable def gpO (P : Params) : Stmt := nthS (bodyOf (fdK P 104)) 1
noncomputable def codeP1 (P : Params) (L it : Addr) : Code := forCode (gpO P) (.ref it) (envK P 104 103 L)
noncomputable def codeP2 (P : Params) (L it : Addr) : Code := forCode (nthS (forBody (gpO P)) 0) (.ref it) (envK P 104 103 L)
section
variable (w : World) (b : Bool) (N0 T0 : Nat) (X : LX) (Y : LS) (F : PF) (it i : Nat) (ys : Array Value) (ny : Nat) (ta : Array Value) (nt : Nat) (xs : Array Value) (nx : Nat) (s1 : Str) (t1 : Nat) (sec : Option (Nat × Str × Nat)) (N1 T1 : Nat) (s : Str) (t N2 T2 N3 T3 N4 T4 a ka N5 T5 e ke N6 T6 : Nat) (x : Str) (kx N7 T7 : Nat) (xs2 : Array Value) (nx2 N8 T8 N9 T9 : Nat) (zs : Array Value) (nz ee ts : Nat)
@[irreducible] noncomputable def pa6 : Res := startZ (VV w b N0 T0) 100 [8, 1] [] (codeP2 w.params F.L it) (ledQ w X Y [(F.L, (frSec w.params X.lx F (.str s1 t1) sec)), (F.tb, listO ta nt), (F.q, listO xs nx), (it, litO (.ref F.d2) i), (F.d2, listO ys ny)])
theorem pa6' : (fun r => Lk r [(0, X.lx, lexO X), (1, X.dx, lexD w.params X Y.ln Y.tl), (2, X.sp, spotO w.params X.kp (.int Y.p Y.tp)), (3, X.pb, listO Y.xs Y.n), (4, F.L, (frSec w.params X.lx F (.str s1 t1) sec)), (5, F.tb, listO ta nt), (6, F.q, listO xs nx), (7, it, litO (.ref F.d2) i), (8, F.d2, listO ys ny)] (callOf r.out = some (cB "list_iterator.__next__" [.ref it])) (wtO r.out = 0)) (pa6 w b N0 T0 X Y F it i ys ny ta nt xs nx s1 t1 sec) := by cases b <;> rcases sec with _ | ⟨k0, s2, t2⟩ <;> rfl'
@[irreducible] noncomputable def pb6 : Res := resumeZ (VV w b N1 T1) 300 [5, 5, 5, 5, 6, 6, 1] [] (pa6 w b N0 T0 X Y F it i ys ny ta nt xs nx s1 t1 sec).out (.ok (.ret (.str s t))) (put (pa6 w b N0 T0 X Y F it i ys ny ta nt xs nx s1 t1 sec).led 7 (litO (.ref F.d2) (i + 1)))
theorem pb6' : (fun r => Lk r [(0, X.lx, lexO X), (1, X.dx, lexD w.params X Y.ln Y.tl), (2, X.sp, spotO w.params X.kp (.int Y.p Y.tp)), (3, X.pb, listO Y.xs Y.n), (4, F.L, frSn w.params X.lx F T1 (.str s1 t1) s t sec), (5, F.tb, listO ta nt), (6, F.q, listO xs nx), (7, it, litO (.ref F.d2) (i + 1)), (8, F.d2, listO ys ny)] (callOf r.out = some (cB "list.__contains__" [.ref F.tb, .str s1 t1])) (wtO r.out = 0)) (pb6 w b N0 T0 X Y F it i ys ny ta nt xs nx s1 t1 sec N1 T1 s t) := by cases b <;> rcases sec with _ | ⟨k0, s2, t2⟩ <;> rfl'
@[irreducible] noncomputable def pc6 : Res := resumeZ (VV w b N2 T2) 300 [5, 5, 6, 6, 1] [] (pb6 w b N0 T0 X Y F it i ys ny ta nt xs nx s1 t1 sec N1 T1 s t).out (.ok (.ret (.bool true))) (pb6 w b N0 T0 X Y F it i ys ny ta nt xs nx s1 t1 sec N1 T1 s t).led
theorem pc6' : (fun r => Lk r [(0, X.lx, lexO X), (1, X.dx, lexD w.params X Y.ln Y.tl), (2, X.sp, spotO w.params X.kp (.int Y.p Y.tp)), (3, X.pb, listO Y.xs Y.n), (4, F.L, frSn w.params X.lx F T1 (.str s1 t1) s t sec), (5, F.tb, listO ta nt), (6, F.q, listO xs nx), (7, it, litO (.ref F.d2) (i + 1)), (8, F.d2, listO ys ny)] (callOf r.out = some (cB "list.__contains__" [.ref F.tb, .str s t])) (wtO r.out = 0)) (pc6 w b N0 T0 X Y F it i ys ny ta nt xs nx s1 t1 sec N1 T1 s t N2 T2) := by cases b <;> rcases sec with _ | ⟨k0, s2, t2⟩ <;> rfl'
@[irreducible] noncomputable def pd6 : Res := resumeZ (VV w b N3 T3) 300 [5, 7, 7, 7, 7, 5, 5, 6, 6, 6, 6, 5, 1] [] (pc6 w b N0 T0 X Y F it i ys ny ta nt xs nx s1 t1 sec N1 T1 s t N2 T2).out (.ok (.ret (.bool true))) (pc6 w b N0 T0 X Y F it i ys ny ta nt xs nx s1 t1 sec N1 T1 s t N2 T2).led
theorem pd6' : (fun r => Lk r [(0, X.lx, lexO X), (1, X.dx, lexD w.params X Y.ln Y.tl), (2, X.sp, spotO w.params X.kp (.int Y.p Y.tp)), (3, X.pb, listO Y.xs Y.n), (4, F.L, frSn w.params X.lx F T1 (.str s1 t1) s t sec), (5, F.tb, listO ta nt), (6, F.q, listO xs nx), (7, it, litO (.ref F.d2) (i + 1)), (8, F.d2, listO ys ny)] (callOf r.out = some (cB "list.index" [.ref F.tb, .str s1 t1])) (wtO r.out = 0)) (pd6 w b N0 T0 X Y F it i ys ny ta nt xs nx s1 t1 sec N1 T1 s t N2 T2 N3 T3) := by cases b <;> rcases sec with _ | ⟨k0, s2, t2⟩ <;> rfl'
@[irreducible] noncomputable def pe6 : Res := resumeZ (VV w b N4 T4) 300 [5, 6, 6, 6, 6, 5, 1] [] (pd6 w b N0 T0 X Y F it i ys ny ta nt xs nx s1 t1 sec N1 T1 s t N2 T2 N3 T3).out (.ok (.ret (.int (a : Int) ka))) (pd6 w b N0 T0 X Y F it i ys ny ta nt xs nx s1 t1 sec N1 T1 s t N2 T2 N3 T3).led
theorem pe6' : (fun r => Lk r [(0, X.lx, lexO X), (1, X.dx, lexD w.params X Y.ln Y.tl), (2, X.sp, spotO w.params X.kp (.int Y.p Y.tp)), (3, X.pb, listO Y.xs Y.n), (4, F.L, frSn w.params X.lx F T1 (.str s1 t1) s t sec), (5, F.tb, listO ta nt), (6, F.q, listO xs nx), (7, it, litO (.ref F.d2) (i + 1)), (8, F.d2, listO ys ny)] (callOf r.out = some (cB "list.index" [.ref F.tb, .str s t])) (wtO r.out = 0)) (pe6 w b N0 T0 X Y F it i ys ny ta nt xs nx s1 t1 sec N1 T1 s t N2 T2 N3 T3 N4 T4 a ka) := by cases b <;> rcases sec with _ | ⟨k0, s2, t2⟩ <;> rfl'
@[irreducible] noncomputable def pf6 : Res := resumeZ (VV w b N5 T5) 300 [0, 6, 6, 6, 1] [] (pe6 w b N0 T0 X Y F it i ys ny ta nt xs nx s1 t1 sec N1 T1 s t N2 T2 N3 T3 N4 T4 a ka).out (.ok (.ret (.int (e : Int) ke))) (pe6 w b N0 T0 X Y F it i ys ny ta nt xs nx s1 t1 sec N1 T1 s t N2 T2 N3 T3 N4 T4 a ka).led
theorem pf6' : (fun r => Lk r [(0, X.lx, lexO X), (1, X.dx, lexD w.params X Y.ln Y.tl), (2, X.sp, spotO w.params X.kp (.int Y.p Y.tp)), (3, X.pb, listO Y.xs Y.n), (4, F.L, frSn w.params X.lx F T1 (.str s1 t1) s t sec), (5, F.tb, listO ta nt), (6, F.q, listO xs nx), (7, it, litO (.ref F.d2) (i + 1)), (8, F.d2, listO ys ny)] (callOf r.out = some (cB "list.__getitem__" [.ref F.tb, .int ((a : Int) + (e : Int)) T5])) (wtO r.out = 0)) (pf6 w b N0 T0 X Y F it i ys ny ta nt xs nx s1 t1 sec N1 T1 s t N2 T2 N3 T3 N4 T4 a ka N5 T5 e ke) := by cases b <;> rcases sec with _ | ⟨k0, s2, t2⟩ <;> rfl'
@[irreducible] noncomputable def pg6 : Res := resumeZ (VV w b N6 T6) 300 [1] [] (pf6 w b N0 T0 X Y F it i ys ny ta nt xs nx s1 t1 sec N1 T1 s t N2 T2 N3 T3 N4 T4 a ka N5 T5 e ke).out (.ok (.ret (.str x kx))) (pf6 w b N0 T0 X Y F it i ys ny ta nt xs nx s1 t1 sec N1 T1 s t N2 T2 N3 T3 N4 T4 a ka N5 T5 e ke).led
theorem pg6' : (fun r => Lk r [(0, X.lx, lexO X), (1, X.dx, lexD w.params X Y.ln Y.tl), (2, X.sp, spotO w.params X.kp (.int Y.p Y.tp)), (3, X.pb, listO Y.xs Y.n), (4, F.L, frSn w.params X.lx F T1 (.str s1 t1) s t sec), (5, F.tb, listO ta nt), (6, F.q, listO xs nx), (7, it, litO (.ref F.d2) (i + 1)), (8, F.d2, listO ys ny)] (callOf r.out = some (cB "list.append" [.ref F.q, .str x kx])) (wtO r.out = 0)) (pg6 w b N0 T0 X Y F it i ys ny ta nt xs nx s1 t1 sec N1 T1 s t N2 T2 N3 T3 N4 T4 a ka N5 T5 e ke N6 T6 x kx) := by cases b <;> rcases sec with _ | ⟨k0, s2, t2⟩ <;> rfl'
@[irreducible] noncomputable def ph6 : Res := resumeZ (VV w b N7 T7) 300 [5, 1, 0, 0, 0, 1, 0, 0, 0, 1, 0, 0, 0, 0, 1, 2, 5, 0, 7, 7, 7, 1] [] (pg6 w b N0 T0 X Y F it i ys ny ta nt xs nx s1 t1 sec N1 T1 s t N2 T2 N3 T3 N4 T4 a ka N5 T5 e ke N6 T6 x kx).out (.ok (.ret .none)) (put (pg6 w b N0 T0 X Y F it i ys ny ta nt xs nx s1 t1 sec N1 T1 s t N2 T2 N3 T3 N4 T4 a ka N5 T5 e ke N6 T6 x kx).led 6 (listO xs2 nx2))
theorem ph6' : (fun r => Lk r [(0, X.lx, lexO X), (1, X.dx, lexD w.params X Y.ln Y.tl), (2, X.sp, spotO w.params X.kp (.int Y.p Y.tp)), (3, X.pb, listO Y.xs Y.n), (4, F.L, frSn w.params X.lx F T1 (.str s1 t1) s t sec), (5, F.tb, listO ta nt), (6, F.q, listO xs2 nx2), (7, it, litO (.ref F.d2) (i + 1)), (8, F.d2, listO ys ny)] (callOf r.out = some (cB "list.__getitem__" [.ref F.q, .int (-1) (T7 + 1)])) (wtO r.out = 0)) (ph6 w b N0 T0 X Y F it i ys ny ta nt xs nx s1 t1 sec N1 T1 s t N2 T2 N3 T3 N4 T4 a ka N5 T5 e ke N6 T6 x kx N7 T7 xs2 nx2) := by cases b <;> rcases sec with _ | ⟨k0, s2, t2⟩ <;> rfl'
@[irreducible] noncomputable def pi6 : Res := resumeZ (VV w b N8 T8) 300 [0, 1] [] (ph6 w b N0 T0 X Y F it i ys ny ta nt xs nx s1 t1 sec N1 T1 s t N2 T2 N3 T3 N4 T4 a ka N5 T5 e ke N6 T6 x kx N7 T7 xs2 nx2).out (.ok (.ret (.str x kx))) (ph6 w b N0 T0 X Y F it i ys ny ta nt xs nx s1 t1 sec N1 T1 s t N2 T2 N3 T3 N4 T4 a ka N5 T5 e ke N6 T6 x kx N7 T7 xs2 nx2).led
theorem pi6' : (fun r => Lk r [(0, X.lx, lexO X), (1, X.dx, lexD w.params X Y.ln Y.tl), (2, X.sp, spotO w.params X.kp (.int Y.p Y.tp)), (3, X.pb, listO Y.xs Y.n), (4, F.L, frSn w.params X.lx F T1 (.str s1 t1) s t sec), (5, F.tb, listO ta nt), (6, F.q, listO xs2 nx2), (7, it, litO (.ref F.d2) (i + 1)), (8, F.d2, listO ys ny)] (callOf r.out = some (.call (.ref 49) ⟨[.ref X.lx, .str x kx], []⟩)) (wtO r.out = 0)) (pi6 w b N0 T0 X Y F it i ys ny ta nt xs nx s1 t1 sec N1 T1 s t N2 T2 N3 T3 N4 T4 a ka N5 T5 e ke N6 T6 x kx N7 T7 xs2 nx2 N8 T8) := by cases b <;> rcases sec with _ | ⟨k0, s2, t2⟩ <;> rfl'
@[irreducible] noncomputable def pj6 : Res := resumeZ (VV w b N9 T9) 300 [] [] (pi6 w b N0 T0 X Y F it i ys ny ta nt xs nx s1 t1 sec N1 T1 s t N2 T2 N3 T3 N4 T4 a ka N5 T5 e ke N6 T6 x kx N7 T7 xs2 nx2 N8 T8).out (.ok (.ret .none)) (put (pi6 w b N0 T0 X Y F it i ys ny ta nt xs nx s1 t1 sec N1 T1 s t N2 T2 N3 T3 N4 T4 a ka N5 T5 e ke N6 T6 x kx N7 T7 xs2 nx2 N8 T8).led 3 (listO zs nz))
theorem pj6' : (fun r => Lk r [(0, X.lx, lexO X), (1, X.dx, lexD w.params X Y.ln Y.tl), (2, X.sp, spotO w.params X.kp (.int Y.p Y.tp)), (4, F.L, frSn w.params X.lx F T1 (.str s1 t1) s t sec), (5, F.tb, listO ta nt), (6, F.q, listO xs2 nx2), (7, it, litO (.ref F.d2) (i + 1)), (8, F.d2, listO ys ny), (3, X.pb, listO zs nz)] (finOf r.out = some (.again (codeP2 w.params F.L it))) (True)) (pj6 w b N0 T0 X Y F it i ys ny ta nt xs nx s1 t1 sec N1 T1 s t N2 T2 N3 T3 N4 T4 a ka N5 T5 e ke N6 T6 x kx N7 T7 xs2 nx2 N8 T8 N9 T9 zs nz) := by cases b <;> rcases sec with _ | ⟨k0, s2, t2⟩ <;> rfl'
@[irreducible] noncomputable def pz6 : Res := resumeZ (VV w b N1 T1) 100 [1] [] (pa6 w b N0 T0 X Y F it i ys ny ta nt xs nx s1 t1 sec).out (.error (.ref ee)) [(ee, stopO ts)]
theorem pz6' : (fun r => Lk r [(0, ee, stopO ts)] (isAg r.out = true) ((agOf r.out).quiet = true)) (pz6 w b N0 T0 X Y F it i ys ny ta nt xs nx s1 t1 sec N1 T1 ee ts) := by cases b <;> rcases sec with _ | ⟨k0, s2, t2⟩ <;> rfl'
@[irreducible] noncomputable def py6 : Res := startZ (VV w b N2 T2) 100 [] [] (agOf (pz6 w b N0 T0 X Y F it i ys ny ta nt xs nx s1 t1 sec N1 T1 ee ts).out) (pz6 w b N0 T0 X Y F it i ys ny ta nt xs nx s1 t1 sec N1 T1 ee ts).led
theorem py6' : (fun r => Lk r [(0, ee, stopO ts)] (finOf r.out = some (.done .next)) (True)) (py6 w b N0 T0 X Y F it i ys ny ta nt xs nx s1 t1 sec N1 T1 N2 T2 ee ts) := by cases b <;> rcases sec with _ | ⟨k0, s2, t2⟩ <;> rfl'
end
noncomputable def names : List Str := [⟨#[79, 80, 84, 73, 77, 73, 90, 69, 68]⟩, ⟨#[78, 69, 87, 76, 79, 67, 65, 76, 83]⟩, ⟨#[86, 65, 82, 65, 82, 71, 83]⟩, ⟨#[86, 65, 82, 75, 69, 89, 87, 79, 82, 68, 83]⟩, ⟨#[78, 69, 83, 84, 69, 68]⟩, ⟨#[71, 69, 78, 69, 82, 65, 84, 79, 82]⟩, ⟨#[78, 79, 70, 82, 69, 69]⟩, ⟨#[67, 79, 82, 79, 85, 84, 73, 78, 69]⟩, ⟨#[73, 84, 69, 82, 65, 66, 76, 69, 95, 67, 79, 82, 79, 85, 84, 73, 78, 69]⟩, ⟨#[65, 83, 89, 78, 67, 95, 71, 69, 78, 69, 82, 65, 84, 79, 82]⟩, ⟨#[48, 120, 52, 48, 48]⟩, ⟨#[110, 111, 110, 101]⟩]
noncomputable def ix (s : Str) : Nat := names.idxOf s
theorem ix_at {s : Str} (h : s ∈ names) : names[ix s]? = some s := by
  have hlt := List.idxOf_lt_length_of_mem h
  unfold ix
  rw [List.getElem?_eq_getElem hlt, List.getElem_idxOf]
theorem ix_no (s : Str) : ∀ m, m < ix s → names[m]? ≠ some s := fun m hm e => by
  obtain ⟨h1, h2⟩ := List.getElem?_eq_some_iff.mp e
  have q := List.not_of_lt_findIdx (p := (· == s)) (xs := names) hm
  rw [h2] at q
  simp at q
theorem ix_lt {s : Str} (h : s ∈ names) : ix s < 12 := List.idxOf_lt_length_of_mem h
theorem cInT {w : World} {A : Around} {R : Result → Shared → Prop} {h₀ : Heap} {g : Array GenState} {d : Drawn} {T : Nat} {ost : OsState} {a : Addr} {l : List (Str × Nat)} {x : Str} {n t : Nat} (ha : h₀.get? a = some (listO (sA l) n)) (hl : l.map (·.1) = names) (hx : x ∈ names) (h : R (.ok (.ret (.bool true))) ⟨h₀, g, d, T, ost⟩) : codeAny (model pg w) A (cB "list.__contains__" [.ref a, .str x t]) R ⟨h₀, g, d, T, ost⟩ := by
  refine cIn ha ?_
  rw [decide_eq_true (by rw [hl]; exact hx)]
  exact h
theorem cIndexT {w : World} {A : Around} {R : Result → Shared → Prop} {h₀ : Heap} {g : Array GenState} {d : Drawn} {T : Nat} {ost : OsState} {a : Addr} {l : List (Str × Nat)} {x : Str} {n t : Nat} (ha : h₀.get? a = some (listO (sA l) n)) (hl : l.map (·.1) = names) (hx : x ∈ names) (h : R (.ok (.ret (.int (ix x : Nat) T))) ⟨h₀, g, d, T + 1, ost⟩) : codeAny (model pg w) A (cB "list.index" [.ref a, .str x t]) R ⟨h₀, g, d, T, ost⟩ := by
  have hll : l.length = 12 := by rw [← List.length_map (f := (·.1)), hl]; rfl
  exact cIndex ha (by rw [hll]; decide) (by rw [hl]; exact ix_at hx) (by rw [hl]; exact ix_no x) h
noncomputable def tabv (l : List (Str × Nat)) (j : Nat) : Str × Nat := l.getD j (⟨#[]⟩, 0)
theorem tab_at {l : List (Str × Nat)} (hl : l.map (·.1) = names) {j : Nat} (hj : j < 12) : (sA l)[j]? = some (sv (tabv l j)) := by
  have hll : l.length = 12 := by rw [← List.length_map (f := (·.1)), hl]; rfl
  have : j < l.length := by omega
  simp [tabv, List.getD, this]
noncomputable abbrev IE (w : World) (X : LX) (F : PF) (it i : Nat) (l2 : List (Str × Nat)) (ny : Nat) (tab : List (Str × Nat)) (nt : Nat) (qs : List (Str × Nat)) (nx : Nat) (s1 : Str) (t1 : Nat) (sec : Option (Nat × Str × Nat)) : Led :=
  [(F.L, frSec w.params X.lx F (.str s1 t1) sec), (F.tb, listO (sA tab) nt), (F.q, listO (sA qs) nx), (it, litO (.ref F.d2) i), (F.d2, listO (sA l2) ny)]
theorem innerP {w : World} {b : Bool} (hb : w.params.followText "special-get-raises" = b) (X : LX) (F : PF) (it : Nat) (l2 : List (Str × Nat)) (ny : Nat) (tab : List (Str × Nat)) (nt : Nat) (s1 : Str) (t1 : Nat) (htab : tab.map (·.1) = names) (hs1 : s1 ∈ names) :
    ∀ (rem : List (Str × Nat)) (i : Nat) (Y : LS) (ps qs : List (Str × Nat)) (nx : Nat) (sec : Option (Nat × Str × Nat)), (sA l2).toList.drop i = rem.map sv → (∀ p ∈ rem, p.1 ∈ names ∧ ix s1 + ix p.1 < 12) → Y.xs = sA ps → ps.length + qs.length + 2 * rem.length ≤ sizeLine →
    CtrF w 2 (codeP2 w.params F.L it) (LA w X Y (IE w X F it i l2 ny tab nt qs nx s1 t1 sec)) (fun h f h' => f = .next ∧ Kp [X.pb, F.L, F.q, it] h h' ∧ ∃ nx' n' sec', LexAt w X { Y with xs := sA (ps ++ rem.map fun p => tabv tab (ix s1 + ix p.1)), n := n' } h' ∧ h'.get? F.q = some (listO (sA (qs ++ rem.map fun p => tabv tab (ix s1 + ix p.1))) nx') ∧ h'.get? F.L = some (frSec w.params X.lx F (.str s1 t1) sec')) := by
  intro rem
  induction rem with
  | nil =>
    intro i Y ps qs nx sec hrem hmem hps hsz
    rintro A R ⟨h0, g, d, T, ost⟩ hA hd S L H
    obtain ⟨N, hN⟩ : ∃ N, h0.objs.size = N := ⟨_, rfl⟩
    have ha := L.haQ
    have C0 := L.curQ S
    refine code_call C0 hb hA hN _ (pa6.eq_1 w b N T X Y F it i (sA l2) ny (sA tab) nt (sA qs) nx s1 t1 sec) no_orc (pa6' ..).s (pa6' ..).o fun h1 N1 T1 hN1 C1 => ?_
    have K1 : Kp [] h0 h1 := by
      refine C1.fin ha ?_
      exact mC (.inr (C1.at' ((pa6' ..).g 0 rfl))) (mC (.inr (C1.at' ((pa6' ..).g 1 rfl))) (mC (.inr (C1.at' ((pa6' ..).g 2 rfl))) (mC (.inr (C1.at' ((pa6' ..).g 3 rfl))) (mC (.inr (C1.at' ((pa6' ..).g 4 rfl))) (mC (.inr (C1.at' ((pa6' ..).g 5 rfl))) (mC (.inr (C1.at' ((pa6' ..).g 6 rfl))) (mC (.inr (C1.at' ((pa6' ..).g 7 rfl))) (mC (.inr (C1.at' ((pa6' ..).g 8 rfl))) mN))))))))
    refine cNextStop (aroO_handled hA _) (C1.at' ((pa6' ..).g 7 rfl)) (C1.at' ((pa6' ..).g 8 rfl)) (src_end hrem) fun h2 e ts K2 e2 e3 hne => ?_
    have S2 : Sta w h2 := C1.sta.kp K2 fun x hx => by cases List.mem_singleton.mp hx; exact C1.off' ((pa6' ..).g 7 rfl)
    have ha2 : ∀ p ∈ ([(e, stopO ts)] : Led), h2.get? p.1 = some p.2 := by
      exact mC (e3) mN
    refine res_fin (Cur.start S2 ha2 (by ac_rfl) (by
      exact mC (C1.sta.off hne) mN)) hb hA rfl _ (pz6.eq_1 w b N T X Y F it i (sA l2) ny (sA tab) nt (sA qs) nx s1 t1 sec h2.objs.size T1 e ts) no_orc (pz6' ..).s (agOf_fin (pz6' ..).o) fun h3 N3 T3 hN3 C3 => ?_
    refine ⟨(pz6' ..).e, ?_⟩
    refine code_fin C3 hb hA hN3 _ (py6.eq_1 w b N T X Y F it i (sA l2) ny (sA tab) nt (sA qs) nx s1 t1 sec h2.objs.size T1 N3 T3 e ts) no_orc (py6' ..).s (py6' ..).o fun h4 N4 T4 hN4 C4 => ?_
    have K4 : Kp [] h2 h4 := by
      refine C4.fin ha2 ?_
      exact mC (.inr (C4.at' ((py6' ..).g 0 rfl))) mN
    have K14 := (K1.mono (M' := [it]) fun a ha => nomatch ha).trans (K2.trans K4 fun a ha => nomatch ha) fun a ha => .inl ha
    have L4 : LexAt w X Y h4 := L.keep K14 fun a ha => by cases List.mem_singleton.mp ha; simp
    refine H _ _ _ ⟨rfl, K14.mono (fun a ha => .inl (by cases List.mem_singleton.mp ha; simp)), nx, Y.n, sec, ?_, ?_, ?_⟩
    · have e : ({ Y with xs := sA ps, n := Y.n } : LS) = Y := by rw [← hps]
      simp only [List.map_nil, List.append_nil]
      rw [e]; exact L4
    · simpa using K14.get (L.at_ (F.q, listO (sA qs) nx) (by ac_rfl)) (fun z => nd_ne L.nd 12 13 rfl rfl (by decide) (List.mem_singleton.mp z))
    · exact K14.get (L.at_ (F.L, _) (.head _)) (fun z => nd_ne L.nd 10 13 rfl rfl (by decide) (List.mem_singleton.mp z))
  | cons p rem ih =>
    intro i Y ps qs nx sec hrem hmem hps hsz
    rintro A R ⟨h0, g, d, T, ost⟩ hA hd S L H
    obtain ⟨N, hN⟩ : ∃ N, h0.objs.size = N := ⟨_, rfl⟩
    have ha := L.haQ
    have C0 := L.curQ S
    refine code_call C0 hb hA hN _ (pa6.eq_1 w b N T X Y F it i (sA l2) ny (sA tab) nt (sA qs) nx s1 t1 sec) no_orc (pa6' ..).s (pa6' ..).o fun h1 N1 T1 hN1 C1 => ?_
    obtain ⟨hx, hrem'⟩ := src_item hrem
    obtain ⟨s, t⟩ := p
    obtain ⟨hs, hss⟩ := hmem (s, t) (.head _)
    have hs : s ∈ names := hs
    have hss : ix s1 + ix s < 12 := hss
    refine cNextItem (C1.at' ((pa6' ..).g 7 rfl)) (C1.at' ((pa6' ..).g 8 rfl)) hx fun h2 K2 e2 => ?_
    have C2 := C1.put1 ((pa6' ..).g 7 rfl) K2 e2
    refine res_call C2 hb hA rfl _ (pb6.eq_1 w b N T X Y F it i (sA l2) ny (sA tab) nt (sA qs) nx s1 t1 sec h2.objs.size T1 s t) no_orc (pb6' ..).s (pb6' ..).o fun h3 N3 T3 hN3 C3 => ?_
    refine cInT (C3.at' ((pb6' ..).g 5 rfl)) htab hs1 ?_
    refine res_call C3 hb hA hN3 _ (pc6.eq_1 w b N T X Y F it i (sA l2) ny (sA tab) nt (sA qs) nx s1 t1 sec h2.objs.size T1 s t N3 T3) no_orc (pc6' ..).s (pc6' ..).o fun h4 N4 T4 hN4 C4 => ?_
    refine cInT (C4.at' ((pc6' ..).g 5 rfl)) htab hs ?_
    refine res_call C4 hb hA hN4 _ (pd6.eq_1 w b N T X Y F it i (sA l2) ny (sA tab) nt (sA qs) nx s1 t1 sec h2.objs.size T1 s t N3 T3 N4 T4) no_orc (pd6' ..).s (pd6' ..).o fun h5 N5 T5 hN5 C5 => ?_
    refine cIndexT (C5.at' ((pd6' ..).g 5 rfl)) htab hs1 ?_
    refine res_call C5 hb hA hN5 _ (pe6.eq_1 w b N T X Y F it i (sA l2) ny (sA tab) nt (sA qs) nx s1 t1 sec h2.objs.size T1 s t N3 T3 N4 T4 N5 (T5 + 1) (ix s1) T5) no_orc (pe6' ..).s (pe6' ..).o fun h6 N6 T6 hN6 C6 => ?_
    refine cIndexT (C6.at' ((pe6' ..).g 5 rfl)) htab hs ?_
    refine res_call C6 hb hA hN6 _ (pf6.eq_1 w b N T X Y F it i (sA l2) ny (sA tab) nt (sA qs) nx s1 t1 sec h2.objs.size T1 s t N3 T3 N4 T4 N5 (T5 + 1) (ix s1) T5 N6 (T6 + 1) (ix s) T6) no_orc (pf6' ..).s (pf6' ..).o fun h7 N7 T7 hN7 C7 => ?_
    refine cItemZ (C7.at' ((pf6' ..).g 5 rfl)) (by omega) (by have := ix_lt hs1; have := ix_lt hs; omega) (x := sv (tabv tab (ix s1 + ix s))) (by
      rw [show ((ix s1 : Int) + (ix s : Int)).toNat = ix s1 + ix s by omega]
      exact tab_at htab hss) ?_
    generalize hx' : tabv tab (ix s1 + ix s) = xk
    obtain ⟨x, kx⟩ := xk
    refine res_call C7 hb hA hN7 _ (pg6.eq_1 w b N T X Y F it i (sA l2) ny (sA tab) nt (sA qs) nx s1 t1 sec h2.objs.size T1 s t N3 T3 N4 T4 N5 (T5 + 1) (ix s1) T5 N6 (T6 + 1) (ix s) T6 N7 T7 x kx) no_orc (pg6' ..).s (pg6' ..).o fun h8 N8 T8 hN8 C8 => ?_
    refine cAppend (C8.at' ((pg6' ..).g 6 rfl)) (by simp at hsz ⊢; omega) fun h9 N9 hN9 K9 e9 => ?_
    have C9 := C8.put1 ((pg6' ..).g 6 rfl) K9 e9
    refine res_call C9 hb hA hN9 _ (ph6.eq_1 w b N T X Y F it i (sA l2) ny (sA tab) nt (sA qs) nx s1 t1 sec h2.objs.size T1 s t N3 T3 N4 T4 N5 (T5 + 1) (ix s1) T5 N6 (T6 + 1) (ix s) T6 N7 T7 x kx N9 T8 ((sA qs).push (.str x kx)) (nx + 1)) no_orc (ph6' ..).s (ph6' ..).o fun h10 N10 T10 hN10 C10 => ?_
    refine cLast (C10.at' ((ph6' ..).g 6 rfl)) ?_
    refine res_call C10 hb hA hN10 _ (pi6.eq_1 w b N T X Y F it i (sA l2) ny (sA tab) nt (sA qs) nx s1 t1 sec h2.objs.size T1 s t N3 T3 N4 T4 N5 (T5 + 1) (ix s1) T5 N6 (T6 + 1) (ix s) T6 N7 T7 x kx N9 T8 ((sA qs).push (.str x kx)) (nx + 1) N10 T10) no_orc (pi6' ..).s (pi6' ..).o fun h11 N11 T11 hN11 C11 => ?_
    have K11 : Kp (X.dx :: X.sp :: X.pb :: [F.L, F.tb, F.q, it, F.d2]) h0 h11 := by
      refine C11.fin ha ?_
      exact mC (.inr (C11.at' ((pi6' ..).g 0 rfl))) (mC (.inl (by ac_rfl)) (mC (.inl (by ac_rfl)) (mC (.inl (by ac_rfl)) (mC (.inl (by ac_rfl)) (mC (.inl (by ac_rfl)) (mC (.inl (by ac_rfl)) (mC (.inl (by ac_rfl)) (mC (.inl (by ac_rfl)) mN))))))))
    have L11 := L.turnQ (Y' := Y) K11 (C11.at' ((pi6' ..).g 1 rfl)) (C11.at' ((pi6' ..).g 2 rfl)) (C11.at' ((pi6' ..).g 3 rfl))
    refine push_ok (by rw [hps]; simp at hsz ⊢; omega) _ _ _ (aroO_handled hA _) (by first | exact room hd (pi6' ..).e rfl | (rw [aroO_depth, (pi6' ..).e]; omega)) C11.sta L11 fun v h12 T12 hPP => ?_
    obtain ⟨hv, K12, L12⟩ := hPP
    subst hv
    have C12 := C11.put1 ((pi6' ..).g 3 rfl) K12 L12.pb
    refine res_fin C12 hb hA rfl _ (pj6.eq_1 w b N T X Y F it i (sA l2) ny (sA tab) nt (sA qs) nx s1 t1 sec h2.objs.size T1 s t N3 T3 N4 T4 N5 (T5 + 1) (ix s1) T5 N6 (T6 + 1) (ix s) T6 N7 T7 x kx N9 T8 ((sA qs).push (.str x kx)) (nx + 1) N10 T10 h12.objs.size T12 (Y.xs.push (.str x kx)) (Y.n + 1)) no_orc (pj6' ..).s (pj6' ..).o fun h13 N13 T13 hN13 C13 => ?_
    have K13 : Kp [X.pb, F.L, F.q, it] h0 h13 := by
      refine C13.fin ha ?_
      exact mC (.inr (C13.at' ((pj6' ..).g 0 rfl))) (mC (.inr (C13.at' ((pj6' ..).g 1 rfl))) (mC (.inr (C13.at' ((pj6' ..).g 2 rfl))) (mC (.inl (by ac_rfl)) (mC (.inl (by ac_rfl)) (mC (.inr (C13.at' ((pj6' ..).g 4 rfl))) (mC (.inl (by ac_rfl)) (mC (.inl (by ac_rfl)) (mC (.inr (C13.at' ((pj6' ..).g 7 rfl))) mN))))))))
    have L13 : LexAt w X { Y with xs := Y.xs.push (.str x kx), n := Y.n + 1 } h13 := L.turnQ (Y' := { Y with xs := Y.xs.push (.str x kx), n := Y.n + 1 }) (K13.mono (by ac_rfl)) (C13.at' ((pj6' ..).g 1 rfl)) (C13.at' ((pj6' ..).g 2 rfl)) (C13.at' ((pj6' ..).g 8 rfl))
    have A13 : LA w X { Y with xs := Y.xs.push (.str x kx), n := Y.n + 1 } (IE w X F it (i + 1) l2 ny tab nt (qs ++ [(x, kx)]) (nx + 1) s1 t1 (some (secK sec T1, s, t))) h13 := L.set L13 rfl (by
      exact mC ((C13.at' ((pj6' ..).g 3 rfl)).trans (congrArg some (frSn_is ..))) (mC (C13.at' ((pj6' ..).g 4 rfl)) (mC ((C13.at' ((pj6' ..).g 5 rfl)).trans (by rw [← sA_push qs (x, kx)])) (mC (C13.at' ((pj6' ..).g 6 rfl)) (mC (C13.at' ((pj6' ..).g 7 rfl)) mN)))))
    refine ⟨rfl, ih (i + 1) { Y with xs := Y.xs.push (.str x kx), n := Y.n + 1 } (ps ++ [(x, kx)]) (qs ++ [(x, kx)]) (nx + 1) (some (secK sec T1, s, t)) hrem' (fun q hq => hmem q (.tail _ hq)) (by
      show Y.xs.push (.str x kx) = _
      rw [hps]; exact sA_push ps (x, kx)) (by simp at hsz ⊢; omega) _ _ _ hA hd C13.sta A13 fun f h' t' Q => H f h' t' ?_⟩
    obtain ⟨hf, K14, nx', n', sec', Q1, Q2, Q3⟩ := Q
    refine ⟨hf, K13.trans K14 (fun a ha => .inl ha), nx', n', sec', ?_, ?_, Q3⟩
    · rw [List.append_assoc] at Q1
      simpa [hx'] using Q1
    · rw [List.append_assoc] at Q2
      simpa [hx'] using Q2
noncomputable abbrev frAll (P : Params) (lx : Addr) (F : PF) : Option (Nat × Str × Nat × Option (Nat × Str × Nat)) → Obj
  | none => frP5 P lx F
  | some (k, s, t, sec) => frSec P lx { F with k6 := k } (.str s t) sec
noncomputable abbrev FS := Option (Nat × Str × Nat × Option (Nat × Str × Nat))
noncomputable abbrev frAn (P : Params) (lx : Addr) (F : PF) (T : Nat) (s : Str) (t : Nat) : FS → Obj
  | none => frP6z P lx F T (.str s t)
  | some (k, _, _, sec) => frSec P lx { F with k6 := k } (.str s t) sec
noncomputable def fsK (fs : FS) (T : Nat) : Nat := match fs with
  | none => T
  | some q => q.1
noncomputable def fsS (fs : FS) : Option (Nat × Str × Nat) := match fs with
  | none => none
  | some q => q.2.2.2
theorem frAn_is (P : Params) (lx : Addr) (F : PF) (T : Nat) (s : Str) (t : Nat) (fs : FS) : frAn P lx F T s t fs = frSec P lx { F with k6 := fsK fs T } (.str s t) (fsS fs) := by
  cases fs with
  | none => exact frP6z_is ..
  | some q => rfl
section
variable (w : World) (b : Bool) (N0 T0 : Nat) (X : LX) (Y : LS) (F : PF) (it i : Nat) (y1 : Array Value) (n1 : Nat) (ys : Array Value) (ny : Nat) (ta : Array Value) (nt : Nat) (xs : Array Value) (nx : Nat) (fs : FS) (N1 T1 : Nat) (s : Str) (t N2 T2 ee ts : Nat) (Z : LS) (tb : Nat) (Y1 : LS) (d1 N3 T3 : Nat) (Y2 : LS) (d2 : Nat) (y2 : Array Value) (n2 N4 T4 : Nat) (FH : PF)
@[irreducible] noncomputable def oa5 : Res := startZ (VV w b N0 T0) 100 [8, 1] [] (codeP1 w.params F.L it) (ledQ w X Y [(F.L, (frAll w.params X.lx F fs)), (F.tb, listO ta nt), (F.q, listO xs nx), (it, litO (.ref F.d1) i), (F.d1, listO y1 n1), (F.d2, listO ys ny)])
theorem oa5' : (fun r => Lk r [(0, X.lx, lexO X), (1, X.dx, lexD w.params X Y.ln Y.tl), (2, X.sp, spotO w.params X.kp (.int Y.p Y.tp)), (3, X.pb, listO Y.xs Y.n), (4, F.L, (frAll w.params X.lx F fs)), (5, F.tb, listO ta nt), (6, F.q, listO xs nx), (7, it, litO (.ref F.d1) i), (8, F.d1, listO y1 n1), (9, F.d2, listO ys ny)] (callOf r.out = some (cB "list_iterator.__next__" [.ref it])) (wtO r.out = 0)) (oa5 w b N0 T0 X Y F it i y1 n1 ys ny ta nt xs nx fs) := by cases b <;> rcases fs with _ | ⟨k0, s1, t1, _ | ⟨k7, s2, t2⟩⟩ <;> rfl'
@[irreducible] noncomputable def ob5 : Res := resumeZ (VV w b N1 T1) 300 [5, 5, 5, 10, 10, 0, 10, 11, 1] [] (oa5 w b N0 T0 X Y F it i y1 n1 ys ny ta nt xs nx fs).out (.ok (.ret (.str s t))) (put (oa5 w b N0 T0 X Y F it i y1 n1 ys ny ta nt xs nx fs).led 7 (litO (.ref F.d1) (i + 1)))
theorem ob5' : (fun r => Lk r [(0, X.lx, lexO X), (1, X.dx, lexD w.params X Y.ln Y.tl), (2, X.sp, spotO w.params X.kp (.int Y.p Y.tp)), (3, X.pb, listO Y.xs Y.n), (4, F.L, frAn w.params X.lx F T1 s t fs), (5, F.tb, listO ta nt), (6, F.q, listO xs nx), (7, it, litO (.ref F.d1) (i + 1)), (8, F.d1, listO y1 n1), (9, F.d2, listO ys ny), (10, N1, litO (.ref F.d2) 0)] (callOf r.out = some (codeP2 w.params F.L N1)) (wtO r.out = 0)) (ob5 w b N0 T0 X Y F it i y1 n1 ys ny ta nt xs nx fs N1 T1 s t) := by cases b <;> rcases fs with _ | ⟨k0, s1, t1, _ | ⟨k7, s2, t2⟩⟩ <;> rfl'
@[irreducible] noncomputable def oc5 : Res := resumeZ (VV w b N2 T2) 100 [] [] (ob5 w b N0 T0 X Y F it i y1 n1 ys ny ta nt xs nx fs N1 T1 s t).out (.ok .next) []
theorem oc5' : (fun r => Lk r [] (finOf r.out = some (.again (codeP1 w.params F.L it))) (True)) (oc5 w b N0 T0 X Y F it i y1 n1 ys ny ta nt xs nx fs N1 T1 s t N2 T2) := by cases b <;> rcases fs with _ | ⟨k0, s1, t1, _ | ⟨k7, s2, t2⟩⟩ <;> rfl'
@[irreducible] noncomputable def oz5 : Res := resumeZ (VV w b N1 T1) 100 [1] [] (oa5 w b N0 T0 X Y F it i y1 n1 ys ny ta nt xs nx fs).out (.error (.ref ee)) [(ee, stopO ts)]
theorem oz5' : (fun r => Lk r [(0, ee, stopO ts)] (isAg r.out = true) ((agOf r.out).quiet = true)) (oz5 w b N0 T0 X Y F it i y1 n1 ys ny ta nt xs nx fs N1 T1 ee ts) := by cases b <;> rcases fs with _ | ⟨k0, s1, t1, _ | ⟨k7, s2, t2⟩⟩ <;> rfl'
@[irreducible] noncomputable def oy5 : Res := startZ (VV w b N2 T2) 100 [] [] (agOf (oz5 w b N0 T0 X Y F it i y1 n1 ys ny ta nt xs nx fs N1 T1 ee ts).out) (oz5 w b N0 T0 X Y F it i y1 n1 ys ny ta nt xs nx fs N1 T1 ee ts).led
theorem oy5' : (fun r => Lk r [(0, ee, stopO ts)] (finOf r.out = some (.done .next)) (True)) (oy5 w b N0 T0 X Y F it i y1 n1 ys ny ta nt xs nx fs N1 T1 N2 T2 ee ts) := by cases b <;> rcases fs with _ | ⟨k0, s1, t1, _ | ⟨k7, s2, t2⟩⟩ <;> rfl'
@[irreducible] noncomputable def qa : Res := enterZ (VV w b N0 T0) 100 [6, 6, 6, 6] [] 104 (fdK w.params 104) ⟨[.ref X.lx, .ref tb], []⟩ (ledQ w X Z [(tb, listO ta nt)])
theorem qa' : (fun r => Lk r [] (isAg r.out = true) (True)) (qa w b N0 T0 X ta nt Z tb) := by cases b <;> rfl'
@[irreducible] noncomputable def qb : Res := startZ (VV w b N1 T1) 100 [0, 6, 0, 1] [] (agOf (qa w b N0 T0 X ta nt Z tb).out) (qa w b N0 T0 X ta nt Z tb).led
theorem qb' : (fun r => Lk r [(0, X.lx, lexO X), (1, X.dx, lexD w.params X Z.ln Z.tl), (2, X.sp, spotO w.params X.kp (.int Z.p Z.tp)), (3, X.pb, listO Z.xs Z.n), (4, tb, listO ta nt)] (callOf r.out = some (.call (.ref 97) ⟨[.ref X.lx], []⟩)) (wtO r.out = 1)) (qb w b N0 T0 X ta nt N1 T1 Z tb) := by cases b <;> rfl'
@[irreducible] noncomputable def qc : Res := resumeZ (VV w b N2 T2) 100 [0, 6, 0, 1] [] (qb w b N0 T0 X ta nt N1 T1 Z tb).out (.ok (.ret (.ref d1))) (snoc (put (put (qb w b N0 T0 X ta nt N1 T1 Z tb).led 1 (lexD w.params X Y1.ln Y1.tl)) 2 (spotO w.params X.kp (.int Y1.p Y1.tp))) d1 (listO y1 n1))
theorem qc' : (fun r => Lk r [(0, X.lx, lexO X), (1, X.dx, lexD w.params X Y1.ln Y1.tl), (2, X.sp, spotO w.params X.kp (.int Y1.p Y1.tp)), (3, X.pb, listO Z.xs Z.n), (4, tb, listO ta nt), (7, d1, listO y1 n1)] (callOf r.out = some (.call (.ref 97) ⟨[.ref X.lx], []⟩)) (wtO r.out = 1)) (qc w b N0 T0 X y1 n1 ta nt N1 T1 N2 T2 Z tb Y1 d1) := by cases b <;> rfl'
@[irreducible] noncomputable def qd : Res := resumeZ (VV w b N3 T3) 500 [10, 10, 10, 0, 10, 11, 11, 0, 11, 11, 11, 10, 11, 11, 11, 0, 11, 11, 11, 10, 11, 11, 11, 0, 11, 11, 11, 10, 11, 11, 11, 0, 11, 11, 11, 10, 11, 11, 13, 6, 6, 6, 6, 6, 6, 6, 8, 8, 0, 8, 14, 1] [] (qc w b N0 T0 X y1 n1 ta nt N1 T1 N2 T2 Z tb Y1 d1).out (.ok (.ret (.ref d2))) (snoc (put (put (qc w b N0 T0 X y1 n1 ta nt N1 T1 N2 T2 Z tb Y1 d1).led 1 (lexD w.params X Y2.ln Y2.tl)) 2 (spotO w.params X.kp (.int Y2.p Y2.tp))) d2 (listO y2 n2))
theorem qd' : (fun r => Lk r [(0, X.lx, lexO X), (1, X.dx, lexD w.params X Y2.ln Y2.tl), (2, X.sp, spotO w.params X.kp (.int Y2.p Y2.tp)), (3, X.pb, listO Z.xs Z.n), (4, tb, listO ta nt), (5, N0, frP5z w.params X.lx { L := N0, tb := tb, d1 := d1, d2 := d2, q := N1, k1 := T0, k2 := T0 + 1, k3 := T3, k4 := T3 + 1, k5 := T3 + 2, k6 := 0, k7 := 0 }), (6, N1, listO #[] 0), (7, d1, listO y1 n1), (8, d2, listO y2 n2), (13, N3 + 4, litO (.ref d1) 0)] (callOf r.out = some (codeP1 w.params N0 (N3 + 4))) (wtO r.out = 1)) (qd w b N0 T0 X y1 n1 ta nt N1 T1 N2 T2 Z tb Y1 d1 N3 T3 Y2 d2 y2 n2) := by cases b <;> rfl'
@[irreducible] noncomputable def qe5 : Res := resumeZ (VV w b N4 T4) 100 [1] [] (qd w b N0 T0 X y1 n1 ta nt N1 T1 N2 T2 Z tb Y1 d1 N3 T3 Y2 d2 y2 n2).out (.ok .next) [(N0, (frAll w.params X.lx FH fs))]
theorem qe5' : (fun r => Lk r [(0, N0, (frAll w.params X.lx FH fs))] (finOf r.out = some (.done (.ret (.ref FH.q)))) (True)) (qe5 w b N0 T0 X y1 n1 ta nt fs N1 T1 N2 T2 Z tb Y1 d1 N3 T3 Y2 d2 y2 n2 N4 T4 FH) := by cases b <;> rcases fs with _ | ⟨k0, s1, t1, _ | ⟨k7, s2, t2⟩⟩ <;> rfl'
end
theorem LA.next {w : World} {X : LX} {Y Y' : LS} {E E' : Led} {h h' : Heap} (L : LA w X Y E h) (L' : LexAt w X Y' h') (ha : ∀ p ∈ E', h'.get? p.1 = some p.2) (hk : ∀ p ∈ E', p.1 ∈ E.map (·.1) ∨ h.objs.size ≤ p.1) (nd : (E'.map (·.1)).Nodup) (off : ∀ p ∈ E', Off w p.1) : LA w X Y' E' h' := by
  refine ⟨L', ha, List.nodup_append.mpr ⟨L'.nd, nd, fun a h1 b h2 e => ?_⟩, off⟩
  have e : a = b := e
  subst e
  obtain ⟨p, hp, rfl⟩ := List.mem_map.mp h2
  rcases hk p hp with q | q
  · exact L.out h1 q
  · exact absurd (L.lex.lt _ h1) (Nat.not_lt.mpr q)
noncomputable abbrev OE (w : World) (X : LX) (F : PF) (it i : Nat) (l1 : List (Str × Nat)) (n1 : Nat) (l2 : List (Str × Nat)) (ny : Nat) (tab : List (Str × Nat)) (nt : Nat) (qs : List (Str × Nat)) (nx : Nat) (fs : Option (Nat × Str × Nat × Option (Nat × Str × Nat))) : Led :=
  [(F.L, frAll w.params X.lx F fs), (F.tb, listO (sA tab) nt), (F.q, listO (sA qs) nx), (it, litO (.ref F.d1) i), (F.d1, listO (sA l1) n1), (F.d2, listO (sA l2) ny)]
noncomputable abbrev prodsOf (tab : List (Str × Nat)) (l1 l2 : List (Str × Nat)) : List (Str × Nat) := l1.flatMap fun f => l2.map fun p => tabv tab (ix f.1 + ix p.1)
theorem outerP {w : World} {b : Bool} (hb : w.params.followText "special-get-raises" = b) (X : LX) (F : PF) (it : Nat) (l1 : List (Str × Nat)) (n1 : Nat) (l2 : List (Str × Nat)) (ny : Nat) (tab : List (Str × Nat)) (nt : Nat) (htab : tab.map (·.1) = names) :
    ∀ (rem : List (Str × Nat)) (i : Nat) (Y : LS) (ps qs : List (Str × Nat)) (nx : Nat) (fs : Option (Nat × Str × Nat × Option (Nat × Str × Nat))), (sA l1).toList.drop i = rem.map sv → (∀ p ∈ rem, p.1 ∈ names ∧ ∀ q ∈ l2, q.1 ∈ names ∧ ix p.1 + ix q.1 < 12) → Y.xs = sA ps → ps.length + qs.length + 2 * (rem.length * l2.length) ≤ sizeLine →
    CtrF w 2 (codeP1 w.params F.L it) (LA w X Y (OE w X F it i l1 n1 l2 ny tab nt qs nx fs)) (fun h f h' => f = .next ∧ Kp [X.pb, F.L, F.q, it] h h' ∧ ∃ nx' n' fs', LexAt w X { Y with xs := sA (ps ++ prodsOf tab rem l2), n := n' } h' ∧ h'.get? F.q = some (listO (sA (qs ++ prodsOf tab rem l2)) nx') ∧ h'.get? F.L = some (frAll w.params X.lx F fs')) := by
  intro rem
  induction rem with
  | nil =>
    intro i Y ps qs nx fs hrem hmem hps hsz
    rintro A R ⟨h0, g, d, T, ost⟩ hA hd S L H
    obtain ⟨N, hN⟩ : ∃ N, h0.objs.size = N := ⟨_, rfl⟩
    have ha := L.haQ
    have C0 := L.curQ S
    refine code_call C0 hb hA hN _ (oa5.eq_1 w b N T X Y F it i (sA l1) n1 (sA l2) ny (sA tab) nt (sA qs) nx fs) no_orc (oa5' ..).s (oa5' ..).o fun h1 N1 T1 hN1 C1 => ?_
    have K1 : Kp [] h0 h1 := by
      refine C1.fin ha ?_
      exact mC (.inr (C1.at' ((oa5' ..).g 0 rfl))) (mC (.inr (C1.at' ((oa5' ..).g 1 rfl))) (mC (.inr (C1.at' ((oa5' ..).g 2 rfl))) (mC (.inr (C1.at' ((oa5' ..).g 3 rfl))) (mC (.inr (C1.at' ((oa5' ..).g 4 rfl))) (mC (.inr (C1.at' ((oa5' ..).g 5 rfl))) (mC (.inr (C1.at' ((oa5' ..).g 6 rfl))) (mC (.inr (C1.at' ((oa5' ..).g 7 rfl))) (mC (.inr (C1.at' ((oa5' ..).g 8 rfl))) (mC (.inr (C1.at' ((oa5' ..).g 9 rfl))) mN)))))))))
    refine cNextStop (aroO_handled hA _) (C1.at' ((oa5' ..).g 7 rfl)) (C1.at' ((oa5' ..).g 8 rfl)) (src_end hrem) fun h2 e ts K2 e2 e3 hne => ?_
    have S2 : Sta w h2 := C1.sta.kp K2 fun x hx => by cases List.mem_singleton.mp hx; exact C1.off' ((oa5' ..).g 7 rfl)
    have ha2 : ∀ p ∈ ([(e, stopO ts)] : Led), h2.get? p.1 = some p.2 := by
      exact mC (e3) mN
    refine res_fin (Cur.start S2 ha2 (by ac_rfl) (by
      exact mC (C1.sta.off hne) mN)) hb hA rfl _ (oz5.eq_1 w b N T X Y F it i (sA l1) n1 (sA l2) ny (sA tab) nt (sA qs) nx fs h2.objs.size T1 e ts) no_orc (oz5' ..).s (agOf_fin (oz5' ..).o) fun h3 N3 T3 hN3 C3 => ?_
    refine ⟨(oz5' ..).e, ?_⟩
    refine code_fin C3 hb hA hN3 _ (oy5.eq_1 w b N T X Y F it i (sA l1) n1 (sA l2) ny (sA tab) nt (sA qs) nx fs h2.objs.size T1 N3 T3 e ts) no_orc (oy5' ..).s (oy5' ..).o fun h4 N4 T4 hN4 C4 => ?_
    have K4 : Kp [] h2 h4 := by
      refine C4.fin ha2 ?_
      exact mC (.inr (C4.at' ((oy5' ..).g 0 rfl))) mN
    have K14 := (K1.mono (M' := [it]) fun a ha => nomatch ha).trans (K2.trans K4 fun a ha => nomatch ha) fun a ha => .inl ha
    have L4 : LexAt w X Y h4 := L.keep K14 fun a ha => by cases List.mem_singleton.mp ha; simp
    refine H _ _ _ ⟨rfl, K14.mono (fun a ha => .inl (by cases List.mem_singleton.mp ha; simp)), nx, Y.n, fs, ?_, ?_, ?_⟩
    · have e : ({ Y with xs := sA ps, n := Y.n } : LS) = Y := by rw [← hps]
      simp only [prodsOf, List.flatMap_nil, List.append_nil]
      rw [e]; exact L4
    · simpa [prodsOf] using K14.get (L.at_ (F.q, listO (sA qs) nx) (by ac_rfl)) (fun z => nd_ne L.nd 12 13 rfl rfl (by decide) (List.mem_singleton.mp z))
    · exact K14.get (L.at_ (F.L, _) (.head _)) (fun z => nd_ne L.nd 10 13 rfl rfl (by decide) (List.mem_singleton.mp z))
  | cons p rem ih =>
    intro i Y ps qs nx fs hrem hmem hps hsz
    rintro A R ⟨h0, g, d, T, ost⟩ hA hd S L H
    obtain ⟨N, hN⟩ : ∃ N, h0.objs.size = N := ⟨_, rfl⟩
    have ha := L.haQ
    have C0 := L.curQ S
    refine code_call C0 hb hA hN _ (oa5.eq_1 w b N T X Y F it i (sA l1) n1 (sA l2) ny (sA tab) nt (sA qs) nx fs) no_orc (oa5' ..).s (oa5' ..).o fun h1 N1 T1 hN1 C1 => ?_
    obtain ⟨hx, hrem'⟩ := src_item hrem
    obtain ⟨s, t⟩ := p
    obtain ⟨hs, hss⟩ := hmem (s, t) (.head _)
    have hs : s ∈ names := hs
    have hss : ∀ q ∈ l2, q.1 ∈ names ∧ ix s + ix q.1 < 12 := hss
    refine cNextItem (C1.at' ((oa5' ..).g 7 rfl)) (C1.at' ((oa5' ..).g 8 rfl)) hx fun h2 K2 e2 => ?_
    have C2 := C1.put1 ((oa5' ..).g 7 rfl) K2 e2
    refine res_call C2 hb hA rfl _ (ob5.eq_1 w b N T X Y F it i (sA l1) n1 (sA l2) ny (sA tab) nt (sA qs) nx fs h2.objs.size T1 s t) no_orc (ob5' ..).s (ob5' ..).o fun h3 N3 T3 hN3 C3 => ?_
    have K3 : Kp [F.L, it] h0 h3 := by
      refine C3.fin ha ?_
      exact mC (.inr (C3.at' ((ob5' ..).g 0 rfl))) (mC (.inr (C3.at' ((ob5' ..).g 1 rfl))) (mC (.inr (C3.at' ((ob5' ..).g 2 rfl))) (mC (.inr (C3.at' ((ob5' ..).g 3 rfl))) (mC (.inl (by ac_rfl)) (mC (.inr (C3.at' ((ob5' ..).g 5 rfl))) (mC (.inr (C3.at' ((ob5' ..).g 6 rfl))) (mC (.inl (by ac_rfl)) (mC (.inr (C3.at' ((ob5' ..).g 8 rfl))) (mC (.inr (C3.at' ((ob5' ..).g 9 rfl))) mN)))))))))
    have L3 : LexAt w X Y h3 := L.keep K3 (by ac_rfl)
    have h02 : h0.objs.size ≤ h2.objs.size := C2.kp.1
    have nd3 : [F.L, F.tb, F.q, h2.objs.size, F.d2].Nodup := by
      simp only [List.nodup_cons, List.mem_cons, nmn, or_false, not_or]
      exact ⟨⟨pick_ne C3.nd (by decide) ((ob5' w b N T X Y F it i (sA l1) n1 (sA l2) ny (sA tab) nt (sA qs) nx fs h2.objs.size T1 s t).g 4 rfl) ((ob5' ..).g 5 rfl), pick_ne C3.nd (by decide) ((ob5' w b N T X Y F it i (sA l1) n1 (sA l2) ny (sA tab) nt (sA qs) nx fs h2.objs.size T1 s t).g 4 rfl) ((ob5' ..).g 6 rfl), pick_ne C3.nd (by decide) ((ob5' w b N T X Y F it i (sA l1) n1 (sA l2) ny (sA tab) nt (sA qs) nx fs h2.objs.size T1 s t).g 4 rfl) ((ob5' ..).g 10 rfl), pick_ne C3.nd (by decide) ((ob5' w b N T X Y F it i (sA l1) n1 (sA l2) ny (sA tab) nt (sA qs) nx fs h2.objs.size T1 s t).g 4 rfl) ((ob5' ..).g 9 rfl)⟩, ⟨pick_ne C3.nd (by decide) ((ob5' w b N T X Y F it i (sA l1) n1 (sA l2) ny (sA tab) nt (sA qs) nx fs h2.objs.size T1 s t).g 5 rfl) ((ob5' ..).g 6 rfl), pick_ne C3.nd (by decide) ((ob5' w b N T X Y F it i (sA l1) n1 (sA l2) ny (sA tab) nt (sA qs) nx fs h2.objs.size T1 s t).g 5 rfl) ((ob5' ..).g 10 rfl), pick_ne C3.nd (by decide) ((ob5' w b N T X Y F it i (sA l1) n1 (sA l2) ny (sA tab) nt (sA qs) nx fs h2.objs.size T1 s t).g 5 rfl) ((ob5' ..).g 9 rfl)⟩, ⟨pick_ne C3.nd (by decide) ((ob5' w b N T X Y F it i (sA l1) n1 (sA l2) ny (sA tab) nt (sA qs) nx fs h2.objs.size T1 s t).g 6 rfl) ((ob5' ..).g 10 rfl), pick_ne C3.nd (by decide) ((ob5' w b N T X Y F it i (sA l1) n1 (sA l2) ny (sA tab) nt (sA qs) nx fs h2.objs.size T1 s t).g 6 rfl) ((ob5' ..).g 9 rfl)⟩, pick_ne C3.nd (by decide) ((ob5' w b N T X Y F it i (sA l1) n1 (sA l2) ny (sA tab) nt (sA qs) nx fs h2.objs.size T1 s t).g 10 rfl) ((ob5' ..).g 9 rfl), fun h => h.elim, List.nodup_nil⟩
    have A3 : LA w X Y (IE w X { F with k6 := fsK fs T1 } h2.objs.size 0 l2 ny tab nt qs nx s t (fsS fs)) h3 := by
      refine L.next L3 ?_ ?_ nd3 ?_
      · exact mC ((C3.at' ((ob5' ..).g 4 rfl)).trans (congrArg some (frAn_is ..))) (mC (C3.at' ((ob5' ..).g 5 rfl)) (mC (C3.at' ((ob5' ..).g 6 rfl)) (mC (C3.at' ((ob5' ..).g 10 rfl)) (mC (C3.at' ((ob5' ..).g 9 rfl)) mN))))
      · exact mC (.inl (by ac_rfl)) (mC (.inl (by ac_rfl)) (mC (.inl (by ac_rfl)) (mC (.inr h02) (mC (.inl (by ac_rfl)) mN))))
      · exact mC (C3.off' ((ob5' ..).g 4 rfl)) (mC (C3.off' ((ob5' ..).g 5 rfl)) (mC (C3.off' ((ob5' ..).g 6 rfl)) (mC (C3.off' ((ob5' ..).g 10 rfl)) (mC (C3.off' ((ob5' ..).g 9 rfl)) mN))))
    refine innerP hb X { F with k6 := fsK fs T1 } h2.objs.size l2 ny tab nt s t htab hs l2 0 Y ps qs nx (fsS fs) (by ac_rfl) hss hps (by simp [Nat.succ_mul] at hsz ⊢; omega) _ _ _ (aroO_handled hA _) (by first | exact room hd (ob5' ..).e rfl | (rw [aroO_depth, (ob5' ..).e]; omega)) C3.sta A3 fun f h4 T4 hPP => ?_
    obtain ⟨hf, K4, nx4, n4, sec4, L4, q4, f4⟩ := hPP
    subst hf
    have S4 : Sta w h4 := C3.sta.kp K4 (by
      exact mC (L.lex.off _ (by ac_rfl)) (mC (C3.off' ((ob5' ..).g 4 rfl)) (mC (C3.off' ((ob5' ..).g 6 rfl)) (mC (C3.off' ((ob5' ..).g 10 rfl)) mN))))
    refine res_fin (Cur.nil S4) hb hA rfl _ (oc5.eq_1 w b N T X Y F it i (sA l1) n1 (sA l2) ny (sA tab) nt (sA qs) nx fs h2.objs.size T1 s t h4.objs.size T4) no_orc (oc5' ..).s (oc5' ..).o fun h5 N5 T5 hN5 C5 => ?_
    have K45 := K4.trans C5.kp fun a ha => nomatch ha
    have no : ∀ {j : Nat} {a : Addr} {o : Obj}, pick (ob5 w b N T X Y F it i (sA l1) n1 (sA l2) ny (sA tab) nt (sA qs) nx fs h2.objs.size T1 s t).led j = some (a, o) → j ≠ 3 → j ≠ 4 → j ≠ 6 → j ≠ 10 → a ∉ [X.pb, F.L, F.q, h2.objs.size] := fun e a1 a2 a3 a4 => by
      simp only [List.mem_cons, nmn, or_false, not_or]
      exact ⟨pick_ne C3.nd a1 e ((ob5' ..).g 3 rfl), pick_ne C3.nd a2 e ((ob5' ..).g 4 rfl), pick_ne C3.nd a3 e ((ob5' ..).g 6 rfl), pick_ne C3.nd a4 e ((ob5' ..).g 10 rfl)⟩
    have A5 : LA w X { Y with xs := sA (ps ++ l2.map fun p => tabv tab (ix s + ix p.1)), n := n4 } (OE w X F it (i + 1) l1 n1 l2 ny tab nt (qs ++ l2.map fun p => tabv tab (ix s + ix p.1)) nx4 (some (fsK fs T1, s, t, sec4))) h5 := by
      refine L.set (L4.same C5.kp) rfl ?_
      exact mC (C5.kp.get f4 (fun h => nomatch h)) (mC (K45.get (C3.at' ((ob5' ..).g 5 rfl)) (no ((ob5' ..).g 5 rfl) (by decide) (by decide) (by decide) (by decide))) (mC (C5.kp.get q4 (fun h => nomatch h)) (mC (K45.get (C3.at' ((ob5' ..).g 7 rfl)) (no ((ob5' ..).g 7 rfl) (by decide) (by decide) (by decide) (by decide))) (mC (K45.get (C3.at' ((ob5' ..).g 8 rfl)) (no ((ob5' ..).g 8 rfl) (by decide) (by decide) (by decide) (by decide))) (mC (K45.get (C3.at' ((ob5' ..).g 9 rfl)) (no ((ob5' ..).g 9 rfl) (by decide) (by decide) (by decide) (by decide))) mN)))))
    have K5 : Kp [X.pb, F.L, F.q, it] h0 h5 := (K3.mono (M' := [X.pb, F.L, F.q, it]) (by ac_rfl)).trans K45 (by
      exact mC (.inl (by ac_rfl)) (mC (.inl (by ac_rfl)) (mC (.inl (by ac_rfl)) (mC (.inr h02) mN))))
    refine ⟨rfl, ih (i + 1) { Y with xs := sA (ps ++ l2.map fun p => tabv tab (ix s + ix p.1)), n := n4 } (ps ++ l2.map fun p => tabv tab (ix s + ix p.1)) (qs ++ l2.map fun p => tabv tab (ix s + ix p.1)) nx4 (some (fsK fs T1, s, t, sec4)) hrem' (fun q hq => hmem q (.tail _ hq)) rfl (by simp [Nat.succ_mul] at hsz ⊢; omega) _ _ _ hA hd C5.sta A5 fun f h' t' Q => H f h' t' ?_⟩
    obtain ⟨hf, K6, nx6, n6, fs6, Q1, Q2, Q3⟩ := Q
    refine ⟨hf, K5.trans K6 (fun a ha => .inl ha), nx6, n6, fs6, ?_, ?_, Q3⟩
    · rw [List.append_assoc] at Q1
      exact Q1
    · rw [List.append_assoc] at Q2
      exact Q2
theorem fn104 (w : World) : FnAt w 104 (fdK w.params 104) := ⟨⟨o104 w.params, by kernel_rfl, by kernel_rfl⟩, by kernel_rfl, by kernel_rfl, ⟨bodyOf (fdK w.params 104), by kernel_rfl⟩, ⟨103, o103 w.params, flds (o103 w.params), tokOf ((flds (o103 w.params)).getD 1 .none), by kernel_rfl, by kernel_rfl, by kernel_rfl, by kernel_rfl⟩⟩
noncomputable abbrev prodsS (tab : List (Str × Nat)) (w1 w2 : List Str) : List (Str × Nat) := w1.flatMap fun f => w2.map fun s => tabv tab (ix f + ix s)
theorem prods_map (tab m1 m2 : List (Str × Nat)) : prodsOf tab m1 m2 = prodsS tab (m1.map (·.1)) (m2.map (·.1)) := by
  unfold prodsOf prodsS
  rw [List.flatMap_map]
  congr 1
  funext f
  rw [List.map_map]
  rfl
theorem products_ok {w : World} {X : LX} {Z : LS} (hl : 2 ≤ X.text.length) (hsz : 4 * X.text.length + 10 ≤ sizeLine) {l more1 more2 : List Nat} {ws1 ws2 : List Str} {nl1 nl2 : Nat} (F1 : Fac l ws1 more1 nl1) (F2 : Fac more1 ws2 more2 nl2) (hw : ∀ p ∈ ws1, p ∈ names ∧ ∀ q ∈ ws2, q ∈ names ∧ ix p + ix q < 12) (hws : 2 * (ws1.length * ws2.length) ≤ sizeLine) (hrest : X.rest Z.p = l) (hp : Z.p ≤ X.text.length) (hxs : Z.xs = #[]) {tb nt : Nat} {tab : List (Str × Nat)} (htab : tab.map (·.1) = names) :
    Ctr w 6 (.call (.ref 104) ⟨[.ref X.lx, .ref tb], []⟩) (LA w X Z [(tb, listO (sA tab) nt)]) (fun h v h' => ∃ q nx, v = .ref q ∧ h.objs.size ≤ q ∧ h'.get? q = some (listO (sA (prodsS tab ws1 ws2)) nx) ∧ Off w q ∧ Kp [X.dx, X.sp, X.pb] h h' ∧ ∃ p' tl tp n', X.rest p' = more2 ∧ p' ≤ X.text.length ∧ LexAt w X { Z with ln := Z.ln + nl1 + nl2, tl := tl, p := p', tp := tp, xs := sA (prodsS tab ws1 ws2), n := n' } h') := by
  rintro A R ⟨h0, g, d, T, ost⟩ hA hd S L H
  obtain ⟨b, hb⟩ : ∃ b, w.params.followText "special-get-raises" = b := ⟨_, rfl⟩
  obtain ⟨N, hN⟩ : ∃ N, h0.objs.size = N := ⟨_, rfl⟩
  have ha := L.haQ
  have C0 := L.curQ S
  refine seg_fn C0 (fn104 w) hb hA (by first | exact room0 hd | omega) hN _ (qa.eq_1 w b N T X (sA tab) nt Z tb) (qa' ..).s (qa' ..).o fun h1 N1 T1 hN1 C1 => ?_
  refine code_call C1 hb hA hN1 _ (qb.eq_1 w b N T X (sA tab) nt N1 T1 Z tb) no_orc (qb' ..).s (qb' ..).o fun h2 N2 T2 hN2 C2 => ?_
  have K2 : Kp [] h0 h2 := by
    refine C2.fin ha ?_
    exact mC (.inr (C2.at' ((qb' ..).g 0 rfl))) (mC (.inr (C2.at' ((qb' ..).g 1 rfl))) (mC (.inr (C2.at' ((qb' ..).g 2 rfl))) (mC (.inr (C2.at' ((qb' ..).g 3 rfl))) (mC (.inr (C2.at' ((qb' ..).g 4 rfl))) mN))))
  refine factor_ok hl hsz F1 hrest hp hxs _ _ _ (aroO_handled hA _) (by first | exact room hd (qb' ..).e rfl | (rw [aroO_depth, (qb' ..).e]; omega)) C2.sta (L.lex.same K2) fun v h3 T3 hPP => ?_
  obtain ⟨d1, m1, n1, hv, d1n, e1, hm1, off1, K3, p1, tl1, tp1, r1, r2, L3⟩ := hPP
  subst hv
  generalize hY1 : ({ Z with ln := Z.ln + nl1, tl := tl1, p := p1, tp := tp1 } : LS) = Y1 at L3
  have y1p : Y1.p = p1 := by rw [← hY1]
  have y1x : Y1.xs = #[] := by rw [← hY1]; exact hxs
  have CP := C2
  have C3 := (C2.chg2 (by decide) ((qb' ..).g 1 rfl) ((qb' ..).g 2 rfl) K3 L3.dx L3.sp).join e1 (fun hx => by
    rw [put_keys, put_keys] at hx
    obtain ⟨q, hq, e⟩ := List.mem_map.mp hx
    have := Heap.lt_size (CP.at_ q hq)
    rw [e] at this
    exact absurd this (Nat.not_lt.mpr d1n)) off1 (.inr (Nat.le_trans CP.kp.1 d1n))
  refine res_call C3 hb hA rfl _ (qc.eq_1 w b N T X (sA m1) n1 (sA tab) nt N1 T1 h3.objs.size T3 Z tb Y1 d1) no_orc (qc' ..).s (qc' ..).o fun h4 N4 T4 hN4 C4 => ?_
  have K4 : Kp (X.dx :: X.sp :: X.pb :: [tb]) h0 h4 := by
    refine C4.fin ha ?_
    exact mC (.inr (C4.at' ((qc' ..).g 0 rfl))) (mC (.inl (by ac_rfl)) (mC (.inl (by ac_rfl)) (mC (.inr (C4.at' ((qc' ..).g 3 rfl))) (mC (.inr (C4.at' ((qc' ..).g 4 rfl))) mN))))
  have L4 := L.turnQ (Y' := { Y1 with xs := Z.xs, n := Z.n }) K4 (C4.at' ((qc' ..).g 1 rfl)) (C4.at' ((qc' ..).g 2 rfl)) (C4.at' ((qc' ..).g 3 rfl))
  have eY1 : ({ Y1 with xs := Z.xs, n := Z.n } : LS) = Y1 := by rw [← hY1]
  rw [eY1] at L4
  refine factor_ok hl hsz F2 (by rw [y1p]; exact r1) (by rw [y1p]; exact r2) y1x _ _ _ (aroO_handled hA _) (by first | exact room hd (qc' ..).e rfl | (rw [aroO_depth, (qc' ..).e]; omega)) C4.sta L4 fun v h5 T5 hPP => ?_
  obtain ⟨d2, m2, n2, hv, d2n, e2, hm2, off2, K5, p2, tl2, tp2, r3, r4, L5⟩ := hPP
  subst hv
  generalize hY2 : ({ Y1 with ln := Y1.ln + nl2, tl := tl2, p := p2, tp := tp2 } : LS) = Y2 at L5
  have CP := C4
  have C5 := (C4.chg2 (by decide) ((qc' ..).g 1 rfl) ((qc' ..).g 2 rfl) K5 L5.dx L5.sp).join e2 (fun hx => by
    rw [put_keys, put_keys] at hx
    obtain ⟨q, hq, e⟩ := List.mem_map.mp hx
    have := Heap.lt_size (CP.at_ q hq)
    rw [e] at this
    exact absurd this (Nat.not_lt.mpr d2n)) off2 (.inr (Nat.le_trans CP.kp.1 d2n))
  refine res_call C5 hb hA rfl _ (qd.eq_1 w b N T X (sA m1) n1 (sA tab) nt N1 T1 h3.objs.size T3 Z tb Y1 d1 h5.objs.size T5 Y2 d2 (sA m2) n2) no_orc (qd' ..).s (qd' ..).o fun h6 N6 T6 hN6 C6 => ?_
  have K6 : Kp (X.dx :: X.sp :: X.pb :: [tb]) h0 h6 := by
    refine C6.fin ha ?_
    exact mC (.inr (C6.at' ((qd' ..).g 0 rfl))) (mC (.inl (by ac_rfl)) (mC (.inl (by ac_rfl)) (mC (.inr (C6.at' ((qd' ..).g 3 rfl))) (mC (.inr (C6.at' ((qd' ..).g 4 rfl))) mN))))
  have K6' : Kp [X.dx, X.sp] h0 h6 := by
    refine C6.fin ha ?_
    exact mC (.inr (C6.at' ((qd' ..).g 0 rfl))) (mC (.inl (by ac_rfl)) (mC (.inl (by ac_rfl)) (mC (.inr (C6.at' ((qd' ..).g 3 rfl))) (mC (.inr (C6.at' ((qd' ..).g 4 rfl))) mN))))
  have eY2 : ({ Y2 with xs := Z.xs, n := Z.n } : LS) = Y2 := by rw [← hY2, ← hY1]
  have L6 := L.turnQ (Y' := { Y2 with xs := Z.xs, n := Z.n }) K6 (C6.at' ((qd' ..).g 1 rfl)) (C6.at' ((qd' ..).g 2 rfl)) (C6.at' ((qd' ..).g 3 rfl))
  rw [eY2] at L6
  have b1 : h0.objs.size ≤ N1 := by rw [← hN1]; exact C1.kp.1
  have b2 : h0.objs.size ≤ h5.objs.size := C5.kp.1
  have b3 : h0.objs.size ≤ d1 := Nat.le_trans K2.1 d1n
  have b4 : h0.objs.size ≤ d2 := Nat.le_trans C4.kp.1 d2n
  have b5 : h0.objs.size ≤ N := by rw [hN]; exact Nat.le_refl _
  have A6 : LA w X Y2 (OE w X { L := N, tb := tb, d1 := d1, d2 := d2, q := N1, k1 := T, k2 := T + 1, k3 := T5, k4 := T5 + 1, k5 := T5 + 2, k6 := 0, k7 := 0 } (h5.objs.size + 4) 0 m1 n1 m2 n2 tab nt [] 0 none) h6 := by
    refine L.next L6 ?_ ?_ ?_ ?_
    · exact mC ((C6.at' ((qd' ..).g 5 rfl)).trans (congrArg some (frP5z_is ..))) (mC (C6.at' ((qd' ..).g 4 rfl)) (mC (C6.at' ((qd' ..).g 6 rfl)) (mC (C6.at' ((qd' ..).g 9 rfl)) (mC (C6.at' ((qd' ..).g 7 rfl)) (mC (C6.at' ((qd' ..).g 8 rfl)) mN)))))
    · exact mC (.inr b5) (mC (.inl (by ac_rfl)) (mC (.inr b1) (mC (.inr (Nat.le_trans b2 (Nat.le_add_right _ _))) (mC (.inr b3) (mC (.inr b4) mN)))))
    · show [N, tb, N1, h5.objs.size + 4, d1, d2].Nodup
      simp only [List.nodup_cons, List.mem_cons, nmn, or_false, not_or]
      exact ⟨⟨pick_ne C6.nd (by decide) ((qd' w b N T X (sA m1) n1 (sA tab) nt N1 T1 h3.objs.size T3 Z tb Y1 d1 h5.objs.size T5 Y2 d2 (sA m2) n2).g 5 rfl) ((qd' ..).g 4 rfl), pick_ne C6.nd (by decide) ((qd' w b N T X (sA m1) n1 (sA tab) nt N1 T1 h3.objs.size T3 Z tb Y1 d1 h5.objs.size T5 Y2 d2 (sA m2) n2).g 5 rfl) ((qd' ..).g 6 rfl), pick_ne C6.nd (by decide) ((qd' w b N T X (sA m1) n1 (sA tab) nt N1 T1 h3.objs.size T3 Z tb Y1 d1 h5.objs.size T5 Y2 d2 (sA m2) n2).g 5 rfl) ((qd' ..).g 9 rfl), pick_ne C6.nd (by decide) ((qd' w b N T X (sA m1) n1 (sA tab) nt N1 T1 h3.objs.size T3 Z tb Y1 d1 h5.objs.size T5 Y2 d2 (sA m2) n2).g 5 rfl) ((qd' ..).g 7 rfl), pick_ne C6.nd (by decide) ((qd' w b N T X (sA m1) n1 (sA tab) nt N1 T1 h3.objs.size T3 Z tb Y1 d1 h5.objs.size T5 Y2 d2 (sA m2) n2).g 5 rfl) ((qd' ..).g 8 rfl)⟩, ⟨pick_ne C6.nd (by decide) ((qd' w b N T X (sA m1) n1 (sA tab) nt N1 T1 h3.objs.size T3 Z tb Y1 d1 h5.objs.size T5 Y2 d2 (sA m2) n2).g 4 rfl) ((qd' ..).g 6 rfl), pick_ne C6.nd (by decide) ((qd' w b N T X (sA m1) n1 (sA tab) nt N1 T1 h3.objs.size T3 Z tb Y1 d1 h5.objs.size T5 Y2 d2 (sA m2) n2).g 4 rfl) ((qd' ..).g 9 rfl), pick_ne C6.nd (by decide) ((qd' w b N T X (sA m1) n1 (sA tab) nt N1 T1 h3.objs.size T3 Z tb Y1 d1 h5.objs.size T5 Y2 d2 (sA m2) n2).g 4 rfl) ((qd' ..).g 7 rfl), pick_ne C6.nd (by decide) ((qd' w b N T X (sA m1) n1 (sA tab) nt N1 T1 h3.objs.size T3 Z tb Y1 d1 h5.objs.size T5 Y2 d2 (sA m2) n2).g 4 rfl) ((qd' ..).g 8 rfl)⟩, ⟨pick_ne C6.nd (by decide) ((qd' w b N T X (sA m1) n1 (sA tab) nt N1 T1 h3.objs.size T3 Z tb Y1 d1 h5.objs.size T5 Y2 d2 (sA m2) n2).g 6 rfl) ((qd' ..).g 9 rfl), pick_ne C6.nd (by decide) ((qd' w b N T X (sA m1) n1 (sA tab) nt N1 T1 h3.objs.size T3 Z tb Y1 d1 h5.objs.size T5 Y2 d2 (sA m2) n2).g 6 rfl) ((qd' ..).g 7 rfl), pick_ne C6.nd (by decide) ((qd' w b N T X (sA m1) n1 (sA tab) nt N1 T1 h3.objs.size T3 Z tb Y1 d1 h5.objs.size T5 Y2 d2 (sA m2) n2).g 6 rfl) ((qd' ..).g 8 rfl)⟩, ⟨pick_ne C6.nd (by decide) ((qd' w b N T X (sA m1) n1 (sA tab) nt N1 T1 h3.objs.size T3 Z tb Y1 d1 h5.objs.size T5 Y2 d2 (sA m2) n2).g 9 rfl) ((qd' ..).g 7 rfl), pick_ne C6.nd (by decide) ((qd' w b N T X (sA m1) n1 (sA tab) nt N1 T1 h3.objs.size T3 Z tb Y1 d1 h5.objs.size T5 Y2 d2 (sA m2) n2).g 9 rfl) ((qd' ..).g 8 rfl)⟩, pick_ne C6.nd (by decide) ((qd' w b N T X (sA m1) n1 (sA tab) nt N1 T1 h3.objs.size T3 Z tb Y1 d1 h5.objs.size T5 Y2 d2 (sA m2) n2).g 7 rfl) ((qd' ..).g 8 rfl), fun h => h.elim, List.nodup_nil⟩
    · exact mC (C6.off' ((qd' ..).g 5 rfl)) (mC (C6.off' ((qd' ..).g 4 rfl)) (mC (C6.off' ((qd' ..).g 6 rfl)) (mC (C6.off' ((qd' ..).g 9 rfl)) (mC (C6.off' ((qd' ..).g 7 rfl)) (mC (C6.off' ((qd' ..).g 8 rfl)) mN)))))
  have lm1 : m1.length = ws1.length := by rw [← hm1, List.length_map]
  have lm2 : m2.length = ws2.length := by rw [← hm2, List.length_map]
  refine outerP hb X { L := N, tb := tb, d1 := d1, d2 := d2, q := N1, k1 := T, k2 := T + 1, k3 := T5, k4 := T5 + 1, k5 := T5 + 2, k6 := 0, k7 := 0 } (h5.objs.size + 4) m1 n1 m2 n2 tab nt htab m1 0 Y2 [] [] 0 none (by ac_rfl) (fun p hp => ?_) (by rw [← hY2]; exact y1x) (by simp [lm1, lm2]; exact hws) _ _ _ (aroO_handled hA _) (by first | exact room hd (qd' ..).e rfl | (rw [aroO_depth, (qd' ..).e]; omega)) C6.sta A6 fun f h7 T7 ⟨hf, K7, nx7, n7, fs, L7, q7, f7⟩ => ?_
  · have h1 := hw p.1 (by rw [← hm1]; exact List.mem_map_of_mem hp)
    exact ⟨h1.1, fun q hq => h1.2 q.1 (by rw [← hm2]; exact List.mem_map_of_mem hq)⟩
  subst hf
  rw [List.nil_append, prods_map, hm1, hm2] at L7 q7
  have S7 : Sta w h7 := C6.sta.kp K7 (by
    exact mC (L.lex.off _ (by ac_rfl)) (mC (C6.off' ((qd' ..).g 5 rfl)) (mC (C6.off' ((qd' ..).g 6 rfl)) (mC (C6.off' ((qd' ..).g 9 rfl)) mN))))
  have fin8 : ∀ h8 T8, Kp [] h7 h8 → R (.ok (.ret (.ref N1))) ⟨h8, g, d, T8, ost⟩ := fun h8 T8 K8 => by
    refine H _ _ _ ⟨N1, nx7, rfl, b1, K8.get q7 (fun h => nomatch h), C6.off' ((qd' ..).g 6 rfl), ?_, p2, tl2, tp2, n7, r3, r4, ?_⟩
    · refine (((K6'.mono (M' := [X.dx, X.sp, X.pb]) (by ac_rfl)).trans K7 ?_).trans K8 fun a ha => nomatch ha)
      exact mC (.inl (by ac_rfl)) (mC (.inr b5) (mC (.inr b1) (mC (.inr (Nat.le_trans b2 (Nat.le_add_right _ _))) mN)))
    · have := L7.same K8
      rw [← hY2, ← hY1] at this
      exact this
  have ha8 : ∀ p ∈ ([(N, frAll w.params X.lx { L := N, tb := tb, d1 := d1, d2 := d2, q := N1, k1 := T, k2 := T + 1, k3 := T5, k4 := T5 + 1, k5 := T5 + 2, k6 := 0, k7 := 0 } fs)] : Led), h7.get? p.1 = some p.2 := by
    exact mC (f7) mN
  refine res_fin (Cur.start S7 ha8 (by ac_rfl) (by
    exact mC (C6.off' ((qd' ..).g 5 rfl)) mN)) hb hA rfl _ (qe5.eq_1 w b N T X (sA m1) n1 (sA tab) nt fs N1 T1 h3.objs.size T3 Z tb Y1 d1 h5.objs.size T5 Y2 d2 (sA m2) n2 h7.objs.size T7 { L := N, tb := tb, d1 := d1, d2 := d2, q := N1, k1 := T, k2 := T + 1, k3 := T5, k4 := T5 + 1, k5 := T5 + 2, k6 := 0, k7 := 0 }) no_orc (qe5' ..).s (qe5' ..).o fun h8 N8 T8 hN8 C8 => ?_
  have K8 : Kp [] h7 h8 := by
    refine C8.fin ha8 ?_
    exact mC (.inr (C8.at' ((qe5' ..).g 0 rfl))) mN
  exact fin8 _ _ K8
theorem oIntGt {w : World} {x y : Int} {t u : Tok} {b : Bool} (h : decide (x > y) = b) : OrcOk pg w ⟨cB "int.__gt__" [.int x t, .int y u], fun _ => .bool b, 0⟩ :=
  h ▸ orc_val F.slot_int_gt (fun s => typeIs_int s x t) F.entry_int_gt (F.args_int_gt_2 _ _) (gives_int_gt x y t u)
section
variable {w : World} {A : Around} {R : Result → Shared → Prop} {h₀ : Heap} {g : Array GenState} {d : Drawn} {T : Nat} {ost : OsState}
theorem cSliceL {l sl : Addr} {xs : Array Value} {n : Nat} {vl vu vs : Value} {lo hi st : Option Int} (hl : h₀.get? l = some (listO xs n)) (hs : h₀.get? sl = some ⟨.type "slice", none, .fields #[vl, vu, vs], #[]⟩) (pl : IsPart vl lo) (pu : IsPart vu hi) (ps : IsPart vs st) (h0 : st ≠ some 0) (hsz : xs.size ≤ sizeLine)
    (h : R (.ok (.ret (.ref h₀.objs.size))) ⟨h₀.push (listO (slicePick xs lo hi st) 0), g, d, T, ost⟩) : codeAny (model pg w) A (cB "list.__getitem__" [.ref l, .ref sl]) R ⟨h₀, g, d, T, ost⟩ := by
  have hT : (⟨h₀, g, d, T, ost⟩ : Shared).TypeIs (.ref l) "list" := ⟨_, hl, rfl⟩
  have hTs : (⟨h₀, g, d, T, ost⟩ : Shared).TypeIs (.ref sl) "slice" := ⟨_, hs, rfl⟩
  refine codeAny_call_builtin slot_list_getitem.plain entry_list_getitem (slot_list_getitem.check _ _ _ _ _ _ _ _ hT (args_list_getitem _ _) ?_)
  show wpAny _ _ (Builtin.List.listSubscript? (.ref sl) >>= _) _ _ _
  refine wpAny_bind ?_
  unfold Builtin.List.listSubscript?
  refine wpAny_bind (wpAny_specialOf hTs slice_no_index ?_)
  simp only [Option.isNone_none, if_true]
  refine wpAny_pure ?_
  show wpAny _ _ (typeOf (.ref sl) >>= _) _ _ _
  refine wpAny_bind (wpAny_typeOf hTs ?_)
  rw [if_neg (by decide), listSliceParts_eq]
  have hstep : ¬ ((rawPart st == rawInt 0) = true) := by
    cases st with
    | none => exact Bool.false_ne_true
    | some c =>
      intro hh
      exact h0 (congrArg some (by simpa [rawPart, rawInt] using hh))
  refine wpAny_bind (wpAny_bind (wpAny_field hs rfl (x := vs) rfl (wpAny_bind (wpAny_listPart ps ?_))))
  rw [if_neg hstep]
  refine wpAny_bind (wpAny_field hs rfl (x := vl) rfl (wpAny_bind (wpAny_listPart pl ?_)))
  refine wpAny_bind (wpAny_field hs rfl (x := vu) rfl (wpAny_bind (wpAny_listPart pu (wpAny_pure ?_))))
  refine wpAny_bind (m := Builtin.List.listItems (.ref l)) ?_
  unfold Builtin.List.listItems
  refine wpAny_bind (wpAny_seqItems hl rfl (wpAny_pure ?_))
  refine wpAny_bind (wpAny_of_eq (sliceIndices_raw lo hi st xs.size h0) ?_)
  exact wpAny_bind (wpAny_newObj_type (wpAny_pure h) (Nat.le_trans (slicePick_size_le xs lo hi st) hsz))
end
theorem tab_init {tab : List (Str × Nat)} (h : tab.map (·.1) = names) : slicePick (sA tab) none (some (-1)) none = sA (tab.take 11) := by
  have hl : tab.length = 12 := by rw [← List.length_map (f := (·.1)), h]; rfl
  match tab, hl with
  | [_, _, _, _, _, _, _, _, _, _, _, _], _ => kernel_rfl
theorem erase_at {l : List (Str × Nat)} {x : Str} {j q : Nat} (hn : (l.map (·.1)).Nodup) (hj : l[j]? = some (x, q)) : (l.eraseIdx j).map (·.1) = (l.map (·.1)).erase x := by
  rw [← erase_map, List.erase_eq_eraseIdx]
  have h1 : (l.map (·.1))[j]? = some x := by rw [List.getElem?_map, hj]; rfl
  have hx : x ∈ l.map (·.1) := List.mem_of_getElem? h1
  have h2 : (l.map (·.1)).idxOf x = j := by
    obtain ⟨hlt, e⟩ := List.getElem?_eq_some_iff.mp h1
    have := List.idxOf_lt_length_of_mem hx
    have e2 : (l.map (·.1))[(l.map (·.1)).idxOf x] = x := List.getElem_idxOf this
    exact (List.getElem_inj hn).mp (e2.trans e.symm)
  cases hi : (l.map (·.1)).idxOf? x with
  | none =>
    rw [List.idxOf?_eq_none_iff] at hi
    exact absurd hx hi
  | some k =>
    have : k = j := by
      rw [← h2]
      rw [List.idxOf?_eq_some_iff] at hi
      obtain ⟨hk, hk1, hk2⟩ := hi
      have := List.idxOf_lt_length_of_mem hx
      have e2 : (l.map (·.1))[(l.map (·.1)).idxOf x] = x := List.getElem_idxOf this
      exact (List.getElem_inj hn).mp (hk1.trans e2.symm)
    subst this
    rfl
noncomputable def carry (tab : List (Str × Nat)) (st : List Str × List (Str × Nat)) (s : Str) : List Str × List (Str × Nat) :=
  if s ∈ st.1 then (st.1.erase s, st.2 ++ [tabv tab (ix s + 1)]) else (st.1 ++ [s], st.2)
theorem carry_nodup {tab : List (Str × Nat)} {st : List Str × List (Str × Nat)} {s : Str} (h : st.1.Nodup) : (carry tab st s).1.Nodup := by
  unfold carry
  split
  · exact h.erase _
  · next hn =>
    refine List.nodup_append.mpr ⟨h, by simp, fun a ha b hb e => ?_⟩
    cases List.mem_singleton.mp hb
    exact hn (e ▸ ha)
theorem carry_len (tab : List (Str × Nat)) (st : List Str × List (Str × Nat)) (s : Str) : (carry tab st s).1.length + (carry tab st s).2.length ≤ st.1.length + st.2.length + 1 := by
  unfold carry
  split
  · have := List.length_erase_le (a := s) (l := st.1)
    simp; omega
  · simp; omega
noncomputable def sSpot : Str := ⟨#[115, 112, 111, 116]⟩
noncomputable def sHeld : Str := ⟨#[104, 101, 108, 100]⟩
noncomputable def sWaits : Str := ⟨#[119, 97, 105, 116, 115]⟩
structure HF where
  L : Nat
  tb : Nat
  q : Nat
  hd : Nat
  k1 : Nat
  k2 : Nat
  k3 : Nat
  k4 : Nat
  k5 : Nat
  k6 : Nat
  k7 : Nat
  k8 : Nat
  k9 : Nat
noncomputable abbrev hE6 (P : Params) (X : LX) (F : HF) (tok : Value) : List DictEntry := [ent P sLexer F.k1 (.ref X.lx), ent P sSpot F.k2 (.ref X.sp), ent P sQueue F.k3 (.ref F.q), ent P sTable F.k4 (.ref F.tb), ent P sToken F.k5 tok, ent P sHeld F.k6 (.ref F.hd)]
noncomputable abbrev frH6 (P : Params) (X : LX) (F : HF) (tok : Value) : Obj := ⟨.type "frame", none, .dict ⟨hE6 P X F tok⟩ 6, #[]⟩
noncomputable abbrev frH8 (P : Params) (X : LX) (F : HF) (tok pl wt : Value) : Obj := ⟨.type "frame", none, .dict ⟨hE6 P X F tok ++ [ent P sPlace F.k7 pl, ent P sWaits F.k8 wt]⟩ 8, #[]⟩
noncomputable abbrev frH9 (P : Params) (X : LX) (F : HF) (tok pl wt wd : Value) : Obj := ⟨.type "frame", none, .dict ⟨hE6 P X F tok ++ [ent P sPlace F.k7 pl, ent P sWaits F.k8 wt, ent P sWord F.k9 wd]⟩ 9, #[]⟩
noncomputable abbrev frH9z (P : Params) (X : LX) (F : HF) (k : Nat) (tok pl wt wd : Value) : Obj := ⟨.type "frame", none, .dict ⟨hE6 P X F tok ++ [ent P sPlace F.k7 pl, ent P sWaits F.k8 wt, entZ P sWord k wd]⟩ 9, #[]⟩
theorem frH9z_is (P : Params) (X : LX) (F : HF) (k : Nat) (tok pl wt wd : Value) : frH9z P X F k tok pl wt wd = frH9 P X { F with k9 := k } tok pl wt wd := by
  unfold frH9z; simp only [entZ_is]
noncomputable abbrev frHw (P : Params) (X : LX) (F : HF) (tok pl wt : Value) : Option (Nat × Str × Nat) → Obj
  | none => frH8 P X F tok pl wt
  | some (k, s, t) => frH9 P X { F with k9 := k } tok pl wt (.str s t)
noncomputable abbrev frHn (P : Params) (X : LX) (F : HF) (T : Nat) (tok pl wt : Value) (s : Str) (t : Nat) : Option (Nat × Str × Nat) → Obj
  | none => frH9z P X F T tok pl wt (.str s t)
  | some (k, _, _) => frH9 P X { F with k9 := k } tok pl wt (.str s t)
noncomputable def wdK (wd : Option (Nat × Str × Nat)) (T : Nat) : Nat := match wd with
  | none => T
  | some q => q.1
theorem frHn_is (P : Params) (X : LX) (F : HF) (T : Nat) (tok pl wt : Value) (s : Str) (t : Nat) (wd : Option (Nat × Str × Nat)) : frHn P X F T tok pl wt s t wd = frHw P X F tok pl wt (some (wdK wd T, s, t)) := by
  cases wd with
  | none => exact frH9z_is ..
  | some q => rfl
noncomputable def whBody : Stmt → List Stmt
  | .While _ body _ _ => body
  | _ => []
noncomputable def whCode (s : Stmt) (env : Env) : Code := match s with
  | .While t body orelse _ => .whileLoop t body orelse env
  | _ => .builtin "" {}
noncomputable def ghW (P : Params) : Stmt := nthS (bodyOf (fdK P 111)) 1
noncomputable def codeH1 (P : Params) (L : Addr) : Code := whCode (ghW P) (envK P 111 110 L)
noncomputable def codeH2 (P : Params) (L it : Addr) : Code := forCode (nthS (whBody (ghW P)) 3) (.ref it) (envK P 111 110 L)
noncomputable abbrev sliceI (t : Nat) : Obj := ⟨.type "slice", none, .fields #[.none, .int (-1) t, .none], #[]⟩
section
variable (w : World) (b : Bool) (N0 T0 : Nat) (X : LX) (Y : LS) (F : HF) (it D i : Nat) (ys : Array Value) (ny : Nat) (ta : Array Value) (nt : Nat) (xs : Array Value) (nx : Nat) (hs : Array Value) (nh : Nat) (tk : Str) (tt : Nat) (pl : Int) (pt : Nat) (wt : Bool) (wd : Option (Nat × Str × Nat)) (N1 T1 : Nat) (s : Str) (t N2 T2 D2 : Nat) (t2 : Array Value) (N3 T3 N4 T4 N5 T5 : Nat) (h2 : Array Value) (n2 N6 T6 a ka N7 T7 : Nat) (x : Str) (kx N8 T8 : Nat) (x2 : Array Value) (m2 N9 T9 N10 T10 : Nat) (zs : Array Value) (nz ee ts : Nat)
@[irreducible] noncomputable def ja8 : Res := startZ (VV w b N0 T0) 100 [9, 1] [] (codeH2 w.params F.L it) (ledQ w X Y [(F.L, (frHw w.params X F (.str tk tt) (.int pl pt) (.bool wt) wd)), (F.tb, listO ta nt), (F.q, listO xs nx), (F.hd, listO hs nh), (it, litO (.ref D) i), (D, listO ys ny)])
theorem ja8' : (fun r => Lk r [(0, X.lx, lexO X), (1, X.dx, lexD w.params X Y.ln Y.tl), (2, X.sp, spotO w.params X.kp (.int Y.p Y.tp)), (3, X.pb, listO Y.xs Y.n), (4, F.L, (frHw w.params X F (.str tk tt) (.int pl pt) (.bool wt) wd)), (5, F.tb, listO ta nt), (6, F.q, listO xs nx), (7, F.hd, listO hs nh), (8, it, litO (.ref D) i), (9, D, listO ys ny)] (callOf r.out = some (cB "list_iterator.__next__" [.ref it])) (wtO r.out = 0)) (ja8 w b N0 T0 X Y F it D i ys ny ta nt xs nx hs nh tk tt pl pt wt wd) := by cases b <;> rcases wd with _ | ⟨k0, s0, t0⟩ <;> rfl'
@[irreducible] noncomputable def jb8 : Res := resumeZ (VV w b N1 T1) 400 [5, 5, 5, 5, 0, 6, 6, 6, 1] [] (ja8 w b N0 T0 X Y F it D i ys ny ta nt xs nx hs nh tk tt pl pt wt wd).out (.ok (.ret (.str s t))) (put (ja8 w b N0 T0 X Y F it D i ys ny ta nt xs nx hs nh tk tt pl pt wt wd).led 8 (litO (.ref D) (i + 1)))
theorem jb8' : (fun r => Lk r [(0, X.lx, lexO X), (1, X.dx, lexD w.params X Y.ln Y.tl), (2, X.sp, spotO w.params X.kp (.int Y.p Y.tp)), (3, X.pb, listO Y.xs Y.n), (4, F.L, frHn w.params X F T1 (.str tk tt) (.int pl pt) (.bool wt) s t wd), (5, F.tb, listO ta nt), (6, F.q, listO xs nx), (7, F.hd, listO hs nh), (8, it, litO (.ref D) (i + 1)), (9, D, listO ys ny), (10, N1, sliceI (T1 + 2))] (callOf r.out = some (cB "list.__getitem__" [.ref F.tb, .ref N1])) (wtO r.out = 0)) (jb8 w b N0 T0 X Y F it D i ys ny ta nt xs nx hs nh tk tt pl pt wt wd N1 T1 s t) := by cases b <;> rcases wd with _ | ⟨k0, s0, t0⟩ <;> rfl'
@[irreducible] noncomputable def jc8 : Res := resumeZ (VV w b N2 T2) 400 [12, 12, 1] [] (jb8 w b N0 T0 X Y F it D i ys ny ta nt xs nx hs nh tk tt pl pt wt wd N1 T1 s t).out (.ok (.ret (.ref D2))) (snoc (jb8 w b N0 T0 X Y F it D i ys ny ta nt xs nx hs nh tk tt pl pt wt wd N1 T1 s t).led D2 (listO t2 0))
theorem jc8' : (fun r => Lk r [(0, X.lx, lexO X), (1, X.dx, lexD w.params X Y.ln Y.tl), (2, X.sp, spotO w.params X.kp (.int Y.p Y.tp)), (3, X.pb, listO Y.xs Y.n), (4, F.L, frHn w.params X F T1 (.str tk tt) (.int pl pt) (.bool wt) s t wd), (5, F.tb, listO ta nt), (6, F.q, listO xs nx), (7, F.hd, listO hs nh), (8, it, litO (.ref D) (i + 1)), (9, D, listO ys ny), (11, D2, listO t2 0)] (callOf r.out = some (cB "list.__contains__" [.ref D2, .str s t])) (wtO r.out = 0)) (jc8 w b N0 T0 X Y F it D i ys ny ta nt xs nx hs nh tk tt pl pt wt wd N1 T1 s t N2 T2 D2 t2) := by cases b <;> rcases wd with _ | ⟨k0, s0, t0⟩ <;> rfl'
@[irreducible] noncomputable def jd8 : Res := resumeZ (VV w b N3 T3) 400 [5, 5, 8, 8, 1] [] (jc8 w b N0 T0 X Y F it D i ys ny ta nt xs nx hs nh tk tt pl pt wt wd N1 T1 s t N2 T2 D2 t2).out (.ok (.ret (.bool true))) (jc8 w b N0 T0 X Y F it D i ys ny ta nt xs nx hs nh tk tt pl pt wt wd N1 T1 s t N2 T2 D2 t2).led
theorem jd8' : (fun r => Lk r [(0, X.lx, lexO X), (1, X.dx, lexD w.params X Y.ln Y.tl), (2, X.sp, spotO w.params X.kp (.int Y.p Y.tp)), (3, X.pb, listO Y.xs Y.n), (4, F.L, frHn w.params X F T1 (.str tk tt) (.int pl pt) (.bool wt) s t wd), (5, F.tb, listO ta nt), (6, F.q, listO xs nx), (7, F.hd, listO hs nh), (8, it, litO (.ref D) (i + 1)), (9, D, listO ys ny)] (callOf r.out = some (cB "list.__contains__" [.ref F.hd, .str s t])) (wtO r.out = 0)) (jd8 w b N0 T0 X Y F it D i ys ny ta nt xs nx hs nh tk tt pl pt wt wd N1 T1 s t N2 T2 D2 t2 N3 T3) := by cases b <;> rcases wd with _ | ⟨k0, s0, t0⟩ <;> rfl'
@[irreducible] noncomputable def je8 : Res := resumeZ (VV w b N4 T4) 400 [5, 8, 8, 8, 8, 5, 1] [] (jd8 w b N0 T0 X Y F it D i ys ny ta nt xs nx hs nh tk tt pl pt wt wd N1 T1 s t N2 T2 D2 t2 N3 T3).out (.ok (.ret (.bool false))) (jd8 w b N0 T0 X Y F it D i ys ny ta nt xs nx hs nh tk tt pl pt wt wd N1 T1 s t N2 T2 D2 t2 N3 T3).led
theorem je8' : (fun r => Lk r [(0, X.lx, lexO X), (1, X.dx, lexD w.params X Y.ln Y.tl), (2, X.sp, spotO w.params X.kp (.int Y.p Y.tp)), (3, X.pb, listO Y.xs Y.n), (4, F.L, frHn w.params X F T1 (.str tk tt) (.int pl pt) (.bool wt) s t wd), (5, F.tb, listO ta nt), (6, F.q, listO xs nx), (7, F.hd, listO hs nh), (8, it, litO (.ref D) (i + 1)), (9, D, listO ys ny)] (callOf r.out = some (cB "list.append" [.ref F.hd, .str s t])) (wtO r.out = 0)) (je8 w b N0 T0 X Y F it D i ys ny ta nt xs nx hs nh tk tt pl pt wt wd N1 T1 s t N2 T2 D2 t2 N3 T3 N4 T4) := by cases b <;> rcases wd with _ | ⟨k0, s0, t0⟩ <;> rfl'
@[irreducible] noncomputable def jf8 : Res := resumeZ (VV w b N5 T5) 400 [] [] (je8 w b N0 T0 X Y F it D i ys ny ta nt xs nx hs nh tk tt pl pt wt wd N1 T1 s t N2 T2 D2 t2 N3 T3 N4 T4).out (.ok (.ret .none)) (put (je8 w b N0 T0 X Y F it D i ys ny ta nt xs nx hs nh tk tt pl pt wt wd N1 T1 s t N2 T2 D2 t2 N3 T3 N4 T4).led 7 (listO h2 n2))
theorem jf8' : (fun r => Lk r [(0, X.lx, lexO X), (1, X.dx, lexD w.params X Y.ln Y.tl), (2, X.sp, spotO w.params X.kp (.int Y.p Y.tp)), (3, X.pb, listO Y.xs Y.n), (4, F.L, frHn w.params X F T1 (.str tk tt) (.int pl pt) (.bool wt) s t wd), (5, F.tb, listO ta nt), (6, F.q, listO xs nx), (7, F.hd, listO h2 n2), (8, it, litO (.ref D) (i + 1)), (9, D, listO ys ny)] (finOf r.out = some (.again (codeH2 w.params F.L it))) (True)) (jf8 w b N0 T0 X Y F it D i ys ny ta nt xs nx hs nh tk tt pl pt wt wd N1 T1 s t N2 T2 D2 t2 N3 T3 N4 T4 N5 T5 h2 n2) := by cases b <;> rcases wd with _ | ⟨k0, s0, t0⟩ <;> rfl'
@[irreducible] noncomputable def jg8 : Res := resumeZ (VV w b N4 T4) 400 [5, 8, 8, 8, 8, 5, 1] [] (jd8 w b N0 T0 X Y F it D i ys ny ta nt xs nx hs nh tk tt pl pt wt wd N1 T1 s t N2 T2 D2 t2 N3 T3).out (.ok (.ret (.bool true))) (jd8 w b N0 T0 X Y F it D i ys ny ta nt xs nx hs nh tk tt pl pt wt wd N1 T1 s t N2 T2 D2 t2 N3 T3).led
theorem jg8' : (fun r => Lk r [(0, X.lx, lexO X), (1, X.dx, lexD w.params X Y.ln Y.tl), (2, X.sp, spotO w.params X.kp (.int Y.p Y.tp)), (3, X.pb, listO Y.xs Y.n), (4, F.L, frHn w.params X F T1 (.str tk tt) (.int pl pt) (.bool wt) s t wd), (5, F.tb, listO ta nt), (6, F.q, listO xs nx), (7, F.hd, listO hs nh), (8, it, litO (.ref D) (i + 1)), (9, D, listO ys ny)] (callOf r.out = some (cB "list.remove" [.ref F.hd, .str s t])) (wtO r.out = 0)) (jg8 w b N0 T0 X Y F it D i ys ny ta nt xs nx hs nh tk tt pl pt wt wd N1 T1 s t N2 T2 D2 t2 N3 T3 N4 T4) := by cases b <;> rcases wd with _ | ⟨k0, s0, t0⟩ <;> rfl'
@[irreducible] noncomputable def ji8 : Res := resumeZ (VV w b N5 T5) 400 [5, 7, 7, 7, 7, 5, 5, 6, 6, 6, 6, 5, 1] [] (jg8 w b N0 T0 X Y F it D i ys ny ta nt xs nx hs nh tk tt pl pt wt wd N1 T1 s t N2 T2 D2 t2 N3 T3 N4 T4).out (.ok (.ret .none)) (put (jg8 w b N0 T0 X Y F it D i ys ny ta nt xs nx hs nh tk tt pl pt wt wd N1 T1 s t N2 T2 D2 t2 N3 T3 N4 T4).led 7 (listO h2 n2))
theorem ji8' : (fun r => Lk r [(0, X.lx, lexO X), (1, X.dx, lexD w.params X Y.ln Y.tl), (2, X.sp, spotO w.params X.kp (.int Y.p Y.tp)), (3, X.pb, listO Y.xs Y.n), (4, F.L, frHn w.params X F T1 (.str tk tt) (.int pl pt) (.bool wt) s t wd), (5, F.tb, listO ta nt), (6, F.q, listO xs nx), (7, F.hd, listO h2 n2), (8, it, litO (.ref D) (i + 1)), (9, D, listO ys ny)] (callOf r.out = some (cB "list.index" [.ref F.tb, .str s t])) (wtO r.out = 0)) (ji8 w b N0 T0 X Y F it D i ys ny ta nt xs nx hs nh tk tt pl pt wt wd N1 T1 s t N2 T2 D2 t2 N3 T3 N4 T4 N5 T5 h2 n2) := by cases b <;> rcases wd with _ | ⟨k0, s0, t0⟩ <;> rfl'
@[irreducible] noncomputable def jj8 : Res := resumeZ (VV w b N6 T6) 400 [0, 6, 6, 6, 1] [] (ji8 w b N0 T0 X Y F it D i ys ny ta nt xs nx hs nh tk tt pl pt wt wd N1 T1 s t N2 T2 D2 t2 N3 T3 N4 T4 N5 T5 h2 n2).out (.ok (.ret (.int (a : Int) ka))) (ji8 w b N0 T0 X Y F it D i ys ny ta nt xs nx hs nh tk tt pl pt wt wd N1 T1 s t N2 T2 D2 t2 N3 T3 N4 T4 N5 T5 h2 n2).led
theorem jj8' : (fun r => Lk r [(0, X.lx, lexO X), (1, X.dx, lexD w.params X Y.ln Y.tl), (2, X.sp, spotO w.params X.kp (.int Y.p Y.tp)), (3, X.pb, listO Y.xs Y.n), (4, F.L, frHn w.params X F T1 (.str tk tt) (.int pl pt) (.bool wt) s t wd), (5, F.tb, listO ta nt), (6, F.q, listO xs nx), (7, F.hd, listO h2 n2), (8, it, litO (.ref D) (i + 1)), (9, D, listO ys ny)] (callOf r.out = some (cB "list.__getitem__" [.ref F.tb, .int ((a : Int) + 1) (T6 + 1)])) (wtO r.out = 0)) (jj8 w b N0 T0 X Y F it D i ys ny ta nt xs nx hs nh tk tt pl pt wt wd N1 T1 s t N2 T2 D2 t2 N3 T3 N4 T4 N5 T5 h2 n2 N6 T6 a ka) := by cases b <;> rcases wd with _ | ⟨k0, s0, t0⟩ <;> rfl'
@[irreducible] noncomputable def jk8 : Res := resumeZ (VV w b N7 T7) 400 [1] [] (jj8 w b N0 T0 X Y F it D i ys ny ta nt xs nx hs nh tk tt pl pt wt wd N1 T1 s t N2 T2 D2 t2 N3 T3 N4 T4 N5 T5 h2 n2 N6 T6 a ka).out (.ok (.ret (.str x kx))) (jj8 w b N0 T0 X Y F it D i ys ny ta nt xs nx hs nh tk tt pl pt wt wd N1 T1 s t N2 T2 D2 t2 N3 T3 N4 T4 N5 T5 h2 n2 N6 T6 a ka).led
theorem jk8' : (fun r => Lk r [(0, X.lx, lexO X), (1, X.dx, lexD w.params X Y.ln Y.tl), (2, X.sp, spotO w.params X.kp (.int Y.p Y.tp)), (3, X.pb, listO Y.xs Y.n), (4, F.L, frHn w.params X F T1 (.str tk tt) (.int pl pt) (.bool wt) s t wd), (5, F.tb, listO ta nt), (6, F.q, listO xs nx), (7, F.hd, listO h2 n2), (8, it, litO (.ref D) (i + 1)), (9, D, listO ys ny)] (callOf r.out = some (cB "list.append" [.ref F.q, .str x kx])) (wtO r.out = 0)) (jk8 w b N0 T0 X Y F it D i ys ny ta nt xs nx hs nh tk tt pl pt wt wd N1 T1 s t N2 T2 D2 t2 N3 T3 N4 T4 N5 T5 h2 n2 N6 T6 a ka N7 T7 x kx) := by cases b <;> rcases wd with _ | ⟨k0, s0, t0⟩ <;> rfl'
@[irreducible] noncomputable def jl8 : Res := resumeZ (VV w b N8 T8) 400 [5, 1, 0, 0, 0, 1, 0, 0, 0, 1, 0, 0, 0, 0, 1, 2, 5, 0, 7, 7, 7, 1] [] (jk8 w b N0 T0 X Y F it D i ys ny ta nt xs nx hs nh tk tt pl pt wt wd N1 T1 s t N2 T2 D2 t2 N3 T3 N4 T4 N5 T5 h2 n2 N6 T6 a ka N7 T7 x kx).out (.ok (.ret .none)) (put (jk8 w b N0 T0 X Y F it D i ys ny ta nt xs nx hs nh tk tt pl pt wt wd N1 T1 s t N2 T2 D2 t2 N3 T3 N4 T4 N5 T5 h2 n2 N6 T6 a ka N7 T7 x kx).led 6 (listO x2 m2))
theorem jl8' : (fun r => Lk r [(0, X.lx, lexO X), (1, X.dx, lexD w.params X Y.ln Y.tl), (2, X.sp, spotO w.params X.kp (.int Y.p Y.tp)), (3, X.pb, listO Y.xs Y.n), (4, F.L, frHn w.params X F T1 (.str tk tt) (.int pl pt) (.bool wt) s t wd), (5, F.tb, listO ta nt), (6, F.q, listO x2 m2), (7, F.hd, listO h2 n2), (8, it, litO (.ref D) (i + 1)), (9, D, listO ys ny)] (callOf r.out = some (cB "list.__getitem__" [.ref F.q, .int (-1) (T8 + 1)])) (wtO r.out = 0)) (jl8 w b N0 T0 X Y F it D i ys ny ta nt xs nx hs nh tk tt pl pt wt wd N1 T1 s t N2 T2 D2 t2 N3 T3 N4 T4 N5 T5 h2 n2 N6 T6 a ka N7 T7 x kx N8 T8 x2 m2) := by cases b <;> rcases wd with _ | ⟨k0, s0, t0⟩ <;> rfl'
@[irreducible] noncomputable def jm8 : Res := resumeZ (VV w b N9 T9) 400 [0, 1] [] (jl8 w b N0 T0 X Y F it D i ys ny ta nt xs nx hs nh tk tt pl pt wt wd N1 T1 s t N2 T2 D2 t2 N3 T3 N4 T4 N5 T5 h2 n2 N6 T6 a ka N7 T7 x kx N8 T8 x2 m2).out (.ok (.ret (.str x kx))) (jl8 w b N0 T0 X Y F it D i ys ny ta nt xs nx hs nh tk tt pl pt wt wd N1 T1 s t N2 T2 D2 t2 N3 T3 N4 T4 N5 T5 h2 n2 N6 T6 a ka N7 T7 x kx N8 T8 x2 m2).led
theorem jm8' : (fun r => Lk r [(0, X.lx, lexO X), (1, X.dx, lexD w.params X Y.ln Y.tl), (2, X.sp, spotO w.params X.kp (.int Y.p Y.tp)), (3, X.pb, listO Y.xs Y.n), (4, F.L, frHn w.params X F T1 (.str tk tt) (.int pl pt) (.bool wt) s t wd), (5, F.tb, listO ta nt), (6, F.q, listO x2 m2), (7, F.hd, listO h2 n2), (8, it, litO (.ref D) (i + 1)), (9, D, listO ys ny)] (callOf r.out = some (.call (.ref 49) ⟨[.ref X.lx, .str x kx], []⟩)) (wtO r.out = 0)) (jm8 w b N0 T0 X Y F it D i ys ny ta nt xs nx hs nh tk tt pl pt wt wd N1 T1 s t N2 T2 D2 t2 N3 T3 N4 T4 N5 T5 h2 n2 N6 T6 a ka N7 T7 x kx N8 T8 x2 m2 N9 T9) := by cases b <;> rcases wd with _ | ⟨k0, s0, t0⟩ <;> rfl'
@[irreducible] noncomputable def jn8 : Res := resumeZ (VV w b N10 T10) 400 [] [] (jm8 w b N0 T0 X Y F it D i ys ny ta nt xs nx hs nh tk tt pl pt wt wd N1 T1 s t N2 T2 D2 t2 N3 T3 N4 T4 N5 T5 h2 n2 N6 T6 a ka N7 T7 x kx N8 T8 x2 m2 N9 T9).out (.ok (.ret .none)) (put (jm8 w b N0 T0 X Y F it D i ys ny ta nt xs nx hs nh tk tt pl pt wt wd N1 T1 s t N2 T2 D2 t2 N3 T3 N4 T4 N5 T5 h2 n2 N6 T6 a ka N7 T7 x kx N8 T8 x2 m2 N9 T9).led 3 (listO zs nz))
theorem jn8' : (fun r => Lk r [(0, X.lx, lexO X), (1, X.dx, lexD w.params X Y.ln Y.tl), (2, X.sp, spotO w.params X.kp (.int Y.p Y.tp)), (4, F.L, frHn w.params X F T1 (.str tk tt) (.int pl pt) (.bool wt) s t wd), (5, F.tb, listO ta nt), (6, F.q, listO x2 m2), (7, F.hd, listO h2 n2), (8, it, litO (.ref D) (i + 1)), (9, D, listO ys ny), (3, X.pb, listO zs nz)] (finOf r.out = some (.again (codeH2 w.params F.L it))) (True)) (jn8 w b N0 T0 X Y F it D i ys ny ta nt xs nx hs nh tk tt pl pt wt wd N1 T1 s t N2 T2 D2 t2 N3 T3 N4 T4 N5 T5 h2 n2 N6 T6 a ka N7 T7 x kx N8 T8 x2 m2 N9 T9 N10 T10 zs nz) := by cases b <;> rcases wd with _ | ⟨k0, s0, t0⟩ <;> rfl'
@[irreducible] noncomputable def jz8 : Res := resumeZ (VV w b N1 T1) 100 [1] [] (ja8 w b N0 T0 X Y F it D i ys ny ta nt xs nx hs nh tk tt pl pt wt wd).out (.error (.ref ee)) [(ee, stopO ts)]
theorem jz8' : (fun r => Lk r [(0, ee, stopO ts)] (isAg r.out = true) ((agOf r.out).quiet = true)) (jz8 w b N0 T0 X Y F it D i ys ny ta nt xs nx hs nh tk tt pl pt wt wd N1 T1 ee ts) := by cases b <;> rcases wd with _ | ⟨k0, s0, t0⟩ <;> rfl'
@[irreducible] noncomputable def jy8 : Res := startZ (VV w b N2 T2) 100 [] [] (agOf (jz8 w b N0 T0 X Y F it D i ys ny ta nt xs nx hs nh tk tt pl pt wt wd N1 T1 ee ts).out) (jz8 w b N0 T0 X Y F it D i ys ny ta nt xs nx hs nh tk tt pl pt wt wd N1 T1 ee ts).led
theorem jy8' : (fun r => Lk r [(0, ee, stopO ts)] (finOf r.out = some (.done .next)) (True)) (jy8 w b N0 T0 X Y F it D i ys ny ta nt xs nx hs nh tk tt pl pt wt wd N1 T1 N2 T2 ee ts) := by cases b <;> rcases wd with _ | ⟨k0, s0, t0⟩ <;> rfl'
end
noncomputable abbrev JE (w : World) (X : LX) (F : HF) (it D i : Nat) (l : List (Str × Nat)) (ny : Nat) (tab : List (Str × Nat)) (nt : Nat) (qs : List (Str × Nat)) (nx : Nat) (hs : List (Str × Nat)) (nh : Nat) (tk : Str) (tt : Nat) (pl : Int) (pt : Nat) (wt : Bool) (wd : Option (Nat × Str × Nat)) : Led :=
  [(F.L, frHw w.params X F (.str tk tt) (.int pl pt) (.bool wt) wd), (F.tb, listO (sA tab) nt), (F.q, listO (sA qs) nx), (F.hd, listO (sA hs) nh), (it, litO (.ref D) i), (D, listO (sA l) ny)]
theorem take_names : ∀ s ∈ names.take 11, s ∈ names ∧ ix s < 11 := by decide
theorem loopH {w : World} {b : Bool} (hb : w.params.followText "special-get-raises" = b) (X : LX) (F : HF) (it D : Nat) (l : List (Str × Nat)) (ny : Nat) (tab : List (Str × Nat)) (nt : Nat) (tk : Str) (tt : Nat) (pl : Int) (pt : Nat) (wt : Bool) (htab : tab.map (·.1) = names) :
    ∀ (rem : List (Str × Nat)) (i : Nat) (Y : LS) (qs : List (Str × Nat)) (nx : Nat) (hs : List (Str × Nat)) (nh : Nat) (wd : Option (Nat × Str × Nat)), (sA l).toList.drop i = rem.map sv → (∀ p ∈ rem, p.1 ∈ names.take 11) → Y.xs = sA qs → (hs.map (·.1)).Nodup → hs.length + qs.length + 2 * rem.length ≤ sizeLine →
    CtrF w 2 (codeH2 w.params F.L it) (LA w X Y (JE w X F it D i l ny tab nt qs nx hs nh tk tt pl pt wt wd)) (fun h f h' => f = .next ∧ Kp [X.pb, F.L, F.q, F.hd, it] h h' ∧ ∃ nx' nh' n' hs' wd', hs'.map (·.1) = (rem.foldl (fun st p => carry tab st p.1) (hs.map (·.1), qs)).1 ∧ LexAt w X { Y with xs := sA (rem.foldl (fun st p => carry tab st p.1) (hs.map (·.1), qs)).2, n := n' } h' ∧ h'.get? F.q = some (listO (sA (rem.foldl (fun st p => carry tab st p.1) (hs.map (·.1), qs)).2) nx') ∧ h'.get? F.hd = some (listO (sA hs') nh') ∧ h'.get? F.L = some (frHw w.params X F (.str tk tt) (.int pl pt) (.bool wt) wd')) := by
  intro rem
  induction rem with
  | nil =>
    intro i Y qs nx hs nh wd hrem hmem hps hnd hsz
    rintro A R ⟨h0, g, d, T, ost⟩ hA hd S L H
    obtain ⟨N, hN⟩ : ∃ N, h0.objs.size = N := ⟨_, rfl⟩
    have ha := L.haQ
    have C0 := L.curQ S
    refine code_call C0 hb hA hN _ (ja8.eq_1 w b N T X Y F it D i (sA l) ny (sA tab) nt (sA qs) nx (sA hs) nh tk tt pl pt wt wd) no_orc (ja8' ..).s (ja8' ..).o fun h1 N1 T1 hN1 C1 => ?_
    have K1 : Kp [] h0 h1 := by
      refine C1.fin ha ?_
      exact mC (.inr (C1.at' ((ja8' ..).g 0 rfl))) (mC (.inr (C1.at' ((ja8' ..).g 1 rfl))) (mC (.inr (C1.at' ((ja8' ..).g 2 rfl))) (mC (.inr (C1.at' ((ja8' ..).g 3 rfl))) (mC (.inr (C1.at' ((ja8' ..).g 4 rfl))) (mC (.inr (C1.at' ((ja8' ..).g 5 rfl))) (mC (.inr (C1.at' ((ja8' ..).g 6 rfl))) (mC (.inr (C1.at' ((ja8' ..).g 7 rfl))) (mC (.inr (C1.at' ((ja8' ..).g 8 rfl))) (mC (.inr (C1.at' ((ja8' ..).g 9 rfl))) mN)))))))))
    refine cNextStop (aroO_handled hA _) (C1.at' ((ja8' ..).g 8 rfl)) (C1.at' ((ja8' ..).g 9 rfl)) (src_end hrem) fun h2 e ts K2 e2 e3 hne => ?_
    have S2 : Sta w h2 := C1.sta.kp K2 fun x hx => by cases List.mem_singleton.mp hx; exact C1.off' ((ja8' ..).g 8 rfl)
    have ha2 : ∀ p ∈ ([(e, stopO ts)] : Led), h2.get? p.1 = some p.2 := by
      exact mC (e3) mN
    refine res_fin (Cur.start S2 ha2 (by ac_rfl) (by
      exact mC (C1.sta.off hne) mN)) hb hA rfl _ (jz8.eq_1 w b N T X Y F it D i (sA l) ny (sA tab) nt (sA qs) nx (sA hs) nh tk tt pl pt wt wd h2.objs.size T1 e ts) no_orc (jz8' ..).s (agOf_fin (jz8' ..).o) fun h3 N3 T3 hN3 C3 => ?_
    refine ⟨(jz8' ..).e, ?_⟩
    refine code_fin C3 hb hA hN3 _ (jy8.eq_1 w b N T X Y F it D i (sA l) ny (sA tab) nt (sA qs) nx (sA hs) nh tk tt pl pt wt wd h2.objs.size T1 N3 T3 e ts) no_orc (jy8' ..).s (jy8' ..).o fun h4 N4 T4 hN4 C4 => ?_
    have K4 : Kp [] h2 h4 := by
      refine C4.fin ha2 ?_
      exact mC (.inr (C4.at' ((jy8' ..).g 0 rfl))) mN
    have K14 := (K1.mono (M' := [it]) fun a ha => nomatch ha).trans (K2.trans K4 fun a ha => nomatch ha) fun a ha => .inl ha
    have L4 : LexAt w X Y h4 := L.keep K14 fun a ha => by cases List.mem_singleton.mp ha; simp
    refine H _ _ _ ⟨rfl, K14.mono (fun a ha => .inl (by cases List.mem_singleton.mp ha; simp)), nx, nh, Y.n, hs, wd, rfl, ?_, ?_, ?_, ?_⟩
    · have e : ({ Y with xs := sA qs, n := Y.n } : LS) = Y := by rw [← hps]
      show LexAt w X ({ Y with xs := sA qs, n := Y.n } : LS) h4
      rw [e]; exact L4
    · exact K14.get (L.at_ (F.q, listO (sA qs) nx) (by ac_rfl)) (fun z => nd_ne L.nd 12 14 rfl rfl (by decide) (List.mem_singleton.mp z))
    · exact K14.get (L.at_ (F.hd, listO (sA hs) nh) (by ac_rfl)) (fun z => nd_ne L.nd 13 14 rfl rfl (by decide) (List.mem_singleton.mp z))
    · exact K14.get (L.at_ (F.L, _) (.head _)) (fun z => nd_ne L.nd 10 14 rfl rfl (by decide) (List.mem_singleton.mp z))
  | cons p rem ih =>
    intro i Y qs nx hs nh wd hrem hmem hps hnd hsz
    rintro A R ⟨h0, g, d, T, ost⟩ hA hd S L H
    obtain ⟨N, hN⟩ : ∃ N, h0.objs.size = N := ⟨_, rfl⟩
    have ha := L.haQ
    have C0 := L.curQ S
    refine code_call C0 hb hA hN _ (ja8.eq_1 w b N T X Y F it D i (sA l) ny (sA tab) nt (sA qs) nx (sA hs) nh tk tt pl pt wt wd) no_orc (ja8' ..).s (ja8' ..).o fun h1 N1 T1 hN1 C1 => ?_
    obtain ⟨hx, hrem'⟩ := src_item hrem
    obtain ⟨s, t⟩ := p
    have hs11 : s ∈ names.take 11 := hmem (s, t) (.head _)
    obtain ⟨hsn, hsx⟩ := take_names s hs11
    refine cNextItem (C1.at' ((ja8' ..).g 8 rfl)) (C1.at' ((ja8' ..).g 9 rfl)) hx fun h2 K2 e2 => ?_
    have C2 := C1.put1 ((ja8' ..).g 8 rfl) K2 e2
    refine res_call C2 hb hA rfl _ (jb8.eq_1 w b N T X Y F it D i (sA l) ny (sA tab) nt (sA qs) nx (sA hs) nh tk tt pl pt wt wd h2.objs.size T1 s t) no_orc (jb8' ..).s (jb8' ..).o fun h3 N3 T3 hN3 C3 => ?_
    have htl : tab.length = 12 := by rw [← List.length_map (f := (·.1)), htab]; rfl
    refine cSliceL (C3.at' ((jb8' ..).g 5 rfl)) (C3.at' ((jb8' ..).g 10 rfl)) .none (.int _ _) .none (by decide) (by simp [htl]; decide) ?_
    rw [tab_init htab, hN3]
    have KP := kp_push h3 (listO (sA (tab.take 11)) 0)
    have hD2 : (h3.push (listO (sA (tab.take 11)) 0)).get? N3 = some (listO (sA (tab.take 11)) 0) := by rw [← hN3]; exact Heap.get?_push_size _ rfl
    have C3' := (C3.same KP).join hD2 (fun hm => by
      obtain ⟨q, hq, e⟩ := List.mem_map.mp hm
      have := Heap.lt_size (C3.at_ q hq)
      rw [e, hN3] at this
      exact Nat.lt_irrefl _ this) (C3.sta.off (by rw [hN3]; exact Nat.le_refl _)) (.inr (by rw [← hN3]; exact C3.kp.1))
    obtain ⟨M3, hM3⟩ : ∃ M, (h3.push (listO (sA (tab.take 11)) 0)).objs.size = M := ⟨_, rfl⟩
    refine res_call C3' hb hA hM3 _ (jc8.eq_1 w b N T X Y F it D i (sA l) ny (sA tab) nt (sA qs) nx (sA hs) nh tk tt pl pt wt wd h2.objs.size T1 s t M3 T3 N3 (sA (tab.take 11))) no_orc (jc8' ..).s (jc8' ..).o fun h4 N4 T4 hN4 C4 => ?_
    refine cIn (C4.at' ((jc8' ..).g 10 rfl)) ?_
    rw [decide_eq_true (by rw [List.map_take, htab]; exact hs11)]
    refine res_call C4 hb hA hN4 _ (jd8.eq_1 w b N T X Y F it D i (sA l) ny (sA tab) nt (sA qs) nx (sA hs) nh tk tt pl pt wt wd h2.objs.size T1 s t M3 T3 N3 (sA (tab.take 11)) N4 T4) no_orc (jd8' ..).s (jd8' ..).o fun h5 N5 T5 hN5 C5 => ?_
    refine cIn (C5.at' ((jd8' ..).g 7 rfl)) ?_
    by_cases hin : s ∈ hs.map (·.1)
    · rw [decide_eq_true hin]
      refine res_call C5 hb hA hN5 _ (jg8.eq_1 w b N T X Y F it D i (sA l) ny (sA tab) nt (sA qs) nx (sA hs) nh tk tt pl pt wt wd h2.objs.size T1 s t M3 T3 N3 (sA (tab.take 11)) N4 T4 N5 T5) no_orc (jg8' ..).s (jg8' ..).o fun h6 N6 T6 hN6 C6 => ?_
      refine cRemove (C6.at' ((jg8' ..).g 7 rfl)) (by simp at hsz; omega) hin fun h7 n7 j q hj K7 e7 => ?_
      have C7 := C6.put1 ((jg8' ..).g 7 rfl) K7 e7
      have her := erase_at hnd hj
      generalize hh2 : hs.eraseIdx j = hs2 at her e7 C7
      have hs2l : hs2.length ≤ hs.length := by rw [← hh2]; exact List.length_eraseIdx_le ..
      refine res_call C7 hb hA rfl _ (ji8.eq_1 w b N T X Y F it D i (sA l) ny (sA tab) nt (sA qs) nx (sA hs) nh tk tt pl pt wt wd h2.objs.size T1 s t M3 T3 N3 (sA (tab.take 11)) N4 T4 N5 T5 h7.objs.size T6 (sA hs2) n7) no_orc (ji8' ..).s (ji8' ..).o fun h8 N8 T8 hN8 C8 => ?_
      refine cIndexT (C8.at' ((ji8' ..).g 5 rfl)) htab hsn ?_
      refine res_call C8 hb hA hN8 _ (jj8.eq_1 w b N T X Y F it D i (sA l) ny (sA tab) nt (sA qs) nx (sA hs) nh tk tt pl pt wt wd h2.objs.size T1 s t M3 T3 N3 (sA (tab.take 11)) N4 T4 N5 T5 h7.objs.size T6 (sA hs2) n7 N8 (T8 + 1) (ix s) T8) no_orc (jj8' ..).s (jj8' ..).o fun h9 N9 T9 hN9 C9 => ?_
      refine cItemZ (C9.at' ((jj8' ..).g 5 rfl)) (by omega) (by omega) (x := sv (tabv tab (ix s + 1))) (by
        rw [show ((ix s : Int) + 1).toNat = ix s + 1 by omega]
        exact tab_at htab (by omega)) ?_
      generalize hx' : tabv tab (ix s + 1) = xk
      obtain ⟨x, kx⟩ := xk
      refine res_call C9 hb hA hN9 _ (jk8.eq_1 w b N T X Y F it D i (sA l) ny (sA tab) nt (sA qs) nx (sA hs) nh tk tt pl pt wt wd h2.objs.size T1 s t M3 T3 N3 (sA (tab.take 11)) N4 T4 N5 T5 h7.objs.size T6 (sA hs2) n7 N8 (T8 + 1) (ix s) T8 N9 T9 x kx) no_orc (jk8' ..).s (jk8' ..).o fun h10 N10 T10 hN10 C10 => ?_
      refine cAppend (C10.at' ((jk8' ..).g 6 rfl)) (by simp at hsz ⊢; omega) fun h11 N11 hN11 K11 e11 => ?_
      have C11 := C10.put1 ((jk8' ..).g 6 rfl) K11 e11
      refine res_call C11 hb hA hN11 _ (jl8.eq_1 w b N T X Y F it D i (sA l) ny (sA tab) nt (sA qs) nx (sA hs) nh tk tt pl pt wt wd h2.objs.size T1 s t M3 T3 N3 (sA (tab.take 11)) N4 T4 N5 T5 h7.objs.size T6 (sA hs2) n7 N8 (T8 + 1) (ix s) T8 N9 T9 x kx N11 T10 ((sA qs).push (.str x kx)) (nx + 1)) no_orc (jl8' ..).s (jl8' ..).o fun h12 N12 T12 hN12 C12 => ?_
      refine cLast (C12.at' ((jl8' ..).g 6 rfl)) ?_
      refine res_call C12 hb hA hN12 _ (jm8.eq_1 w b N T X Y F it D i (sA l) ny (sA tab) nt (sA qs) nx (sA hs) nh tk tt pl pt wt wd h2.objs.size T1 s t M3 T3 N3 (sA (tab.take 11)) N4 T4 N5 T5 h7.objs.size T6 (sA hs2) n7 N8 (T8 + 1) (ix s) T8 N9 T9 x kx N11 T10 ((sA qs).push (.str x kx)) (nx + 1) N12 T12) no_orc (jm8' ..).s (jm8' ..).o fun h13 N13 T13 hN13 C13 => ?_
      have K13 : Kp (X.dx :: X.sp :: X.pb :: [F.L, F.tb, F.q, F.hd, it, D]) h0 h13 := by
        refine C13.fin ha ?_
        exact mC (.inr (C13.at' ((jm8' ..).g 0 rfl))) (mC (.inl (by ac_rfl)) (mC (.inl (by ac_rfl)) (mC (.inl (by ac_rfl)) (mC (.inl (by ac_rfl)) (mC (.inl (by ac_rfl)) (mC (.inl (by ac_rfl)) (mC (.inl (by ac_rfl)) (mC (.inl (by ac_rfl)) (mC (.inl (by ac_rfl)) mN)))))))))
      have L13 := L.turnQ (Y' := Y) K13 (C13.at' ((jm8' ..).g 1 rfl)) (C13.at' ((jm8' ..).g 2 rfl)) (C13.at' ((jm8' ..).g 3 rfl))
      refine push_ok (by rw [hps]; simp at hsz ⊢; omega) _ _ _ (aroO_handled hA _) (by first | exact room hd (jm8' ..).e rfl | (rw [aroO_depth, (jm8' ..).e]; omega)) C13.sta L13 fun v h14 T14 hPP => ?_
      obtain ⟨hv, K14, L14⟩ := hPP
      subst hv
      have C14 := C13.put1 ((jm8' ..).g 3 rfl) K14 L14.pb
      refine res_fin C14 hb hA rfl _ (jn8.eq_1 w b N T X Y F it D i (sA l) ny (sA tab) nt (sA qs) nx (sA hs) nh tk tt pl pt wt wd h2.objs.size T1 s t M3 T3 N3 (sA (tab.take 11)) N4 T4 N5 T5 h7.objs.size T6 (sA hs2) n7 N8 (T8 + 1) (ix s) T8 N9 T9 x kx N11 T10 ((sA qs).push (.str x kx)) (nx + 1) N12 T12 h14.objs.size T14 (Y.xs.push (.str x kx)) (Y.n + 1)) no_orc (jn8' ..).s (jn8' ..).o fun h15 N15 T15 hN15 C15 => ?_
      have K15 : Kp [X.pb, F.L, F.q, F.hd, it] h0 h15 := by
        refine C15.fin ha ?_
        exact mC (.inr (C15.at' ((jn8' ..).g 0 rfl))) (mC (.inr (C15.at' ((jn8' ..).g 1 rfl))) (mC (.inr (C15.at' ((jn8' ..).g 2 rfl))) (mC (.inl (by ac_rfl)) (mC (.inl (by ac_rfl)) (mC (.inr (C15.at' ((jn8' ..).g 4 rfl))) (mC (.inl (by ac_rfl)) (mC (.inl (by ac_rfl)) (mC (.inl (by ac_rfl)) (mC (.inr (C15.at' ((jn8' ..).g 8 rfl))) mN)))))))))
      have L15 : LexAt w X { Y with xs := Y.xs.push (.str x kx), n := Y.n + 1 } h15 := L.turnQ (Y' := { Y with xs := Y.xs.push (.str x kx), n := Y.n + 1 }) (K15.mono (by ac_rfl)) (C15.at' ((jn8' ..).g 1 rfl)) (C15.at' ((jn8' ..).g 2 rfl)) (C15.at' ((jn8' ..).g 9 rfl))
      have A15 : LA w X { Y with xs := Y.xs.push (.str x kx), n := Y.n + 1 } (JE w X F it D (i + 1) l ny tab nt (qs ++ [(x, kx)]) (nx + 1) hs2 n7 tk tt pl pt wt (some (wdK wd T1, s, t))) h15 := L.set L15 rfl (by
        exact mC ((C15.at' ((jn8' ..).g 3 rfl)).trans (congrArg some (frHn_is ..))) (mC (C15.at' ((jn8' ..).g 4 rfl)) (mC ((C15.at' ((jn8' ..).g 5 rfl)).trans (by rw [← sA_push qs (x, kx)])) (mC (C15.at' ((jn8' ..).g 6 rfl)) (mC (C15.at' ((jn8' ..).g 7 rfl)) (mC (C15.at' ((jn8' ..).g 8 rfl)) mN))))))
      refine ⟨rfl, ih (i + 1) { Y with xs := Y.xs.push (.str x kx), n := Y.n + 1 } (qs ++ [(x, kx)]) (nx + 1) hs2 n7 (some (wdK wd T1, s, t)) hrem' (fun q hq => hmem q (.tail _ hq)) (by
        show Y.xs.push (.str x kx) = _
        rw [hps]; exact sA_push qs (x, kx)) (by rw [her]; exact hnd.erase _) (by simp at hsz ⊢; omega) _ _ _ hA hd C15.sta A15 fun f h' t' Q => H f h' t' ?_⟩
      obtain ⟨hf, K16, nx', nh', n', hs', wd', Q1, Q2, Q3, Q4, Q5⟩ := Q
      have ec : carry tab (hs.map (·.1), qs) s = (hs2.map (·.1), qs ++ [(x, kx)]) := by
        unfold carry
        rw [if_pos hin, her, hx']
      have ef : ((s, t) :: rem).foldl (fun st p => carry tab st p.1) (hs.map (·.1), qs) = rem.foldl (fun st p => carry tab st p.1) (hs2.map (·.1), qs ++ [(x, kx)]) := by
        rw [List.foldl_cons, ec]
      rw [ef]
      exact ⟨hf, K15.trans K16 (fun a ha => .inl ha), nx', nh', n', hs', wd', Q1, Q2, Q3, Q4, Q5⟩
    · rw [decide_eq_false hin]
      refine res_call C5 hb hA hN5 _ (je8.eq_1 w b N T X Y F it D i (sA l) ny (sA tab) nt (sA qs) nx (sA hs) nh tk tt pl pt wt wd h2.objs.size T1 s t M3 T3 N3 (sA (tab.take 11)) N4 T4 N5 T5) no_orc (je8' ..).s (je8' ..).o fun h6 N6 T6 hN6 C6 => ?_
      refine cAppend (C6.at' ((je8' ..).g 7 rfl)) (by simp at hsz ⊢; omega) fun h7 N7 hN7 K7 e7 => ?_
      have C7 := C6.put1 ((je8' ..).g 7 rfl) K7 e7
      refine res_fin C7 hb hA hN7 _ (jf8.eq_1 w b N T X Y F it D i (sA l) ny (sA tab) nt (sA qs) nx (sA hs) nh tk tt pl pt wt wd h2.objs.size T1 s t M3 T3 N3 (sA (tab.take 11)) N4 T4 N5 T5 N7 T6 ((sA hs).push (.str s t)) (nh + 1)) no_orc (jf8' ..).s (jf8' ..).o fun h8 N8 T8 hN8 C8 => ?_
      have K8 : Kp [X.pb, F.L, F.q, F.hd, it] h0 h8 := by
        refine C8.fin ha ?_
        exact mC (.inr (C8.at' ((jf8' ..).g 0 rfl))) (mC (.inr (C8.at' ((jf8' ..).g 1 rfl))) (mC (.inr (C8.at' ((jf8' ..).g 2 rfl))) (mC (.inl (by ac_rfl)) (mC (.inl (by ac_rfl)) (mC (.inr (C8.at' ((jf8' ..).g 5 rfl))) (mC (.inl (by ac_rfl)) (mC (.inl (by ac_rfl)) (mC (.inl (by ac_rfl)) (mC (.inr (C8.at' ((jf8' ..).g 9 rfl))) mN)))))))))
      have L8 : LexAt w X Y h8 := L.turnQ (Y' := Y) (K8.mono (by ac_rfl)) (C8.at' ((jf8' ..).g 1 rfl)) (C8.at' ((jf8' ..).g 2 rfl)) (C8.at' ((jf8' ..).g 3 rfl))
      have A8 : LA w X Y (JE w X F it D (i + 1) l ny tab nt qs nx (hs ++ [(s, t)]) (nh + 1) tk tt pl pt wt (some (wdK wd T1, s, t))) h8 := L.set L8 rfl (by
        exact mC ((C8.at' ((jf8' ..).g 4 rfl)).trans (congrArg some (frHn_is ..))) (mC (C8.at' ((jf8' ..).g 5 rfl)) (mC (C8.at' ((jf8' ..).g 6 rfl)) (mC ((C8.at' ((jf8' ..).g 7 rfl)).trans (by rw [← sA_push hs (s, t)])) (mC (C8.at' ((jf8' ..).g 8 rfl)) (mC (C8.at' ((jf8' ..).g 9 rfl)) mN))))))
      have ec : carry tab (hs.map (·.1), qs) s = ((hs ++ [(s, t)]).map (·.1), qs) := by
        unfold carry
        rw [if_neg hin]
        simp
      have hnd2 : ((hs ++ [(s, t)]).map (·.1)).Nodup := by
        have := carry_nodup (tab := tab) (st := (hs.map (·.1), qs)) (s := s) hnd
        rw [ec] at this
        exact this
      refine ⟨rfl, ih (i + 1) Y qs nx (hs ++ [(s, t)]) (nh + 1) (some (wdK wd T1, s, t)) hrem' (fun q hq => hmem q (.tail _ hq)) hps hnd2 (by simp at hsz ⊢; omega) _ _ _ hA hd C8.sta A8 fun f h' t' Q => H f h' t' ?_⟩
      obtain ⟨hf, K16, nx', nh', n', hs', wd', Q1, Q2, Q3, Q4, Q5⟩ := Q
      have ef : ((s, t) :: rem).foldl (fun st p => carry tab st p.1) (hs.map (·.1), qs) = rem.foldl (fun st p => carry tab st p.1) ((hs ++ [(s, t)]).map (·.1), qs) := by
        rw [List.foldl_cons, ec]
      rw [ef]
      exact ⟨hf, K8.trans K16 (fun a ha => .inl ha), nx', nh', n', hs', wd', Q1, Q2, Q3, Q4, Q5⟩
noncomputable abbrev frH8z (P : Params) (X : LX) (F : HF) (a c : Nat) (tok pl wt : Value) : Obj := ⟨.type "frame", none, .dict ⟨hE6 P X F tok ++ [entZ P sPlace a pl, entZ P sWaits c wt]⟩ 8, #[]⟩
theorem frH8z_is (P : Params) (X : LX) (F : HF) (a c : Nat) (tok pl wt : Value) : frH8z P X F a c tok pl wt = frH8 P X { F with k7 := a, k8 := c } tok pl wt := by
  unfold frH8z; simp only [entZ_is]
noncomputable abbrev WS := Option (Nat × Nat × Int × Nat × Bool × Option (Nat × Str × Nat))
noncomputable abbrev frHa (P : Params) (X : LX) (F : HF) (tok : Value) : WS → Obj
  | none => frH6 P X F tok
  | some (a, c, pl, pt, wt, wd) => frHw P X { F with k7 := a, k8 := c } tok (.int pl pt) (.bool wt) wd
noncomputable abbrev frHb (P : Params) (X : LX) (F : HF) (T : Nat) (tok pl wt : Value) : WS → Obj
  | none => frH8z P X F T (T + 1) tok pl wt
  | some (a, c, _, _, _, wd) => frHw P X { F with k7 := a, k8 := c } tok pl wt wd
noncomputable def wsA (fs : WS) (T : Nat) : Nat := match fs with
  | none => T
  | some q => q.1
noncomputable def wsC (fs : WS) (T : Nat) : Nat := match fs with
  | none => T + 1
  | some q => q.2.1
noncomputable def wsW (fs : WS) : Option (Nat × Str × Nat) := match fs with
  | none => none
  | some q => q.2.2.2.2.2
theorem frHb_is (P : Params) (X : LX) (F : HF) (T : Nat) (tok pl wt : Value) (fs : WS) : frHb P X F T tok pl wt fs = frHw P X { F with k7 := wsA fs T, k8 := wsC fs T } tok pl wt (wsW fs) := by
  cases fs with
  | none => exact frH8z_is ..
  | some q => rfl
section
variable (w : World) (b : Bool) (N0 T0 : Nat) (X : LX) (Y : LS) (F : HF) (ta : Array Value) (nt : Nat) (xs : Array Value) (nx : Nat) (hs : Array Value) (nh : Nat) (tk : Str) (tt : Nat) (fs : WS) (N1 T1 m km N2 T2 : Nat) (p2 : Int) (pk N3 T3 : Nat) (Y2 : LS) (y : Str) (yk N4 T4 : Nat) (x2 : Array Value) (n2 : Nat) (y2 : Str) (yk2 N5 T5 : Nat) (p3 : Int) (pk3 N6 T6 D : Nat) (ys : Array Value) (ny N7 T7 : Nat)
@[irreducible] noncomputable def kx : Res := startZ (VV w b N0 T0) 200 [5, 2] [⟨cB "str.__ne__" [.str tk tt, .str ⟨#[]⟩ T0], fun _ => .bool false, 0⟩] (codeH1 w.params F.L) (ledQ w X Y [(F.L, (frHa w.params X F (.str tk tt) fs)), (F.tb, listO ta nt), (F.q, listO xs nx), (F.hd, listO hs nh)])
theorem kx' : (fun r => Lk r [(0, X.lx, lexO X), (1, X.dx, lexD w.params X Y.ln Y.tl), (2, X.sp, spotO w.params X.kp (.int Y.p Y.tp)), (3, X.pb, listO Y.xs Y.n), (4, F.L, (frHa w.params X F (.str tk tt) fs)), (5, F.tb, listO ta nt), (6, F.q, listO xs nx), (7, F.hd, listO hs nh)] (finOf r.out = some (.done .next)) (True)) (kx w b N0 T0 X Y F ta nt xs nx hs nh tk tt fs) := by cases b <;> rcases fs with _ | ⟨a0, c0, pl, pt, wt, _ | ⟨k0, s0, t0⟩⟩ <;> rfl'
@[irreducible] noncomputable def ka : Res := startZ (VV w b N0 T0) 300 [5, 2, 0, 0, 5, 1] [⟨cB "str.__ne__" [.str tk tt, .str ⟨#[]⟩ T0], fun _ => .bool true, 0⟩] (codeH1 w.params F.L) (ledQ w X Y [(F.L, (frHa w.params X F (.str tk tt) fs)), (F.tb, listO ta nt), (F.q, listO xs nx), (F.hd, listO hs nh)])
theorem ka' : (fun r => Lk r [(0, X.lx, lexO X), (1, X.dx, lexD w.params X Y.ln Y.tl), (2, X.sp, spotO w.params X.kp (.int Y.p Y.tp)), (3, X.pb, listO Y.xs Y.n), (4, F.L, (frHa w.params X F (.str tk tt) fs)), (5, F.tb, listO ta nt), (6, F.q, listO xs nx), (7, F.hd, listO hs nh)] (callOf r.out = some (cB "len" [.ref F.q])) (wtO r.out = 0)) (ka w b N0 T0 X Y F ta nt xs nx hs nh tk tt fs) := by cases b <;> rcases fs with _ | ⟨a0, c0, pl, pt, wt, _ | ⟨k0, s0, t0⟩⟩ <;> rfl'
@[irreducible] noncomputable def kbt : Res := resumeZ (VV w b N1 T1) 600 [2, 5, 3, 3, 3, 1] [⟨cB "int.__gt__" [.int (m : Int) km, .int 0 T1], fun _ => .bool true, 0⟩] (ka w b N0 T0 X Y F ta nt xs nx hs nh tk tt fs).out (.ok (.ret (.int (m : Int) km))) (ka w b N0 T0 X Y F ta nt xs nx hs nh tk tt fs).led
theorem kbt' : (fun r => Lk r [(0, X.lx, lexO X), (1, X.dx, lexD w.params X Y.ln Y.tl), (2, X.sp, spotO w.params X.kp (.int Y.p Y.tp)), (3, X.pb, listO Y.xs Y.n), (4, F.L, (frHa w.params X F (.str tk tt) fs)), (5, F.tb, listO ta nt), (6, F.q, listO xs nx), (7, F.hd, listO hs nh)] (callOf r.out = some (cB "dict.__getitem__" [.ref X.sp, .str sPlace (T1 + 1)])) (wtO r.out = 0)) (kbt w b N0 T0 X Y F ta nt xs nx hs nh tk tt fs N1 T1 m km) := by cases b <;> rcases fs with _ | ⟨a0, c0, pl, pt, wt, _ | ⟨k0, s0, t0⟩⟩ <;> rfl'
@[irreducible] noncomputable def kct : Res := resumeZ (VV w b N2 T2) 600 [9, 9, 9, 0, 9, 10, 10, 0, 10, 10, 10, 9, 10, 10, 10, 0, 10, 10, 10, 9, 10, 10, 10, 0, 10, 10, 10, 9, 10, 10, 12, 5, 5, 5, 5, 5, 1, 0, 0, 0, 1, 0, 0, 0, 1, 0, 0, 0, 0, 1, 2, 0, 1] [] (kbt w b N0 T0 X Y F ta nt xs nx hs nh tk tt fs N1 T1 m km).out (.ok (.ret (.int p2 pk))) (kbt w b N0 T0 X Y F ta nt xs nx hs nh tk tt fs N1 T1 m km).led
theorem kct' : (fun r => Lk r [(0, X.lx, lexO X), (1, X.dx, lexD w.params X Y.ln Y.tl), (2, X.sp, spotO w.params X.kp (.int Y.p Y.tp)), (3, X.pb, listO Y.xs Y.n), (4, F.L, (frHb w.params X F T2 (.str tk tt) (.int p2 pk) (.bool true) fs)), (5, F.tb, listO ta nt), (6, F.q, listO xs nx), (7, F.hd, listO hs nh)] (callOf r.out = some (.call (.ref 42) ⟨[.ref X.lx], []⟩)) (wtO r.out = 0)) (kct w b N0 T0 X Y F ta nt xs nx hs nh tk tt fs N1 T1 m km N2 T2 p2 pk) := by cases b <;> rcases fs with _ | ⟨a0, c0, pl, pt, wt, _ | ⟨k0, s0, t0⟩⟩ <;> rfl'
@[irreducible] noncomputable def kdt : Res := resumeZ (VV w b N3 T3) 600 [5, 5, 5, 5, 5, 7, 7, 7, 7, 1] [] (kct w b N0 T0 X Y F ta nt xs nx hs nh tk tt fs N1 T1 m km N2 T2 p2 pk).out (.ok (.ret (.str y yk))) (put (kct w b N0 T0 X Y F ta nt xs nx hs nh tk tt fs N1 T1 m km N2 T2 p2 pk).led 3 (listO Y2.xs Y2.n))
theorem kdt' : (fun r => Lk r [(0, X.lx, lexO X), (1, X.dx, lexD w.params X Y.ln Y.tl), (2, X.sp, spotO w.params X.kp (.int Y.p Y.tp)), (4, F.L, (frHb w.params X F T2 (.str y yk) (.int p2 pk) (.bool true) fs)), (5, F.tb, listO ta nt), (6, F.q, listO xs nx), (7, F.hd, listO hs nh), (3, X.pb, listO Y2.xs Y2.n)] (callOf r.out = some (cB "list.pop" [.ref F.q, .int 0 (T3 + 1)])) (wtO r.out = 0)) (kdt w b N0 T0 X Y F ta nt xs nx hs nh tk tt fs N1 T1 m km N2 T2 p2 pk N3 T3 Y2 y yk) := by cases b <;> rcases fs with _ | ⟨a0, c0, pl, pt, wt, _ | ⟨k0, s0, t0⟩⟩ <;> rfl'
@[irreducible] noncomputable def ket : Res := resumeZ (VV w b N4 T4) 600 [2, 5, 3, 3, 3, 1] [⟨cB "str.__ne__" [.str y yk, .str y2 yk2], fun _ => .bool false, 0⟩] (kdt w b N0 T0 X Y F ta nt xs nx hs nh tk tt fs N1 T1 m km N2 T2 p2 pk N3 T3 Y2 y yk).out (.ok (.ret (.str y2 yk2))) (put (kdt w b N0 T0 X Y F ta nt xs nx hs nh tk tt fs N1 T1 m km N2 T2 p2 pk N3 T3 Y2 y yk).led 6 (listO x2 n2))
theorem ket' : (fun r => Lk r [(0, X.lx, lexO X), (1, X.dx, lexD w.params X Y.ln Y.tl), (2, X.sp, spotO w.params X.kp (.int Y.p Y.tp)), (4, F.L, (frHb w.params X F T2 (.str y yk) (.int p2 pk) (.bool true) fs)), (5, F.tb, listO ta nt), (6, F.q, listO x2 n2), (7, F.hd, listO hs nh), (3, X.pb, listO Y2.xs Y2.n)] (callOf r.out = some (cB "dict.__getitem__" [.ref X.sp, .str sPlace T4])) (wtO r.out = 0)) (ket w b N0 T0 X Y F ta nt xs nx hs nh tk tt fs N1 T1 m km N2 T2 p2 pk N3 T3 Y2 y yk N4 T4 x2 n2 y2 yk2) := by cases b <;> rcases fs with _ | ⟨a0, c0, pl, pt, wt, _ | ⟨k0, s0, t0⟩⟩ <;> rfl'
@[irreducible] noncomputable def kft : Res := resumeZ (VV w b N5 T5) 600 [5, 2, 0, 5, 0, 1] [⟨cB "int.__ne__" [.int p3 pk3, .int p2 pk], fun _ => .bool false, 0⟩] (ket w b N0 T0 X Y F ta nt xs nx hs nh tk tt fs N1 T1 m km N2 T2 p2 pk N3 T3 Y2 y yk N4 T4 x2 n2 y2 yk2).out (.ok (.ret (.int p3 pk3))) (ket w b N0 T0 X Y F ta nt xs nx hs nh tk tt fs N1 T1 m km N2 T2 p2 pk N3 T3 Y2 y yk N4 T4 x2 n2 y2 yk2).led
theorem kft' : (fun r => Lk r [(0, X.lx, lexO X), (1, X.dx, lexD w.params X Y.ln Y.tl), (2, X.sp, spotO w.params X.kp (.int Y.p Y.tp)), (4, F.L, (frHb w.params X F T2 (.str y yk) (.int p2 pk) (.bool true) fs)), (5, F.tb, listO ta nt), (6, F.q, listO x2 n2), (7, F.hd, listO hs nh), (3, X.pb, listO Y2.xs Y2.n)] (callOf r.out = some (.call (.ref 90) ⟨[.str y yk], []⟩)) (wtO r.out = 0)) (kft w b N0 T0 X Y F ta nt xs nx hs nh tk tt fs N1 T1 m km N2 T2 p2 pk N3 T3 Y2 y yk N4 T4 x2 n2 y2 yk2 N5 T5 p3 pk3) := by cases b <;> rcases fs with _ | ⟨a0, c0, pl, pt, wt, _ | ⟨k0, s0, t0⟩⟩ <;> rfl'
@[irreducible] noncomputable def kgt : Res := resumeZ (VV w b N6 T6) 600 [13, 13, 0, 13, 14, 1] [] (kft w b N0 T0 X Y F ta nt xs nx hs nh tk tt fs N1 T1 m km N2 T2 p2 pk N3 T3 Y2 y yk N4 T4 x2 n2 y2 yk2 N5 T5 p3 pk3).out (.ok (.ret (.ref D))) (snoc (kft w b N0 T0 X Y F ta nt xs nx hs nh tk tt fs N1 T1 m km N2 T2 p2 pk N3 T3 Y2 y yk N4 T4 x2 n2 y2 yk2 N5 T5 p3 pk3).led D (listO ys ny))
theorem kgt' : (fun r => Lk r [(0, X.lx, lexO X), (1, X.dx, lexD w.params X Y.ln Y.tl), (2, X.sp, spotO w.params X.kp (.int Y.p Y.tp)), (4, F.L, (frHb w.params X F T2 (.str y yk) (.int p2 pk) (.bool true) fs)), (5, F.tb, listO ta nt), (6, F.q, listO x2 n2), (7, F.hd, listO hs nh), (3, X.pb, listO Y2.xs Y2.n), (12, D, listO ys ny), (13, N6, litO (.ref D) 0)] (callOf r.out = some (codeH2 w.params F.L N6)) (wtO r.out = 0)) (kgt w b N0 T0 X Y F ta nt xs nx hs nh tk tt fs N1 T1 m km N2 T2 p2 pk N3 T3 Y2 y yk N4 T4 x2 n2 y2 yk2 N5 T5 p3 pk3 N6 T6 D ys ny) := by cases b <;> rcases fs with _ | ⟨a0, c0, pl, pt, wt, _ | ⟨k0, s0, t0⟩⟩ <;> rfl'
@[irreducible] noncomputable def kkt : Res := resumeZ (VV w b N7 T7) 100 [] [] (kgt w b N0 T0 X Y F ta nt xs nx hs nh tk tt fs N1 T1 m km N2 T2 p2 pk N3 T3 Y2 y yk N4 T4 x2 n2 y2 yk2 N5 T5 p3 pk3 N6 T6 D ys ny).out (.ok .next) []
theorem kkt' : (fun r => Lk r [] (finOf r.out = some (.again (codeH1 w.params F.L))) (True)) (kkt w b N0 T0 X Y F ta nt xs nx hs nh tk tt fs N1 T1 m km N2 T2 p2 pk N3 T3 Y2 y yk N4 T4 x2 n2 y2 yk2 N5 T5 p3 pk3 N6 T6 D ys ny N7 T7) := by cases b <;> rcases fs with _ | ⟨a0, c0, pl, pt, wt, _ | ⟨k0, s0, t0⟩⟩ <;> rfl'
@[irreducible] noncomputable def kbf : Res := resumeZ (VV w b N1 T1) 600 [2, 5, 3, 3, 3, 1] [⟨cB "int.__gt__" [.int (m : Int) km, .int 0 T1], fun _ => .bool false, 0⟩] (ka w b N0 T0 X Y F ta nt xs nx hs nh tk tt fs).out (.ok (.ret (.int (m : Int) km))) (ka w b N0 T0 X Y F ta nt xs nx hs nh tk tt fs).led
theorem kbf' : (fun r => Lk r [(0, X.lx, lexO X), (1, X.dx, lexD w.params X Y.ln Y.tl), (2, X.sp, spotO w.params X.kp (.int Y.p Y.tp)), (3, X.pb, listO Y.xs Y.n), (4, F.L, (frHa w.params X F (.str tk tt) fs)), (5, F.tb, listO ta nt), (6, F.q, listO xs nx), (7, F.hd, listO hs nh)] (callOf r.out = some (cB "dict.__getitem__" [.ref X.sp, .str sPlace (T1 + 1)])) (wtO r.out = 0)) (kbf w b N0 T0 X Y F ta nt xs nx hs nh tk tt fs N1 T1 m km) := by cases b <;> rcases fs with _ | ⟨a0, c0, pl, pt, wt, _ | ⟨k0, s0, t0⟩⟩ <;> rfl'
@[irreducible] noncomputable def kcf : Res := resumeZ (VV w b N2 T2) 600 [9, 9, 9, 0, 9, 10, 10, 0, 10, 10, 10, 9, 10, 10, 10, 0, 10, 10, 10, 9, 10, 10, 10, 0, 10, 10, 10, 9, 10, 10, 12, 5, 5, 5, 5, 5, 1, 0, 0, 0, 1, 0, 0, 0, 1, 0, 0, 0, 0, 1, 2, 0, 1] [] (kbf w b N0 T0 X Y F ta nt xs nx hs nh tk tt fs N1 T1 m km).out (.ok (.ret (.int p2 pk))) (kbf w b N0 T0 X Y F ta nt xs nx hs nh tk tt fs N1 T1 m km).led
theorem kcf' : (fun r => Lk r [(0, X.lx, lexO X), (1, X.dx, lexD w.params X Y.ln Y.tl), (2, X.sp, spotO w.params X.kp (.int Y.p Y.tp)), (3, X.pb, listO Y.xs Y.n), (4, F.L, (frHb w.params X F T2 (.str tk tt) (.int p2 pk) (.bool false) fs)), (5, F.tb, listO ta nt), (6, F.q, listO xs nx), (7, F.hd, listO hs nh)] (callOf r.out = some (.call (.ref 42) ⟨[.ref X.lx], []⟩)) (wtO r.out = 0)) (kcf w b N0 T0 X Y F ta nt xs nx hs nh tk tt fs N1 T1 m km N2 T2 p2 pk) := by cases b <;> rcases fs with _ | ⟨a0, c0, pl, pt, wt, _ | ⟨k0, s0, t0⟩⟩ <;> rfl'
@[irreducible] noncomputable def kdf : Res := resumeZ (VV w b N3 T3) 600 [5, 5, 5, 0, 5, 0, 1] [] (kcf w b N0 T0 X Y F ta nt xs nx hs nh tk tt fs N1 T1 m km N2 T2 p2 pk).out (.ok (.ret (.str y yk))) (put (put (kcf w b N0 T0 X Y F ta nt xs nx hs nh tk tt fs N1 T1 m km N2 T2 p2 pk).led 1 (lexD w.params X Y2.ln Y2.tl)) 2 (spotO w.params X.kp (.int Y2.p Y2.tp)))
theorem kdf' : (fun r => Lk r [(0, X.lx, lexO X), (1, X.dx, lexD w.params X Y2.ln Y2.tl), (2, X.sp, spotO w.params X.kp (.int Y2.p Y2.tp)), (4, F.L, (frHb w.params X F T2 (.str y yk) (.int p2 pk) (.bool false) fs)), (5, F.tb, listO ta nt), (6, F.q, listO xs nx), (7, F.hd, listO hs nh), (3, X.pb, listO Y.xs Y.n)] (callOf r.out = some (.call (.ref 90) ⟨[.str y yk], []⟩)) (wtO r.out = 0)) (kdf w b N0 T0 X Y F ta nt xs nx hs nh tk tt fs N1 T1 m km N2 T2 p2 pk N3 T3 Y2 y yk) := by cases b <;> rcases fs with _ | ⟨a0, c0, pl, pt, wt, _ | ⟨k0, s0, t0⟩⟩ <;> rfl'
@[irreducible] noncomputable def kgf : Res := resumeZ (VV w b N4 T4) 600 [13, 13, 0, 13, 14, 1] [] (kdf w b N0 T0 X Y F ta nt xs nx hs nh tk tt fs N1 T1 m km N2 T2 p2 pk N3 T3 Y2 y yk).out (.ok (.ret (.ref D))) (snoc (kdf w b N0 T0 X Y F ta nt xs nx hs nh tk tt fs N1 T1 m km N2 T2 p2 pk N3 T3 Y2 y yk).led D (listO ys ny))
theorem kgf' : (fun r => Lk r [(0, X.lx, lexO X), (1, X.dx, lexD w.params X Y2.ln Y2.tl), (2, X.sp, spotO w.params X.kp (.int Y2.p Y2.tp)), (4, F.L, (frHb w.params X F T2 (.str y yk) (.int p2 pk) (.bool false) fs)), (5, F.tb, listO ta nt), (6, F.q, listO xs nx), (7, F.hd, listO hs nh), (3, X.pb, listO Y.xs Y.n), (12, D, listO ys ny), (13, N4, litO (.ref D) 0)] (callOf r.out = some (codeH2 w.params F.L N4)) (wtO r.out = 0)) (kgf w b N0 T0 X Y F ta nt xs nx hs nh tk tt fs N1 T1 m km N2 T2 p2 pk N3 T3 Y2 y yk N4 T4 D ys ny) := by cases b <;> rcases fs with _ | ⟨a0, c0, pl, pt, wt, _ | ⟨k0, s0, t0⟩⟩ <;> rfl'
@[irreducible] noncomputable def kkf : Res := resumeZ (VV w b N5 T5) 100 [] [] (kgf w b N0 T0 X Y F ta nt xs nx hs nh tk tt fs N1 T1 m km N2 T2 p2 pk N3 T3 Y2 y yk N4 T4 D ys ny).out (.ok .next) []
theorem kkf' : (fun r => Lk r [] (finOf r.out = some (.again (codeH1 w.params F.L))) (True)) (kkf w b N0 T0 X Y F ta nt xs nx hs nh tk tt fs N1 T1 m km N2 T2 p2 pk N3 T3 Y2 y yk N4 T4 N5 T5 D ys ny) := by cases b <;> rcases fs with _ | ⟨a0, c0, pl, pt, wt, _ | ⟨k0, s0, t0⟩⟩ <;> rfl'
end
noncomputable abbrev WE (w : World) (X : LX) (F : HF) (tab : List (Str × Nat)) (nt : Nat) (qs : List (Str × Nat)) (nx : Nat) (hs : List (Str × Nat)) (nh : Nat) (tk : Str) (tt : Nat) (fs : WS) : Led :=
  [(F.L, frHa w.params X F (.str tk tt) fs), (F.tb, listO (sA tab) nt), (F.q, listO (sA qs) nx), (F.hd, listO (sA hs) nh)]
noncomputable abbrev carries (tab : List (Str × Nat)) (ws : List Str) (hs : List Str) (qs : List (Str × Nat)) : List Str × List (Str × Nat) := ws.foldl (carry tab) (hs, qs)
inductive Hld (tab : List (Str × Nat)) : List Nat → List Str → List (Str × Nat) → List Str → Nat → Prop
  | fin {hs : List Str} : hs.length ≤ sizeLine → Hld tab [] hs [] hs 0
  | wait {l : List Nat} {hs hs' : List Str} {y : Str} {yk : Nat} {qs : List (Str × Nat)} {nl : Nat} : (y.length == 0) = false → (∀ s ∈ wordsIn y, s ∈ names.take 11) → 3 * y.length + 4 ≤ sizeLine → hs.length + qs.length + 2 * (wordsIn y).length < sizeLine → Hld tab l (carries tab (wordsIn y) hs qs).1 (carries tab (wordsIn y) hs qs).2 hs' nl → Hld tab l hs ((y, yk) :: qs) hs' nl
  | read {l tok more : List Nat} {hs hs' : List Str} {nl nl' : Nat} : Tk l tok more nl → (∀ s ∈ wordsIn (toS tok), s ∈ names.take 11) → hs.length + 2 * (wordsIn (toS tok)).length ≤ sizeLine → Hld tab more (carries tab (wordsIn (toS tok)) hs []).1 (carries tab (wordsIn (toS tok)) hs []).2 hs' nl' → Hld tab l hs [] hs' (nl + nl')
theorem fold_fst (tab m : List (Str × Nat)) (st : List Str × List (Str × Nat)) : m.foldl (fun st p => carry tab st p.1) st = (m.map (·.1)).foldl (carry tab) st := by
  rw [List.foldl_map]
theorem carries_nodup (tab : List (Str × Nat)) : ∀ (ws : List Str) (hs : List Str) (qs : List (Str × Nat)), hs.Nodup → (carries tab ws hs qs).1.Nodup
  | [], _, _, h => h
  | s :: ws, hs, qs, h => carries_nodup tab ws _ _ (carry_nodup (tab := tab) (st := (hs, qs)) h)
theorem Tk.pos {l tok more : List Nat} {nl : Nat} (h : Tk l tok more nl) : ((toS tok).length == 0) = false := by
  cases h <;> simp [Str.length]
theorem exitH {w : World} {b : Bool} (hb : w.params.followText "special-get-raises" = b) (X : LX) (F : HF) (tab : List (Str × Nat)) (nt : Nat) (Y : LS) (qs : List (Str × Nat)) (nx : Nat) (hs : List (Str × Nat)) (nh : Nat) (tk : Str) (tt : Nat) (fs : WS) (htk : tk = ⟨#[]⟩) :
    CtrF w 6 (codeH1 w.params F.L) (LA w X Y (WE w X F tab nt qs nx hs nh tk tt fs)) (fun h f h' => f = .next ∧ Kp [] h h') := by
  rintro A R ⟨h0, g, d, T, ost⟩ hA hd S L H
  obtain ⟨N, hN⟩ : ∃ N, h0.objs.size = N := ⟨_, rfl⟩
  have ha := L.haQ
  refine code_fin (L.curQ S) hb hA hN _ (kx.eq_1 w b N T X Y F (sA tab) nt (sA qs) nx (sA hs) nh tk tt fs) ?_ (kx' ..).s (kx' ..).o fun h1 N1 T1 hN1 C1 => ?_
  · exact mC (oStrNe (by rw [htk]; rfl)) mN
  exact H _ _ _ ⟨rfl, by
    refine C1.fin ha ?_
    exact mC (.inr (C1.at' ((kx' ..).g 0 rfl))) (mC (.inr (C1.at' ((kx' ..).g 1 rfl))) (mC (.inr (C1.at' ((kx' ..).g 2 rfl))) (mC (.inr (C1.at' ((kx' ..).g 3 rfl))) (mC (.inr (C1.at' ((kx' ..).g 4 rfl))) (mC (.inr (C1.at' ((kx' ..).g 5 rfl))) (mC (.inr (C1.at' ((kx' ..).g 6 rfl))) (mC (.inr (C1.at' ((kx' ..).g 7 rfl))) mN)))))))⟩
theorem ne_empty {x : Str} (h : (x.length == 0) = false) : (x.cps.toList != (⟨#[]⟩ : Str).cps.toList) = true := by
  rw [bne_iff_ne]
  intro e
  have : x.cps.size = 0 := by rw [← Array.length_toList, e]; rfl
  have : x.length = 0 := this
  rw [this] at h
  cases h
theorem turnWait {w : World} {b : Bool} (hb : w.params.followText "special-get-raises" = b) {X : LX} {F : HF} {tab : List (Str × Nat)} {nt : Nat} (htab : tab.map (·.1) = names) (hl : 2 ≤ X.text.length) (hsz : 4 * X.text.length + 10 ≤ sizeLine) {Y : LS} {nx : Nat} {hs : List (Str × Nat)} {nh : Nat} {tk : Str} {tt : Nat} {fs : WS} (htk : (tk.length == 0) = false) (hnd : (hs.map (·.1)).Nodup) {A : Around} {R : Result → Shared → Prop} {h0 : Heap} {g : Array GenState} {d : Drawn} {T : Nat} {ost : OsState} (hA : A.handled = none) (hd : A.depth + 6 < recursionLimit) (S : Sta w h0) {y : Str} {yk : Nat} {qs : List (Str × Nat)} (hxs : Y.xs = ⟨.str y yk :: qs.map sv⟩) (hw : ∀ s ∈ wordsIn y, s ∈ names.take 11) (h3w : 3 * y.length + 4 ≤ sizeLine) (hq : hs.length + qs.length + 2 * (wordsIn y).length < sizeLine) (L : LA w X Y (WE w X F tab nt ((y, yk) :: qs) nx hs nh tk tt fs) h0)
    (H : ∀ h' T' hs' nx' nh' n' yk' fs', Kp [X.dx, X.sp, X.pb, F.L, F.q, F.hd] h0 h' → Sta w h' → hs'.map (·.1) = (carries tab (wordsIn y) (hs.map (·.1)) qs).1 → LA w X { Y with xs := sA (carries tab (wordsIn y) (hs.map (·.1)) qs).2, n := n' } (WE w X F tab nt (carries tab (wordsIn y) (hs.map (·.1)) qs).2 nx' hs' nh' y yk' fs') h' → codeAny (model pg w) A (codeH1 w.params F.L) R ⟨h', g, d, T', ost⟩) : codeAny (model pg w) A (codeH1 w.params F.L) R ⟨h0, g, d, T, ost⟩ := by
  obtain ⟨N, hN⟩ : ∃ N, h0.objs.size = N := ⟨_, rfl⟩
  have ha := L.haQ
  have C0 := L.curQ S
  refine code_call C0 hb hA hN _ (ka.eq_1 w b N T X Y F (sA tab) nt (sA ((y, yk) :: qs)) nx (sA hs) nh tk tt fs) ?_ (ka' ..).s (ka' ..).o fun h1 N1 T1 hN1 C1 => ?_
  · exact mC (oStrNe (ne_empty htk)) mN
  refine cLen (C1.at' ((ka' ..).g 6 rfl)) (by simp; try omega) ?_
  refine res_call C1 hb hA hN1 _ (kbt.eq_1 w b N T X Y F (sA tab) nt (sA ((y, yk) :: qs)) nx (sA hs) nh tk tt fs N1 (T1 + 1 + 1) (sA ((y, yk) :: qs)).size (T1 + 1)) ?_ (kbt' ..).s (kbt' ..).o fun h2 N2 T2 hN2 C2 => ?_
  · exact mC (oIntGt (by simp; try omega)) mN
  refine cGet (C2.at' ((kbt' ..).g 2 rfl)) fun T2' => ?_
  refine res_call C2 hb hA hN2 _ (kct.eq_1 w b N T X Y F (sA tab) nt (sA ((y, yk) :: qs)) nx (sA hs) nh tk tt fs N1 (T1 + 1 + 1) (sA ((y, yk) :: qs)).size (T1 + 1) N2 T2' (Y.p : Int) Y.tp) no_orc (kct' ..).s (kct' ..).o fun h3 N3 T3 hN3 C3 => ?_
  have K3 : Kp [F.L] h0 h3 := by
    refine C3.fin ha ?_
    exact mC (.inr (C3.at' ((kct' ..).g 0 rfl))) (mC (.inr (C3.at' ((kct' ..).g 1 rfl))) (mC (.inr (C3.at' ((kct' ..).g 2 rfl))) (mC (.inr (C3.at' ((kct' ..).g 3 rfl))) (mC (.inl (by ac_rfl)) (mC (.inr (C3.at' ((kct' ..).g 5 rfl))) (mC (.inr (C3.at' ((kct' ..).g 6 rfl))) (mC (.inr (C3.at' ((kct' ..).g 7 rfl))) mN)))))))
  have L3 : LexAt w X Y h3 := L.keep K3 (by ac_rfl)
  refine get_wait (vs := qs.map sv) hxs (by simp; omega) _ _ _ (aroO_handled hA _) (by first | exact room hd (kct' ..).e rfl | (rw [aroO_depth, (kct' ..).e]; omega)) C3.sta L3 fun v h4 T4 hPP => ?_
  obtain ⟨hv, K4, n4, L4⟩ := hPP
  subst hv
  generalize hY2 : ({ Y with xs := ⟨qs.map sv⟩, n := n4 } : LS) = Y2 at L4
  have C4 := C3.put1 ((kct' ..).g 3 rfl) K4 L4.pb
  refine res_call C4 hb hA rfl _ (kdt.eq_1 w b N T X Y F (sA tab) nt (sA ((y, yk) :: qs)) nx (sA hs) nh tk tt fs N1 (T1 + 1 + 1) (sA ((y, yk) :: qs)).size (T1 + 1) N2 T2' (Y.p : Int) Y.tp h4.objs.size T4 Y2 y yk) no_orc (kdt' ..).s (kdt' ..).o fun h5 N5 T5 hN5 C5 => ?_
  refine cPop (C5.at' ((kdt' ..).g 5 rfl)) (by simp; omega) fun h6 n6 K6 e6 => ?_
  have C6 := C5.put1 ((kdt' ..).g 5 rfl) K6 e6
  refine res_call C6 hb hA rfl _ (ket.eq_1 w b N T X Y F (sA tab) nt (sA ((y, yk) :: qs)) nx (sA hs) nh tk tt fs N1 (T1 + 1 + 1) (sA ((y, yk) :: qs)).size (T1 + 1) N2 T2' (Y.p : Int) Y.tp h4.objs.size T4 Y2 y yk h6.objs.size T5 (sA qs) n6 y yk) ?_ (ket' ..).s (ket' ..).o fun h7 N7 T7 hN7 C7 => ?_
  · exact mC (oStrNe (by ac_rfl)) mN
  refine cGet (C7.at' ((ket' ..).g 2 rfl)) fun T7' => ?_
  refine res_call C7 hb hA hN7 _ (kft.eq_1 w b N T X Y F (sA tab) nt (sA ((y, yk) :: qs)) nx (sA hs) nh tk tt fs N1 (T1 + 1 + 1) (sA ((y, yk) :: qs)).size (T1 + 1) N2 T2' (Y.p : Int) Y.tp h4.objs.size T4 Y2 y yk h6.objs.size T5 (sA qs) n6 y yk N7 T7' (Y.p : Int) Y.tp) ?_ (kft' ..).s (kft' ..).o fun h8 N8 T8 hN8 C8 => ?_
  · exact mC (oIntNe (by ac_rfl)) mN
  refine words_ok y yk h3w _ _ _ (aroO_handled hA _) (by first | exact room hd (kft' ..).e rfl | (rw [aroO_depth, (kft' ..).e]; omega)) C8.sta trivial fun v h9 T9 hPP => ?_
  obtain ⟨D, m, nm, hv, hDn, hD, hm, hoff, K9⟩ := hPP
  subst hv
  have C9 := (C8.same K9).join hD (fun hx => by
    obtain ⟨q, hq, e⟩ := List.mem_map.mp hx
    have := Heap.lt_size (C8.at_ q hq)
    rw [e] at this
    exact absurd this (Nat.not_lt.mpr hDn)) hoff (.inr (Nat.le_trans C8.kp.1 hDn))
  refine res_call C9 hb hA rfl _ (kgt.eq_1 w b N T X Y F (sA tab) nt (sA ((y, yk) :: qs)) nx (sA hs) nh tk tt fs N1 (T1 + 1 + 1) (sA ((y, yk) :: qs)).size (T1 + 1) N2 T2' (Y.p : Int) Y.tp h4.objs.size T4 Y2 y yk h6.objs.size T5 (sA qs) n6 y yk N7 T7' (Y.p : Int) Y.tp h9.objs.size T9 D (sA m) nm) no_orc (kgt' ..).s (kgt' ..).o fun h10 N10 T10 hN10 C10 => ?_
  have K10 : Kp (X.dx :: X.sp :: X.pb :: [F.L, F.tb, F.q, F.hd]) h0 h10 := by
    refine C10.fin ha ?_
    exact mC (.inr (C10.at' ((kgt' ..).g 0 rfl))) (mC (.inl (by ac_rfl)) (mC (.inl (by ac_rfl)) (mC (.inl (by ac_rfl)) (mC (.inl (by ac_rfl)) (mC (.inl (by ac_rfl)) (mC (.inl (by ac_rfl)) (mC (.inl (by ac_rfl)) mN)))))))
  have K10' : Kp [X.dx, X.sp, X.pb, F.L, F.q, F.hd] h0 h10 := by
    refine C10.fin ha ?_
    exact mC (.inr (C10.at' ((kgt' ..).g 0 rfl))) (mC (.inl (by ac_rfl)) (mC (.inl (by ac_rfl)) (mC (.inl (by ac_rfl)) (mC (.inl (by ac_rfl)) (mC (.inr (C10.at' ((kgt' ..).g 4 rfl))) (mC (.inl (by ac_rfl)) (mC (.inl (by ac_rfl)) mN)))))))
  have LL : LexAt w X Y2 h10 := by
    refine L.turnQ (Y' := Y2) K10 ?_ ?_ ?_
    · exact (C10.at' ((kgt' ..).g 1 rfl)).trans (by rw [← hY2])
    · exact (C10.at' ((kgt' ..).g 2 rfl)).trans (by rw [← hY2])
    · exact C10.at' ((kgt' ..).g 7 rfl)
  have b9 : h0.objs.size ≤ h9.objs.size := C9.kp.1
  have bD : h0.objs.size ≤ D := Nat.le_trans C8.kp.1 hDn
  have A10 : LA w X Y2 (JE w X { F with k7 := wsA fs T2', k8 := wsC fs T2' } h9.objs.size D 0 m nm tab nt qs n6 hs nh y yk (Y.p : Int) Y.tp true (wsW fs)) h10 := by
    refine L.next LL ?_ ?_ ?_ ?_
    · exact mC ((C10.at' ((kgt' ..).g 3 rfl)).trans (congrArg some (frHb_is ..))) (mC (C10.at' ((kgt' ..).g 4 rfl)) (mC (C10.at' ((kgt' ..).g 5 rfl)) (mC (C10.at' ((kgt' ..).g 6 rfl)) (mC (C10.at' ((kgt' ..).g 9 rfl)) (mC (C10.at' ((kgt' ..).g 8 rfl)) mN)))))
    · exact mC (.inl (by ac_rfl)) (mC (.inl (by ac_rfl)) (mC (.inl (by ac_rfl)) (mC (.inl (by ac_rfl)) (mC (.inr b9) (mC (.inr bD) mN)))))
    · show [F.L, F.tb, F.q, F.hd, h9.objs.size, D].Nodup
      simp only [List.nodup_cons, List.mem_cons, nmn, or_false, not_or]
      exact ⟨⟨pick_ne C10.nd (by decide) ((kgt' w b N T X Y F (sA tab) nt (sA ((y, yk) :: qs)) nx (sA hs) nh tk tt fs N1 (T1 + 1 + 1) (sA ((y, yk) :: qs)).size (T1 + 1) N2 T2' (Y.p : Int) Y.tp h4.objs.size T4 Y2 y yk h6.objs.size T5 (sA qs) n6 y yk N7 T7' (Y.p : Int) Y.tp h9.objs.size T9 D (sA m) nm).g 3 rfl) ((kgt' ..).g 4 rfl), pick_ne C10.nd (by decide) ((kgt' w b N T X Y F (sA tab) nt (sA ((y, yk) :: qs)) nx (sA hs) nh tk tt fs N1 (T1 + 1 + 1) (sA ((y, yk) :: qs)).size (T1 + 1) N2 T2' (Y.p : Int) Y.tp h4.objs.size T4 Y2 y yk h6.objs.size T5 (sA qs) n6 y yk N7 T7' (Y.p : Int) Y.tp h9.objs.size T9 D (sA m) nm).g 3 rfl) ((kgt' ..).g 5 rfl), pick_ne C10.nd (by decide) ((kgt' w b N T X Y F (sA tab) nt (sA ((y, yk) :: qs)) nx (sA hs) nh tk tt fs N1 (T1 + 1 + 1) (sA ((y, yk) :: qs)).size (T1 + 1) N2 T2' (Y.p : Int) Y.tp h4.objs.size T4 Y2 y yk h6.objs.size T5 (sA qs) n6 y yk N7 T7' (Y.p : Int) Y.tp h9.objs.size T9 D (sA m) nm).g 3 rfl) ((kgt' ..).g 6 rfl), pick_ne C10.nd (by decide) ((kgt' w b N T X Y F (sA tab) nt (sA ((y, yk) :: qs)) nx (sA hs) nh tk tt fs N1 (T1 + 1 + 1) (sA ((y, yk) :: qs)).size (T1 + 1) N2 T2' (Y.p : Int) Y.tp h4.objs.size T4 Y2 y yk h6.objs.size T5 (sA qs) n6 y yk N7 T7' (Y.p : Int) Y.tp h9.objs.size T9 D (sA m) nm).g 3 rfl) ((kgt' ..).g 9 rfl), pick_ne C10.nd (by decide) ((kgt' w b N T X Y F (sA tab) nt (sA ((y, yk) :: qs)) nx (sA hs) nh tk tt fs N1 (T1 + 1 + 1) (sA ((y, yk) :: qs)).size (T1 + 1) N2 T2' (Y.p : Int) Y.tp h4.objs.size T4 Y2 y yk h6.objs.size T5 (sA qs) n6 y yk N7 T7' (Y.p : Int) Y.tp h9.objs.size T9 D (sA m) nm).g 3 rfl) ((kgt' ..).g 8 rfl)⟩, ⟨pick_ne C10.nd (by decide) ((kgt' w b N T X Y F (sA tab) nt (sA ((y, yk) :: qs)) nx (sA hs) nh tk tt fs N1 (T1 + 1 + 1) (sA ((y, yk) :: qs)).size (T1 + 1) N2 T2' (Y.p : Int) Y.tp h4.objs.size T4 Y2 y yk h6.objs.size T5 (sA qs) n6 y yk N7 T7' (Y.p : Int) Y.tp h9.objs.size T9 D (sA m) nm).g 4 rfl) ((kgt' ..).g 5 rfl), pick_ne C10.nd (by decide) ((kgt' w b N T X Y F (sA tab) nt (sA ((y, yk) :: qs)) nx (sA hs) nh tk tt fs N1 (T1 + 1 + 1) (sA ((y, yk) :: qs)).size (T1 + 1) N2 T2' (Y.p : Int) Y.tp h4.objs.size T4 Y2 y yk h6.objs.size T5 (sA qs) n6 y yk N7 T7' (Y.p : Int) Y.tp h9.objs.size T9 D (sA m) nm).g 4 rfl) ((kgt' ..).g 6 rfl), pick_ne C10.nd (by decide) ((kgt' w b N T X Y F (sA tab) nt (sA ((y, yk) :: qs)) nx (sA hs) nh tk tt fs N1 (T1 + 1 + 1) (sA ((y, yk) :: qs)).size (T1 + 1) N2 T2' (Y.p : Int) Y.tp h4.objs.size T4 Y2 y yk h6.objs.size T5 (sA qs) n6 y yk N7 T7' (Y.p : Int) Y.tp h9.objs.size T9 D (sA m) nm).g 4 rfl) ((kgt' ..).g 9 rfl), pick_ne C10.nd (by decide) ((kgt' w b N T X Y F (sA tab) nt (sA ((y, yk) :: qs)) nx (sA hs) nh tk tt fs N1 (T1 + 1 + 1) (sA ((y, yk) :: qs)).size (T1 + 1) N2 T2' (Y.p : Int) Y.tp h4.objs.size T4 Y2 y yk h6.objs.size T5 (sA qs) n6 y yk N7 T7' (Y.p : Int) Y.tp h9.objs.size T9 D (sA m) nm).g 4 rfl) ((kgt' ..).g 8 rfl)⟩, ⟨pick_ne C10.nd (by decide) ((kgt' w b N T X Y F (sA tab) nt (sA ((y, yk) :: qs)) nx (sA hs) nh tk tt fs N1 (T1 + 1 + 1) (sA ((y, yk) :: qs)).size (T1 + 1) N2 T2' (Y.p : Int) Y.tp h4.objs.size T4 Y2 y yk h6.objs.size T5 (sA qs) n6 y yk N7 T7' (Y.p : Int) Y.tp h9.objs.size T9 D (sA m) nm).g 5 rfl) ((kgt' ..).g 6 rfl), pick_ne C10.nd (by decide) ((kgt' w b N T X Y F (sA tab) nt (sA ((y, yk) :: qs)) nx (sA hs) nh tk tt fs N1 (T1 + 1 + 1) (sA ((y, yk) :: qs)).size (T1 + 1) N2 T2' (Y.p : Int) Y.tp h4.objs.size T4 Y2 y yk h6.objs.size T5 (sA qs) n6 y yk N7 T7' (Y.p : Int) Y.tp h9.objs.size T9 D (sA m) nm).g 5 rfl) ((kgt' ..).g 9 rfl), pick_ne C10.nd (by decide) ((kgt' w b N T X Y F (sA tab) nt (sA ((y, yk) :: qs)) nx (sA hs) nh tk tt fs N1 (T1 + 1 + 1) (sA ((y, yk) :: qs)).size (T1 + 1) N2 T2' (Y.p : Int) Y.tp h4.objs.size T4 Y2 y yk h6.objs.size T5 (sA qs) n6 y yk N7 T7' (Y.p : Int) Y.tp h9.objs.size T9 D (sA m) nm).g 5 rfl) ((kgt' ..).g 8 rfl)⟩, ⟨pick_ne C10.nd (by decide) ((kgt' w b N T X Y F (sA tab) nt (sA ((y, yk) :: qs)) nx (sA hs) nh tk tt fs N1 (T1 + 1 + 1) (sA ((y, yk) :: qs)).size (T1 + 1) N2 T2' (Y.p : Int) Y.tp h4.objs.size T4 Y2 y yk h6.objs.size T5 (sA qs) n6 y yk N7 T7' (Y.p : Int) Y.tp h9.objs.size T9 D (sA m) nm).g 6 rfl) ((kgt' ..).g 9 rfl), pick_ne C10.nd (by decide) ((kgt' w b N T X Y F (sA tab) nt (sA ((y, yk) :: qs)) nx (sA hs) nh tk tt fs N1 (T1 + 1 + 1) (sA ((y, yk) :: qs)).size (T1 + 1) N2 T2' (Y.p : Int) Y.tp h4.objs.size T4 Y2 y yk h6.objs.size T5 (sA qs) n6 y yk N7 T7' (Y.p : Int) Y.tp h9.objs.size T9 D (sA m) nm).g 6 rfl) ((kgt' ..).g 8 rfl)⟩, pick_ne C10.nd (by decide) ((kgt' w b N T X Y F (sA tab) nt (sA ((y, yk) :: qs)) nx (sA hs) nh tk tt fs N1 (T1 + 1 + 1) (sA ((y, yk) :: qs)).size (T1 + 1) N2 T2' (Y.p : Int) Y.tp h4.objs.size T4 Y2 y yk h6.objs.size T5 (sA qs) n6 y yk N7 T7' (Y.p : Int) Y.tp h9.objs.size T9 D (sA m) nm).g 9 rfl) ((kgt' ..).g 8 rfl), fun h => h.elim, List.nodup_nil⟩
    · exact mC (C10.off' ((kgt' ..).g 3 rfl)) (mC (C10.off' ((kgt' ..).g 4 rfl)) (mC (C10.off' ((kgt' ..).g 5 rfl)) (mC (C10.off' ((kgt' ..).g 6 rfl)) (mC (C10.off' ((kgt' ..).g 9 rfl)) (mC (C10.off' ((kgt' ..).g 8 rfl)) mN)))))
  have hml : m.length = (wordsIn y).length := by rw [← hm, List.length_map]
  have hm0 : True := trivial
  refine loopH hb X { F with k7 := wsA fs T2', k8 := wsC fs T2' } h9.objs.size D m nm tab nt y yk (Y.p : Int) Y.tp true htab m 0 Y2 qs n6 hs nh (wsW fs) (by ac_rfl) (fun p hp => hw p.1 (by rw [← hm]; exact List.mem_map_of_mem hp)) (by rw [← hY2]) hnd (by rw [hml]; omega) _ _ _ (aroO_handled hA _) (by first | exact room hd (kgt' ..).e rfl | (rw [aroO_depth, (kgt' ..).e]; omega)) C10.sta A10 fun f h11 T11 hPP => ?_
  obtain ⟨hf, K11, nx11, nh11, n11, hs11, wd11, Q1, Q2, Q3, Q4, Q5⟩ := hPP
  subst hf
  rw [fold_fst, hm] at Q1 Q2 Q3
  have S11 : Sta w h11 := C10.sta.kp K11 (by
    exact mC (L.lex.off _ (by ac_rfl)) (mC (C10.off' ((kgt' ..).g 3 rfl)) (mC (C10.off' ((kgt' ..).g 5 rfl)) (mC (C10.off' ((kgt' ..).g 6 rfl)) (mC (C10.off' ((kgt' ..).g 9 rfl)) mN)))))
  refine res_fin (Cur.nil S11) hb hA rfl _ (kkt.eq_1 w b N T X Y F (sA tab) nt (sA ((y, yk) :: qs)) nx (sA hs) nh tk tt fs N1 (T1 + 1 + 1) (sA ((y, yk) :: qs)).size (T1 + 1) N2 T2' (Y.p : Int) Y.tp h4.objs.size T4 Y2 y yk h6.objs.size T5 (sA qs) n6 y yk N7 T7' (Y.p : Int) Y.tp h9.objs.size T9 D (sA m) nm h11.objs.size T11) no_orc (kkt' ..).s (kkt' ..).o fun h12 N12 T12 hN12 C12 => ?_
  refine ⟨rfl, ?_⟩
  have K1112 := K11.trans C12.kp fun a ha => nomatch ha
  have ntb : F.tb ∉ [X.pb, F.L, F.q, F.hd, h9.objs.size] := by
    simp only [List.mem_cons, nmn, or_false, not_or]
    exact ⟨nd_ne L.nd 11 2 rfl rfl (by decide), nd_ne L.nd 11 10 rfl rfl (by decide), nd_ne L.nd 11 12 rfl rfl (by decide), nd_ne L.nd 11 13 rfl rfl (by decide), pick_ne C10.nd (by decide) ((kgt' w b N T X Y F (sA tab) nt (sA ((y, yk) :: qs)) nx (sA hs) nh tk tt fs N1 (T1 + 1 + 1) (sA ((y, yk) :: qs)).size (T1 + 1) N2 T2' (Y.p : Int) Y.tp h4.objs.size T4 Y2 y yk h6.objs.size T5 (sA qs) n6 y yk N7 T7' (Y.p : Int) Y.tp h9.objs.size T9 D (sA m) nm).g 4 rfl) ((kgt' ..).g 9 rfl)⟩
  have A12 := L.set (E' := WE w X F tab nt (carries tab (wordsIn y) (hs.map (·.1)) qs).2 nx11 hs11 nh11 y yk (some (wsA fs T2', wsC fs T2', (Y.p : Int), Y.tp, true, wd11))) (Q2.same C12.kp) rfl (by
    exact mC (C12.kp.get Q5 (fun h => nomatch h)) (mC (K1112.get (C10.at' ((kgt' ..).g 4 rfl)) ntb) (mC (C12.kp.get Q3 (fun h => nomatch h)) (mC (C12.kp.get Q4 (fun h => nomatch h)) mN))))
  have K12 : Kp [X.dx, X.sp, X.pb, F.L, F.q, F.hd] h0 h12 := K10'.trans K1112 (by
    exact mC (.inl (by ac_rfl)) (mC (.inl (by ac_rfl)) (mC (.inl (by ac_rfl)) (mC (.inl (by ac_rfl)) (mC (.inr b9) mN)))))
  rw [← hY2] at A12
  exact H h12 T12 _ _ _ _ yk (some (wsA fs T2', wsC fs T2', (Y.p : Int), Y.tp, true, wd11)) K12 C12.sta Q1 A12
theorem turnRead {w : World} {b : Bool} (hb : w.params.followText "special-get-raises" = b) {X : LX} {F : HF} {tab : List (Str × Nat)} {nt : Nat} (htab : tab.map (·.1) = names) (hl : 2 ≤ X.text.length) (hsz : 4 * X.text.length + 10 ≤ sizeLine) {Y : LS} {nx : Nat} {hs : List (Str × Nat)} {nh : Nat} {tk : Str} {tt : Nat} {fs : WS} (htk : (tk.length == 0) = false) (hnd : (hs.map (·.1)).Nodup) {A : Around} {R : Result → Shared → Prop} {h0 : Heap} {g : Array GenState} {d : Drawn} {T : Nat} {ost : OsState} (hA : A.handled = none) (hd : A.depth + 6 < recursionLimit) (S : Sta w h0) {l tok more : List Nat} {nl : Nat} (htok : Tk l tok more nl) (hrest : X.rest Y.p = l) (hp : Y.p ≤ X.text.length) (hxs : Y.xs = #[]) (hw : ∀ s ∈ wordsIn (toS tok), s ∈ names.take 11) (h3w : 3 * (toS tok).length + 4 ≤ sizeLine) (hq : hs.length + 2 * (wordsIn (toS tok)).length ≤ sizeLine) (L : LA w X Y (WE w X F tab nt [] nx hs nh tk tt fs) h0)
    (H : ∀ h' T' hs' nx' nh' n' yk' fs' p' tl' tp', X.rest p' = more → p' ≤ X.text.length → Kp [X.dx, X.sp, X.pb, F.L, F.q, F.hd] h0 h' → Sta w h' → hs'.map (·.1) = (carries tab (wordsIn (toS tok)) (hs.map (·.1)) []).1 → LA w X { Y with ln := Y.ln + nl, tl := tl', p := p', tp := tp', xs := sA (carries tab (wordsIn (toS tok)) (hs.map (·.1)) []).2, n := n' } (WE w X F tab nt (carries tab (wordsIn (toS tok)) (hs.map (·.1)) []).2 nx' hs' nh' (toS tok) yk' fs') h' → codeAny (model pg w) A (codeH1 w.params F.L) R ⟨h', g, d, T', ost⟩) : codeAny (model pg w) A (codeH1 w.params F.L) R ⟨h0, g, d, T, ost⟩ := by
  obtain ⟨N, hN⟩ : ∃ N, h0.objs.size = N := ⟨_, rfl⟩
  have ha := L.haQ
  have C0 := L.curQ S
  refine code_call C0 hb hA hN _ (ka.eq_1 w b N T X Y F (sA tab) nt (sA []) nx (sA hs) nh tk tt fs) ?_ (ka' ..).s (ka' ..).o fun h1 N1 T1 hN1 C1 => ?_
  · exact mC (oStrNe (ne_empty htk)) mN
  refine cLen (C1.at' ((ka' ..).g 6 rfl)) (by simp; try omega) ?_
  refine res_call C1 hb hA hN1 _ (kbf.eq_1 w b N T X Y F (sA tab) nt (sA []) nx (sA hs) nh tk tt fs N1 (T1 + 1 + 1) (sA []).size (T1 + 1)) ?_ (kbf' ..).s (kbf' ..).o fun h2 N2 T2 hN2 C2 => ?_
  · exact mC (oIntGt (by ac_rfl)) mN
  refine cGet (C2.at' ((kbf' ..).g 2 rfl)) fun T2' => ?_
  refine res_call C2 hb hA hN2 _ (kcf.eq_1 w b N T X Y F (sA tab) nt (sA []) nx (sA hs) nh tk tt fs N1 (T1 + 1 + 1) (sA []).size (T1 + 1) N2 T2' (Y.p : Int) Y.tp) no_orc (kcf' ..).s (kcf' ..).o fun h3 N3 T3 hN3 C3 => ?_
  have K3 : Kp [F.L] h0 h3 := by
    refine C3.fin ha ?_
    exact mC (.inr (C3.at' ((kcf' ..).g 0 rfl))) (mC (.inr (C3.at' ((kcf' ..).g 1 rfl))) (mC (.inr (C3.at' ((kcf' ..).g 2 rfl))) (mC (.inr (C3.at' ((kcf' ..).g 3 rfl))) (mC (.inl (by ac_rfl)) (mC (.inr (C3.at' ((kcf' ..).g 5 rfl))) (mC (.inr (C3.at' ((kcf' ..).g 6 rfl))) (mC (.inr (C3.at' ((kcf' ..).g 7 rfl))) mN)))))))
  have L3 : LexAt w X Y h3 := L.keep K3 (by ac_rfl)
  refine get_ok hl (by omega) hrest hp htok hxs _ _ _ (aroO_handled hA _) (by first | exact room hd (kcf' ..).e rfl | (rw [aroO_depth, (kcf' ..).e]; omega)) C3.sta L3 fun v h4 T4 hPP => ?_
  obtain ⟨⟨yk, hv⟩, K4, p', tl', tp', r1, r2, L4⟩ := hPP
  subst hv
  generalize hY2 : ({ Y with ln := Y.ln + nl, tl := tl', p := p', tp := tp' } : LS) = Y2 at L4
  have C4 := C3.chg2 (by decide) ((kcf' ..).g 1 rfl) ((kcf' ..).g 2 rfl) K4 L4.dx L4.sp
  refine res_call C4 hb hA rfl _ (kdf.eq_1 w b N T X Y F (sA tab) nt (sA []) nx (sA hs) nh tk tt fs N1 (T1 + 1 + 1) (sA []).size (T1 + 1) N2 T2' (Y.p : Int) Y.tp h4.objs.size T4 Y2 (toS tok) yk) no_orc (kdf' ..).s (kdf' ..).o fun h8 N8 T8 hN8 C8 => ?_
  refine words_ok (toS tok) yk h3w _ _ _ (aroO_handled hA _) (by first | exact room hd (kdf' ..).e rfl | (rw [aroO_depth, (kdf' ..).e]; omega)) C8.sta trivial fun v h9 T9 hPP => ?_
  obtain ⟨D, m, nm, hv, hDn, hD, hm, hoff, K9⟩ := hPP
  subst hv
  have C9 := (C8.same K9).join hD (fun hx => by
    obtain ⟨q, hq, e⟩ := List.mem_map.mp hx
    have := Heap.lt_size (C8.at_ q hq)
    rw [e] at this
    exact absurd this (Nat.not_lt.mpr hDn)) hoff (.inr (Nat.le_trans C8.kp.1 hDn))
  refine res_call C9 hb hA rfl _ (kgf.eq_1 w b N T X Y F (sA tab) nt (sA []) nx (sA hs) nh tk tt fs N1 (T1 + 1 + 1) (sA []).size (T1 + 1) N2 T2' (Y.p : Int) Y.tp h4.objs.size T4 Y2 (toS tok) yk h9.objs.size T9 D (sA m) nm) no_orc (kgf' ..).s (kgf' ..).o fun h10 N10 T10 hN10 C10 => ?_
  have K10 : Kp (X.dx :: X.sp :: X.pb :: [F.L, F.tb, F.q, F.hd]) h0 h10 := by
    refine C10.fin ha ?_
    exact mC (.inr (C10.at' ((kgf' ..).g 0 rfl))) (mC (.inl (by ac_rfl)) (mC (.inl (by ac_rfl)) (mC (.inl (by ac_rfl)) (mC (.inl (by ac_rfl)) (mC (.inl (by ac_rfl)) (mC (.inl (by ac_rfl)) (mC (.inl (by ac_rfl)) mN)))))))
  have K10' : Kp [X.dx, X.sp, X.pb, F.L, F.q, F.hd] h0 h10 := by
    refine C10.fin ha ?_
    exact mC (.inr (C10.at' ((kgf' ..).g 0 rfl))) (mC (.inl (by ac_rfl)) (mC (.inl (by ac_rfl)) (mC (.inl (by ac_rfl)) (mC (.inl (by ac_rfl)) (mC (.inr (C10.at' ((kgf' ..).g 4 rfl))) (mC (.inl (by ac_rfl)) (mC (.inl (by ac_rfl)) mN)))))))
  have LL : LexAt w X Y2 h10 := by
    refine L.turnQ (Y' := Y2) K10 ?_ ?_ ?_
    · exact C10.at' ((kgf' ..).g 1 rfl)
    · exact C10.at' ((kgf' ..).g 2 rfl)
    · exact (C10.at' ((kgf' ..).g 7 rfl)).trans (by rw [← hY2])
  have b9 : h0.objs.size ≤ h9.objs.size := C9.kp.1
  have bD : h0.objs.size ≤ D := Nat.le_trans C8.kp.1 hDn
  have A10 : LA w X Y2 (JE w X { F with k7 := wsA fs T2', k8 := wsC fs T2' } h9.objs.size D 0 m nm tab nt [] nx hs nh (toS tok) yk (Y.p : Int) Y.tp false (wsW fs)) h10 := by
    refine L.next LL ?_ ?_ ?_ ?_
    · exact mC ((C10.at' ((kgf' ..).g 3 rfl)).trans (congrArg some (frHb_is ..))) (mC (C10.at' ((kgf' ..).g 4 rfl)) (mC (C10.at' ((kgf' ..).g 5 rfl)) (mC (C10.at' ((kgf' ..).g 6 rfl)) (mC (C10.at' ((kgf' ..).g 9 rfl)) (mC (C10.at' ((kgf' ..).g 8 rfl)) mN)))))
    · exact mC (.inl (by ac_rfl)) (mC (.inl (by ac_rfl)) (mC (.inl (by ac_rfl)) (mC (.inl (by ac_rfl)) (mC (.inr b9) (mC (.inr bD) mN)))))
    · show [F.L, F.tb, F.q, F.hd, h9.objs.size, D].Nodup
      simp only [List.nodup_cons, List.mem_cons, nmn, or_false, not_or]
      exact ⟨⟨pick_ne C10.nd (by decide) ((kgf' w b N T X Y F (sA tab) nt (sA []) nx (sA hs) nh tk tt fs N1 (T1 + 1 + 1) (sA []).size (T1 + 1) N2 T2' (Y.p : Int) Y.tp h4.objs.size T4 Y2 (toS tok) yk h9.objs.size T9 D (sA m) nm).g 3 rfl) ((kgf' ..).g 4 rfl), pick_ne C10.nd (by decide) ((kgf' w b N T X Y F (sA tab) nt (sA []) nx (sA hs) nh tk tt fs N1 (T1 + 1 + 1) (sA []).size (T1 + 1) N2 T2' (Y.p : Int) Y.tp h4.objs.size T4 Y2 (toS tok) yk h9.objs.size T9 D (sA m) nm).g 3 rfl) ((kgf' ..).g 5 rfl), pick_ne C10.nd (by decide) ((kgf' w b N T X Y F (sA tab) nt (sA []) nx (sA hs) nh tk tt fs N1 (T1 + 1 + 1) (sA []).size (T1 + 1) N2 T2' (Y.p : Int) Y.tp h4.objs.size T4 Y2 (toS tok) yk h9.objs.size T9 D (sA m) nm).g 3 rfl) ((kgf' ..).g 6 rfl), pick_ne C10.nd (by decide) ((kgf' w b N T X Y F (sA tab) nt (sA []) nx (sA hs) nh tk tt fs N1 (T1 + 1 + 1) (sA []).size (T1 + 1) N2 T2' (Y.p : Int) Y.tp h4.objs.size T4 Y2 (toS tok) yk h9.objs.size T9 D (sA m) nm).g 3 rfl) ((kgf' ..).g 9 rfl), pick_ne C10.nd (by decide) ((kgf' w b N T X Y F (sA tab) nt (sA []) nx (sA hs) nh tk tt fs N1 (T1 + 1 + 1) (sA []).size (T1 + 1) N2 T2' (Y.p : Int) Y.tp h4.objs.size T4 Y2 (toS tok) yk h9.objs.size T9 D (sA m) nm).g 3 rfl) ((kgf' ..).g 8 rfl)⟩, ⟨pick_ne C10.nd (by decide) ((kgf' w b N T X Y F (sA tab) nt (sA []) nx (sA hs) nh tk tt fs N1 (T1 + 1 + 1) (sA []).size (T1 + 1) N2 T2' (Y.p : Int) Y.tp h4.objs.size T4 Y2 (toS tok) yk h9.objs.size T9 D (sA m) nm).g 4 rfl) ((kgf' ..).g 5 rfl), pick_ne C10.nd (by decide) ((kgf' w b N T X Y F (sA tab) nt (sA []) nx (sA hs) nh tk tt fs N1 (T1 + 1 + 1) (sA []).size (T1 + 1) N2 T2' (Y.p : Int) Y.tp h4.objs.size T4 Y2 (toS tok) yk h9.objs.size T9 D (sA m) nm).g 4 rfl) ((kgf' ..).g 6 rfl), pick_ne C10.nd (by decide) ((kgf' w b N T X Y F (sA tab) nt (sA []) nx (sA hs) nh tk tt fs N1 (T1 + 1 + 1) (sA []).size (T1 + 1) N2 T2' (Y.p : Int) Y.tp h4.objs.size T4 Y2 (toS tok) yk h9.objs.size T9 D (sA m) nm).g 4 rfl) ((kgf' ..).g 9 rfl), pick_ne C10.nd (by decide) ((kgf' w b N T X Y F (sA tab) nt (sA []) nx (sA hs) nh tk tt fs N1 (T1 + 1 + 1) (sA []).size (T1 + 1) N2 T2' (Y.p : Int) Y.tp h4.objs.size T4 Y2 (toS tok) yk h9.objs.size T9 D (sA m) nm).g 4 rfl) ((kgf' ..).g 8 rfl)⟩, ⟨pick_ne C10.nd (by decide) ((kgf' w b N T X Y F (sA tab) nt (sA []) nx (sA hs) nh tk tt fs N1 (T1 + 1 + 1) (sA []).size (T1 + 1) N2 T2' (Y.p : Int) Y.tp h4.objs.size T4 Y2 (toS tok) yk h9.objs.size T9 D (sA m) nm).g 5 rfl) ((kgf' ..).g 6 rfl), pick_ne C10.nd (by decide) ((kgf' w b N T X Y F (sA tab) nt (sA []) nx (sA hs) nh tk tt fs N1 (T1 + 1 + 1) (sA []).size (T1 + 1) N2 T2' (Y.p : Int) Y.tp h4.objs.size T4 Y2 (toS tok) yk h9.objs.size T9 D (sA m) nm).g 5 rfl) ((kgf' ..).g 9 rfl), pick_ne C10.nd (by decide) ((kgf' w b N T X Y F (sA tab) nt (sA []) nx (sA hs) nh tk tt fs N1 (T1 + 1 + 1) (sA []).size (T1 + 1) N2 T2' (Y.p : Int) Y.tp h4.objs.size T4 Y2 (toS tok) yk h9.objs.size T9 D (sA m) nm).g 5 rfl) ((kgf' ..).g 8 rfl)⟩, ⟨pick_ne C10.nd (by decide) ((kgf' w b N T X Y F (sA tab) nt (sA []) nx (sA hs) nh tk tt fs N1 (T1 + 1 + 1) (sA []).size (T1 + 1) N2 T2' (Y.p : Int) Y.tp h4.objs.size T4 Y2 (toS tok) yk h9.objs.size T9 D (sA m) nm).g 6 rfl) ((kgf' ..).g 9 rfl), pick_ne C10.nd (by decide) ((kgf' w b N T X Y F (sA tab) nt (sA []) nx (sA hs) nh tk tt fs N1 (T1 + 1 + 1) (sA []).size (T1 + 1) N2 T2' (Y.p : Int) Y.tp h4.objs.size T4 Y2 (toS tok) yk h9.objs.size T9 D (sA m) nm).g 6 rfl) ((kgf' ..).g 8 rfl)⟩, pick_ne C10.nd (by decide) ((kgf' w b N T X Y F (sA tab) nt (sA []) nx (sA hs) nh tk tt fs N1 (T1 + 1 + 1) (sA []).size (T1 + 1) N2 T2' (Y.p : Int) Y.tp h4.objs.size T4 Y2 (toS tok) yk h9.objs.size T9 D (sA m) nm).g 9 rfl) ((kgf' ..).g 8 rfl), fun h => h.elim, List.nodup_nil⟩
    · exact mC (C10.off' ((kgf' ..).g 3 rfl)) (mC (C10.off' ((kgf' ..).g 4 rfl)) (mC (C10.off' ((kgf' ..).g 5 rfl)) (mC (C10.off' ((kgf' ..).g 6 rfl)) (mC (C10.off' ((kgf' ..).g 9 rfl)) (mC (C10.off' ((kgf' ..).g 8 rfl)) mN)))))
  have hml : m.length = (wordsIn (toS tok)).length := by rw [← hm, List.length_map]
  have hm0 : True := trivial
  refine loopH hb X { F with k7 := wsA fs T2', k8 := wsC fs T2' } h9.objs.size D m nm tab nt (toS tok) yk (Y.p : Int) Y.tp false htab m 0 Y2 [] nx hs nh (wsW fs) (by ac_rfl) (fun p hp => hw p.1 (by rw [← hm]; exact List.mem_map_of_mem hp)) (by rw [← hY2]; exact hxs) hnd (by rw [hml]; omega) _ _ _ (aroO_handled hA _) (by first | exact room hd (kgf' ..).e rfl | (rw [aroO_depth, (kgf' ..).e]; omega)) C10.sta A10 fun f h11 T11 hPP => ?_
  obtain ⟨hf, K11, nx11, nh11, n11, hs11, wd11, Q1, Q2, Q3, Q4, Q5⟩ := hPP
  subst hf
  rw [fold_fst, hm] at Q1 Q2 Q3
  have S11 : Sta w h11 := C10.sta.kp K11 (by
    exact mC (L.lex.off _ (by ac_rfl)) (mC (C10.off' ((kgf' ..).g 3 rfl)) (mC (C10.off' ((kgf' ..).g 5 rfl)) (mC (C10.off' ((kgf' ..).g 6 rfl)) (mC (C10.off' ((kgf' ..).g 9 rfl)) mN)))))
  refine res_fin (Cur.nil S11) hb hA rfl _ (kkf.eq_1 w b N T X Y F (sA tab) nt (sA []) nx (sA hs) nh tk tt fs N1 (T1 + 1 + 1) (sA []).size (T1 + 1) N2 T2' (Y.p : Int) Y.tp h4.objs.size T4 Y2 (toS tok) yk h9.objs.size T9 h11.objs.size T11 D (sA m) nm) no_orc (kkf' ..).s (kkf' ..).o fun h12 N12 T12 hN12 C12 => ?_
  refine ⟨rfl, ?_⟩
  have K1112 := K11.trans C12.kp fun a ha => nomatch ha
  have ntb : F.tb ∉ [X.pb, F.L, F.q, F.hd, h9.objs.size] := by
    simp only [List.mem_cons, nmn, or_false, not_or]
    exact ⟨nd_ne L.nd 11 2 rfl rfl (by decide), nd_ne L.nd 11 10 rfl rfl (by decide), nd_ne L.nd 11 12 rfl rfl (by decide), nd_ne L.nd 11 13 rfl rfl (by decide), pick_ne C10.nd (by decide) ((kgf' w b N T X Y F (sA tab) nt (sA []) nx (sA hs) nh tk tt fs N1 (T1 + 1 + 1) (sA []).size (T1 + 1) N2 T2' (Y.p : Int) Y.tp h4.objs.size T4 Y2 (toS tok) yk h9.objs.size T9 D (sA m) nm).g 4 rfl) ((kgf' ..).g 9 rfl)⟩
  have A12 := L.set (E' := WE w X F tab nt (carries tab (wordsIn (toS tok)) (hs.map (·.1)) []).2 nx11 hs11 nh11 (toS tok) yk (some (wsA fs T2', wsC fs T2', (Y.p : Int), Y.tp, false, wd11))) (Q2.same C12.kp) rfl (by
    exact mC (C12.kp.get Q5 (fun h => nomatch h)) (mC (K1112.get (C10.at' ((kgf' ..).g 4 rfl)) ntb) (mC (C12.kp.get Q3 (fun h => nomatch h)) (mC (C12.kp.get Q4 (fun h => nomatch h)) mN))))
  have K12 : Kp [X.dx, X.sp, X.pb, F.L, F.q, F.hd] h0 h12 := K10'.trans K1112 (by
    exact mC (.inl (by ac_rfl)) (mC (.inl (by ac_rfl)) (mC (.inl (by ac_rfl)) (mC (.inl (by ac_rfl)) (mC (.inr b9) mN)))))
  rw [← hY2] at A12
  exact H h12 T12 _ _ _ _ yk (some (wsA fs T2', wsC fs T2', (Y.p : Int), Y.tp, false, wd11)) p' tl' tp' r1 r2 K12 C12.sta Q1 A12
theorem turnEnd {w : World} {b : Bool} (hb : w.params.followText "special-get-raises" = b) {X : LX} {F : HF} {tab : List (Str × Nat)} {nt : Nat} (htab : tab.map (·.1) = names) (hl : 2 ≤ X.text.length) (hsz : 4 * X.text.length + 10 ≤ sizeLine) {Y : LS} {nx : Nat} {hs : List (Str × Nat)} {nh : Nat} {tk : Str} {tt : Nat} {fs : WS} (htk : (tk.length == 0) = false) (hnd : (hs.map (·.1)).Nodup) {A : Around} {R : Result → Shared → Prop} {h0 : Heap} {g : Array GenState} {d : Drawn} {T : Nat} {ost : OsState} (hA : A.handled = none) (hd : A.depth + 6 < recursionLimit) (S : Sta w h0) (hp : Y.p = X.text.length) (hxs : Y.xs = #[]) (hq : hs.length ≤ sizeLine) (L : LA w X Y (WE w X F tab nt [] nx hs nh tk tt fs) h0)
    (H : ∀ h' T' hs' nx' nh' n' yk' fs' tl' tp', Kp [X.dx, X.sp, X.pb, F.L, F.q, F.hd] h0 h' → Sta w h' → hs'.map (·.1) = (carries tab (wordsIn ⟨#[]⟩) (hs.map (·.1)) []).1 → LA w X { Y with tl := tl', tp := tp', xs := sA (carries tab (wordsIn ⟨#[]⟩) (hs.map (·.1)) []).2, n := n' } (WE w X F tab nt (carries tab (wordsIn ⟨#[]⟩) (hs.map (·.1)) []).2 nx' hs' nh' ⟨#[]⟩ yk' fs') h' → codeAny (model pg w) A (codeH1 w.params F.L) R ⟨h', g, d, T', ost⟩) : codeAny (model pg w) A (codeH1 w.params F.L) R ⟨h0, g, d, T, ost⟩ := by
  obtain ⟨N, hN⟩ : ∃ N, h0.objs.size = N := ⟨_, rfl⟩
  have ha := L.haQ
  have C0 := L.curQ S
  refine code_call C0 hb hA hN _ (ka.eq_1 w b N T X Y F (sA tab) nt (sA []) nx (sA hs) nh tk tt fs) ?_ (ka' ..).s (ka' ..).o fun h1 N1 T1 hN1 C1 => ?_
  · exact mC (oStrNe (ne_empty htk)) mN
  refine cLen (C1.at' ((ka' ..).g 6 rfl)) (by simp; try omega) ?_
  refine res_call C1 hb hA hN1 _ (kbf.eq_1 w b N T X Y F (sA tab) nt (sA []) nx (sA hs) nh tk tt fs N1 (T1 + 1 + 1) (sA []).size (T1 + 1)) ?_ (kbf' ..).s (kbf' ..).o fun h2 N2 T2 hN2 C2 => ?_
  · exact mC (oIntGt (by ac_rfl)) mN
  refine cGet (C2.at' ((kbf' ..).g 2 rfl)) fun T2' => ?_
  refine res_call C2 hb hA hN2 _ (kcf.eq_1 w b N T X Y F (sA tab) nt (sA []) nx (sA hs) nh tk tt fs N1 (T1 + 1 + 1) (sA []).size (T1 + 1) N2 T2' (Y.p : Int) Y.tp) no_orc (kcf' ..).s (kcf' ..).o fun h3 N3 T3 hN3 C3 => ?_
  have K3 : Kp [F.L] h0 h3 := by
    refine C3.fin ha ?_
    exact mC (.inr (C3.at' ((kcf' ..).g 0 rfl))) (mC (.inr (C3.at' ((kcf' ..).g 1 rfl))) (mC (.inr (C3.at' ((kcf' ..).g 2 rfl))) (mC (.inr (C3.at' ((kcf' ..).g 3 rfl))) (mC (.inl (by ac_rfl)) (mC (.inr (C3.at' ((kcf' ..).g 5 rfl))) (mC (.inr (C3.at' ((kcf' ..).g 6 rfl))) (mC (.inr (C3.at' ((kcf' ..).g 7 rfl))) mN)))))))
  have L3 : LexAt w X Y h3 := L.keep K3 (by ac_rfl)
  refine get_end hl (by omega) hp hxs _ _ _ (aroO_handled hA _) (by first | exact room hd (kcf' ..).e rfl | (rw [aroO_depth, (kcf' ..).e]; omega)) C3.sta L3 fun v h4 T4 hPP => ?_
  obtain ⟨⟨yk, hv⟩, K4, tl', tp', L4⟩ := hPP
  subst hv
  generalize hY2 : ({ Y with tl := tl', tp := tp' } : LS) = Y2 at L4
  have C4 := C3.chg2 (by decide) ((kcf' ..).g 1 rfl) ((kcf' ..).g 2 rfl) K4 L4.dx L4.sp
  refine res_call C4 hb hA rfl _ (kdf.eq_1 w b N T X Y F (sA tab) nt (sA []) nx (sA hs) nh tk tt fs N1 (T1 + 1 + 1) (sA []).size (T1 + 1) N2 T2' (Y.p : Int) Y.tp h4.objs.size T4 Y2 ⟨#[]⟩ yk) no_orc (kdf' ..).s (kdf' ..).o fun h8 N8 T8 hN8 C8 => ?_
  refine words_ok ⟨#[]⟩ yk (by show 3 * 0 + 4 ≤ sizeLine; decide) _ _ _ (aroO_handled hA _) (by first | exact room hd (kdf' ..).e rfl | (rw [aroO_depth, (kdf' ..).e]; omega)) C8.sta trivial fun v h9 T9 hPP => ?_
  obtain ⟨D, m, nm, hv, hDn, hD, hm, hoff, K9⟩ := hPP
  subst hv
  have C9 := (C8.same K9).join hD (fun hx => by
    obtain ⟨q, hq, e⟩ := List.mem_map.mp hx
    have := Heap.lt_size (C8.at_ q hq)
    rw [e] at this
    exact absurd this (Nat.not_lt.mpr hDn)) hoff (.inr (Nat.le_trans C8.kp.1 hDn))
  refine res_call C9 hb hA rfl _ (kgf.eq_1 w b N T X Y F (sA tab) nt (sA []) nx (sA hs) nh tk tt fs N1 (T1 + 1 + 1) (sA []).size (T1 + 1) N2 T2' (Y.p : Int) Y.tp h4.objs.size T4 Y2 ⟨#[]⟩ yk h9.objs.size T9 D (sA m) nm) no_orc (kgf' ..).s (kgf' ..).o fun h10 N10 T10 hN10 C10 => ?_
  have K10 : Kp (X.dx :: X.sp :: X.pb :: [F.L, F.tb, F.q, F.hd]) h0 h10 := by
    refine C10.fin ha ?_
    exact mC (.inr (C10.at' ((kgf' ..).g 0 rfl))) (mC (.inl (by ac_rfl)) (mC (.inl (by ac_rfl)) (mC (.inl (by ac_rfl)) (mC (.inl (by ac_rfl)) (mC (.inl (by ac_rfl)) (mC (.inl (by ac_rfl)) (mC (.inl (by ac_rfl)) mN)))))))
  have K10' : Kp [X.dx, X.sp, X.pb, F.L, F.q, F.hd] h0 h10 := by
    refine C10.fin ha ?_
    exact mC (.inr (C10.at' ((kgf' ..).g 0 rfl))) (mC (.inl (by ac_rfl)) (mC (.inl (by ac_rfl)) (mC (.inl (by ac_rfl)) (mC (.inl (by ac_rfl)) (mC (.inr (C10.at' ((kgf' ..).g 4 rfl))) (mC (.inl (by ac_rfl)) (mC (.inl (by ac_rfl)) mN)))))))
  have LL : LexAt w X Y2 h10 := by
    refine L.turnQ (Y' := Y2) K10 ?_ ?_ ?_
    · exact C10.at' ((kgf' ..).g 1 rfl)
    · exact C10.at' ((kgf' ..).g 2 rfl)
    · exact (C10.at' ((kgf' ..).g 7 rfl)).trans (by rw [← hY2])
  have b9 : h0.objs.size ≤ h9.objs.size := C9.kp.1
  have bD : h0.objs.size ≤ D := Nat.le_trans C8.kp.1 hDn
  have A10 : LA w X Y2 (JE w X { F with k7 := wsA fs T2', k8 := wsC fs T2' } h9.objs.size D 0 m nm tab nt [] nx hs nh ⟨#[]⟩ yk (Y.p : Int) Y.tp false (wsW fs)) h10 := by
    refine L.next LL ?_ ?_ ?_ ?_
    · exact mC ((C10.at' ((kgf' ..).g 3 rfl)).trans (congrArg some (frHb_is ..))) (mC (C10.at' ((kgf' ..).g 4 rfl)) (mC (C10.at' ((kgf' ..).g 5 rfl)) (mC (C10.at' ((kgf' ..).g 6 rfl)) (mC (C10.at' ((kgf' ..).g 9 rfl)) (mC (C10.at' ((kgf' ..).g 8 rfl)) mN)))))
    · exact mC (.inl (by ac_rfl)) (mC (.inl (by ac_rfl)) (mC (.inl (by ac_rfl)) (mC (.inl (by ac_rfl)) (mC (.inr b9) (mC (.inr bD) mN)))))
    · show [F.L, F.tb, F.q, F.hd, h9.objs.size, D].Nodup
      simp only [List.nodup_cons, List.mem_cons, nmn, or_false, not_or]
      exact ⟨⟨pick_ne C10.nd (by decide) ((kgf' w b N T X Y F (sA tab) nt (sA []) nx (sA hs) nh tk tt fs N1 (T1 + 1 + 1) (sA []).size (T1 + 1) N2 T2' (Y.p : Int) Y.tp h4.objs.size T4 Y2 ⟨#[]⟩ yk h9.objs.size T9 D (sA m) nm).g 3 rfl) ((kgf' ..).g 4 rfl), pick_ne C10.nd (by decide) ((kgf' w b N T X Y F (sA tab) nt (sA []) nx (sA hs) nh tk tt fs N1 (T1 + 1 + 1) (sA []).size (T1 + 1) N2 T2' (Y.p : Int) Y.tp h4.objs.size T4 Y2 ⟨#[]⟩ yk h9.objs.size T9 D (sA m) nm).g 3 rfl) ((kgf' ..).g 5 rfl), pick_ne C10.nd (by decide) ((kgf' w b N T X Y F (sA tab) nt (sA []) nx (sA hs) nh tk tt fs N1 (T1 + 1 + 1) (sA []).size (T1 + 1) N2 T2' (Y.p : Int) Y.tp h4.objs.size T4 Y2 ⟨#[]⟩ yk h9.objs.size T9 D (sA m) nm).g 3 rfl) ((kgf' ..).g 6 rfl), pick_ne C10.nd (by decide) ((kgf' w b N T X Y F (sA tab) nt (sA []) nx (sA hs) nh tk tt fs N1 (T1 + 1 + 1) (sA []).size (T1 + 1) N2 T2' (Y.p : Int) Y.tp h4.objs.size T4 Y2 ⟨#[]⟩ yk h9.objs.size T9 D (sA m) nm).g 3 rfl) ((kgf' ..).g 9 rfl), pick_ne C10.nd (by decide) ((kgf' w b N T X Y F (sA tab) nt (sA []) nx (sA hs) nh tk tt fs N1 (T1 + 1 + 1) (sA []).size (T1 + 1) N2 T2' (Y.p : Int) Y.tp h4.objs.size T4 Y2 ⟨#[]⟩ yk h9.objs.size T9 D (sA m) nm).g 3 rfl) ((kgf' ..).g 8 rfl)⟩, ⟨pick_ne C10.nd (by decide) ((kgf' w b N T X Y F (sA tab) nt (sA []) nx (sA hs) nh tk tt fs N1 (T1 + 1 + 1) (sA []).size (T1 + 1) N2 T2' (Y.p : Int) Y.tp h4.objs.size T4 Y2 ⟨#[]⟩ yk h9.objs.size T9 D (sA m) nm).g 4 rfl) ((kgf' ..).g 5 rfl), pick_ne C10.nd (by decide) ((kgf' w b N T X Y F (sA tab) nt (sA []) nx (sA hs) nh tk tt fs N1 (T1 + 1 + 1) (sA []).size (T1 + 1) N2 T2' (Y.p : Int) Y.tp h4.objs.size T4 Y2 ⟨#[]⟩ yk h9.objs.size T9 D (sA m) nm).g 4 rfl) ((kgf' ..).g 6 rfl), pick_ne C10.nd (by decide) ((kgf' w b N T X Y F (sA tab) nt (sA []) nx (sA hs) nh tk tt fs N1 (T1 + 1 + 1) (sA []).size (T1 + 1) N2 T2' (Y.p : Int) Y.tp h4.objs.size T4 Y2 ⟨#[]⟩ yk h9.objs.size T9 D (sA m) nm).g 4 rfl) ((kgf' ..).g 9 rfl), pick_ne C10.nd (by decide) ((kgf' w b N T X Y F (sA tab) nt (sA []) nx (sA hs) nh tk tt fs N1 (T1 + 1 + 1) (sA []).size (T1 + 1) N2 T2' (Y.p : Int) Y.tp h4.objs.size T4 Y2 ⟨#[]⟩ yk h9.objs.size T9 D (sA m) nm).g 4 rfl) ((kgf' ..).g 8 rfl)⟩, ⟨pick_ne C10.nd (by decide) ((kgf' w b N T X Y F (sA tab) nt (sA []) nx (sA hs) nh tk tt fs N1 (T1 + 1 + 1) (sA []).size (T1 + 1) N2 T2' (Y.p : Int) Y.tp h4.objs.size T4 Y2 ⟨#[]⟩ yk h9.objs.size T9 D (sA m) nm).g 5 rfl) ((kgf' ..).g 6 rfl), pick_ne C10.nd (by decide) ((kgf' w b N T X Y F (sA tab) nt (sA []) nx (sA hs) nh tk tt fs N1 (T1 + 1 + 1) (sA []).size (T1 + 1) N2 T2' (Y.p : Int) Y.tp h4.objs.size T4 Y2 ⟨#[]⟩ yk h9.objs.size T9 D (sA m) nm).g 5 rfl) ((kgf' ..).g 9 rfl), pick_ne C10.nd (by decide) ((kgf' w b N T X Y F (sA tab) nt (sA []) nx (sA hs) nh tk tt fs N1 (T1 + 1 + 1) (sA []).size (T1 + 1) N2 T2' (Y.p : Int) Y.tp h4.objs.size T4 Y2 ⟨#[]⟩ yk h9.objs.size T9 D (sA m) nm).g 5 rfl) ((kgf' ..).g 8 rfl)⟩, ⟨pick_ne C10.nd (by decide) ((kgf' w b N T X Y F (sA tab) nt (sA []) nx (sA hs) nh tk tt fs N1 (T1 + 1 + 1) (sA []).size (T1 + 1) N2 T2' (Y.p : Int) Y.tp h4.objs.size T4 Y2 ⟨#[]⟩ yk h9.objs.size T9 D (sA m) nm).g 6 rfl) ((kgf' ..).g 9 rfl), pick_ne C10.nd (by decide) ((kgf' w b N T X Y F (sA tab) nt (sA []) nx (sA hs) nh tk tt fs N1 (T1 + 1 + 1) (sA []).size (T1 + 1) N2 T2' (Y.p : Int) Y.tp h4.objs.size T4 Y2 ⟨#[]⟩ yk h9.objs.size T9 D (sA m) nm).g 6 rfl) ((kgf' ..).g 8 rfl)⟩, pick_ne C10.nd (by decide) ((kgf' w b N T X Y F (sA tab) nt (sA []) nx (sA hs) nh tk tt fs N1 (T1 + 1 + 1) (sA []).size (T1 + 1) N2 T2' (Y.p : Int) Y.tp h4.objs.size T4 Y2 ⟨#[]⟩ yk h9.objs.size T9 D (sA m) nm).g 9 rfl) ((kgf' ..).g 8 rfl), fun h => h.elim, List.nodup_nil⟩
    · exact mC (C10.off' ((kgf' ..).g 3 rfl)) (mC (C10.off' ((kgf' ..).g 4 rfl)) (mC (C10.off' ((kgf' ..).g 5 rfl)) (mC (C10.off' ((kgf' ..).g 6 rfl)) (mC (C10.off' ((kgf' ..).g 9 rfl)) (mC (C10.off' ((kgf' ..).g 8 rfl)) mN)))))
  have hml : m.length = (wordsIn ⟨#[]⟩).length := by rw [← hm, List.length_map]
  have hm0 : m = [] := List.eq_nil_of_length_eq_zero (by rw [hml]; rfl)
  refine loopH hb X { F with k7 := wsA fs T2', k8 := wsC fs T2' } h9.objs.size D m nm tab nt ⟨#[]⟩ yk (Y.p : Int) Y.tp false htab m 0 Y2 [] nx hs nh (wsW fs) (by ac_rfl) (fun p hp => by rw [hm0] at hp; cases hp) (by rw [← hY2]; exact hxs) hnd (by rw [hm0]; simp; omega) _ _ _ (aroO_handled hA _) (by first | exact room hd (kgf' ..).e rfl | (rw [aroO_depth, (kgf' ..).e]; omega)) C10.sta A10 fun f h11 T11 hPP => ?_
  obtain ⟨hf, K11, nx11, nh11, n11, hs11, wd11, Q1, Q2, Q3, Q4, Q5⟩ := hPP
  subst hf
  rw [fold_fst, hm] at Q1 Q2 Q3
  have S11 : Sta w h11 := C10.sta.kp K11 (by
    exact mC (L.lex.off _ (by ac_rfl)) (mC (C10.off' ((kgf' ..).g 3 rfl)) (mC (C10.off' ((kgf' ..).g 5 rfl)) (mC (C10.off' ((kgf' ..).g 6 rfl)) (mC (C10.off' ((kgf' ..).g 9 rfl)) mN)))))
  refine res_fin (Cur.nil S11) hb hA rfl _ (kkf.eq_1 w b N T X Y F (sA tab) nt (sA []) nx (sA hs) nh tk tt fs N1 (T1 + 1 + 1) (sA []).size (T1 + 1) N2 T2' (Y.p : Int) Y.tp h4.objs.size T4 Y2 ⟨#[]⟩ yk h9.objs.size T9 h11.objs.size T11 D (sA m) nm) no_orc (kkf' ..).s (kkf' ..).o fun h12 N12 T12 hN12 C12 => ?_
  refine ⟨rfl, ?_⟩
  have K1112 := K11.trans C12.kp fun a ha => nomatch ha
  have ntb : F.tb ∉ [X.pb, F.L, F.q, F.hd, h9.objs.size] := by
    simp only [List.mem_cons, nmn, or_false, not_or]
    exact ⟨nd_ne L.nd 11 2 rfl rfl (by decide), nd_ne L.nd 11 10 rfl rfl (by decide), nd_ne L.nd 11 12 rfl rfl (by decide), nd_ne L.nd 11 13 rfl rfl (by decide), pick_ne C10.nd (by decide) ((kgf' w b N T X Y F (sA tab) nt (sA []) nx (sA hs) nh tk tt fs N1 (T1 + 1 + 1) (sA []).size (T1 + 1) N2 T2' (Y.p : Int) Y.tp h4.objs.size T4 Y2 ⟨#[]⟩ yk h9.objs.size T9 D (sA m) nm).g 4 rfl) ((kgf' ..).g 9 rfl)⟩
  have A12 := L.set (E' := WE w X F tab nt (carries tab (wordsIn ⟨#[]⟩) (hs.map (·.1)) []).2 nx11 hs11 nh11 ⟨#[]⟩ yk (some (wsA fs T2', wsC fs T2', (Y.p : Int), Y.tp, false, wd11))) (Q2.same C12.kp) rfl (by
    exact mC (C12.kp.get Q5 (fun h => nomatch h)) (mC (K1112.get (C10.at' ((kgf' ..).g 4 rfl)) ntb) (mC (C12.kp.get Q3 (fun h => nomatch h)) (mC (C12.kp.get Q4 (fun h => nomatch h)) mN))))
  have K12 : Kp [X.dx, X.sp, X.pb, F.L, F.q, F.hd] h0 h12 := K10'.trans K1112 (by
    exact mC (.inl (by ac_rfl)) (mC (.inl (by ac_rfl)) (mC (.inl (by ac_rfl)) (mC (.inl (by ac_rfl)) (mC (.inr b9) mN)))))
  rw [← hY2] at A12
  exact H h12 T12 _ _ _ _ yk (some (wsA fs T2', wsC fs T2', (Y.p : Int), Y.tp, false, wd11)) tl' tp' K12 C12.sta Q1 A12
noncomputable def HEnd (w : World) (X : LX) (F : HF) (tab : List (Str × Nat)) (nt : Nat) (Y : LS) (hs' : List Str) (nl : Nat) (h : Heap) (f : Flow) (h' : Heap) : Prop :=
  f = .next ∧ Kp [X.dx, X.sp, X.pb, F.L, F.q, F.hd] h h' ∧ ∃ tl tp n nx nh hsF tk tt fs, hsF.map (·.1) = hs' ∧ LA w X { Y with ln := Y.ln + nl, tl := tl, p := X.text.length, tp := tp, xs := #[], n := n } (WE w X F tab nt [] nx hsF nh tk tt fs) h'
theorem whileH {w : World} {b : Bool} (hb : w.params.followText "special-get-raises" = b) {X : LX} {F : HF} {tab : List (Str × Nat)} {nt : Nat} (htab : tab.map (·.1) = names) (hl : 2 ≤ X.text.length) (hsz : 4 * X.text.length + 10 ≤ sizeLine) {l : List Nat} {hs0 : List Str} {qs : List (Str × Nat)} {hs' : List Str} {nl : Nat} (hH : Hld tab l hs0 qs hs' nl) :
    hs0.Nodup → ∀ (Y : LS) (nx : Nat) (hs : List (Str × Nat)) (nh : Nat) (tk : Str) (tt : Nat) (fs : WS), hs.map (·.1) = hs0 → (tk.length == 0) = false → X.rest Y.p = l → Y.p ≤ X.text.length → Y.xs = sA qs →
    CtrF w 6 (codeH1 w.params F.L) (LA w X Y (WE w X F tab nt qs nx hs nh tk tt fs)) (HEnd w X F tab nt Y hs' nl) := by
  induction hH with
  | @fin hs0 hq =>
    intro hnd Y nx hs nh tk tt fs ehs htk hrest hp hxs
    rintro A R ⟨h0, g, d, T, ost⟩ hA hd S L H
    subst ehs
    have hpe : Y.p = X.text.length := by
      have := congrArg List.length hrest
      unfold LX.rest at this
      rw [List.length_drop] at this
      have e : X.text.cps.toList.length = X.text.length := rfl
      simp only [List.length_nil] at this
      omega
    refine turnEnd hb htab hl hsz htk hnd hA hd S hpe hxs (by simpa using hq) L fun h1 T1 hs1 nx1 nh1 n1 yk1 fs1 tl1 tp1 K1 S1 e1 L1 => ?_
    refine exitH hb X F tab nt _ _ _ _ _ _ _ _ rfl _ _ _ hA hd S1 L1 fun f h2 T2 hPP => ?_
    obtain ⟨hf, K2⟩ := hPP
    have L2 := L1.same K2
    refine H _ _ _ ⟨hf, K1.trans K2 (fun a ha => nomatch ha), tl1, tp1, n1, nx1, nh1, hs1, ⟨#[]⟩, yk1, fs1, e1, ?_⟩
    have ez : ({ Y with ln := Y.ln + ((0 : Nat) : Int), tl := tl1, p := X.text.length, tp := tp1, xs := #[], n := n1 } : LS) = { Y with tl := tl1, tp := tp1, xs := #[], n := n1 } := by
      rw [← hpe]; simp
    rw [ez]
    exact L2
  | @wait l hs0 hs' y yk qs nl hy hw h3 hq hH ih =>
    intro hnd Y nx hs nh tk tt fs ehs htk hrest hp hxs
    rintro A R ⟨h0, g, d, T, ost⟩ hA hd S L H
    subst ehs
    refine turnWait hb htab hl hsz htk hnd hA hd S hxs hw h3 (by simpa using hq) L fun h1 T1 hs1 nx1 nh1 n1 yk1 fs1 K1 S1 e1 L1 => ?_
    refine ih (carries_nodup tab _ _ _ hnd) { Y with xs := sA (carries tab (wordsIn y) (hs.map (·.1)) qs).2, n := n1 } nx1 hs1 nh1 y yk1 fs1 e1 hy hrest hp rfl _ _ _ hA hd S1 L1 fun f h2 T2 P => H _ _ _ ?_
    exact ⟨P.1, K1.trans P.2.1 (fun a ha => .inl ha), P.2.2⟩
  | @read l tok more hs0 hs' nl nl' htok hw hq hH ih =>
    intro hnd Y nx hs nh tk tt fs ehs htk hrest hp hxs
    rintro A R ⟨h0, g, d, T, ost⟩ hA hd S L H
    subst ehs
    have htl := htok.len
    have hrl := rest_len hrest
    have hvl : (toS tok).length = tok.length := by simp [Str.length]
    refine turnRead hb htab hl hsz htk hnd hA hd S htok hrest hp hxs hw (by rw [hvl]; omega) (by simpa using hq) L fun h1 T1 hs1 nx1 nh1 n1 yk1 fs1 p1 tl1 tp1 r1 r2 K1 S1 e1 L1 => ?_
    refine ih (carries_nodup tab _ _ _ hnd) { Y with ln := Y.ln + nl, tl := tl1, p := p1, tp := tp1, xs := sA (carries tab (wordsIn (toS tok)) (hs.map (·.1)) []).2, n := n1 } nx1 hs1 nh1 _ yk1 fs1 e1 htok.pos r1 r2 rfl _ _ _ hA hd S1 L1 fun f h2 T2 P => H _ _ _ ?_
    obtain ⟨hf, K2, tl2, tp2, n2, nx2, nh2, hsF, tk2, tt2, fs2, e2, L2⟩ := P
    refine ⟨hf, K1.trans K2 (fun a ha => .inl ha), tl2, tp2, n2, nx2, nh2, hsF, tk2, tt2, fs2, e2, ?_⟩
    have e : Y.ln + ((nl + nl' : Nat) : Int) = Y.ln + nl + nl' := by omega
    rw [e]
    exact L2
noncomputable abbrev frH6z (P : Params) (X : LX) (F : HF) (tok : Value) : Obj := ⟨.type "frame", none, .dict #[entZ P sLexer F.k1 (.ref X.lx), entZ P sSpot F.k2 (.ref X.sp), entZ P sQueue F.k3 (.ref F.q), entZ P sTable F.k4 (.ref F.tb), entZ P sToken F.k5 tok, entZ P sHeld F.k6 (.ref F.hd)] 6, #[]⟩
theorem frH6z_is (P : Params) (X : LX) (F : HF) (tok : Value) : frH6z P X F tok = frH6 P X F tok := by
  unfold frH6z; simp only [entZ_is]
section
variable (w : World) (b : Bool) (N0 T0 : Nat) (X : LX) (Z : LS) (tb q : Nat) (ta : Array Value) (nt : Nat) (xs : Array Value) (nx N1 T1 N2 T2 : Nat) (F : HF) (tk : Str) (tt : Nat) (pl : Int) (pt : Nat) (wt : Bool) (s0 : Str) (t0 : Nat)
@[irreducible] noncomputable def hfa : Res := enterZ (VV w b N0 T0) 150 [7, 7, 7, 7, 7, 7, 7, 7] [] 111 (fdK w.params 111) ⟨[.ref X.lx, .ref X.sp, .ref q, .ref tb], []⟩ (ledQ w X Z [(tb, listO ta nt), (q, listO xs nx)])
theorem hfa' : (fun r => Lk r [] (isAg r.out = true) (True)) (hfa w b N0 T0 X Z tb q ta nt xs nx) := by cases b <;> rfl'
@[irreducible] noncomputable def hfb : Res := startZ (VV w b N1 T1) 500 [9, 9, 9, 0, 9, 10, 10, 0, 10, 10, 10, 9, 10, 10, 10, 0, 10, 10, 10, 9, 10, 10, 10, 0, 10, 10, 10, 9, 10, 10, 12, 7, 7, 7, 7, 1] [] (agOf (hfa w b N0 T0 X Z tb q ta nt xs nx).out) (hfa w b N0 T0 X Z tb q ta nt xs nx).led
theorem hfb' : (fun r => Lk r [(0, X.lx, lexO X), (1, X.dx, lexD w.params X Z.ln Z.tl), (2, X.sp, spotO w.params X.kp (.int Z.p Z.tp)), (3, X.pb, listO Z.xs Z.n), (4, tb, listO ta nt), (5, q, listO xs nx), (6, N0, frH6z w.params X { L := N0, tb := tb, q := q, hd := N1, k1 := T0, k2 := T0 + 1, k3 := T0 + 2, k4 := T0 + 3, k5 := T1 + 1, k6 := T1 + 2, k7 := 0, k8 := 0, k9 := 0 } (.str ⟨#[63]⟩ T1)), (7, N1, listO #[] 0)] (callOf r.out = some (codeH1 w.params N0)) (wtO r.out = 1)) (hfb w b N0 T0 X Z tb q ta nt xs nx N1 T1) := by cases b <;> rfl'
@[irreducible] noncomputable def hfc6 : Res := resumeZ (VV w b N2 T2) 100 [1] [] (hfb w b N0 T0 X Z tb q ta nt xs nx N1 T1).out (.ok .next) [(N0, (frH6 w.params X F (.str tk tt)))]
theorem hfc6' : (fun r => Lk r [(0, N0, (frH6 w.params X F (.str tk tt)))] (finOf r.out = some (.done (.ret (.ref F.hd)))) (True)) (hfc6 w b N0 T0 X Z tb q ta nt xs nx N1 T1 N2 T2 F tk tt) := by cases b <;> rfl'
@[irreducible] noncomputable def hfc8 : Res := resumeZ (VV w b N2 T2) 100 [1] [] (hfb w b N0 T0 X Z tb q ta nt xs nx N1 T1).out (.ok .next) [(N0, (frH8 w.params X F (.str tk tt) (.int pl pt) (.bool wt)))]
theorem hfc8' : (fun r => Lk r [(0, N0, (frH8 w.params X F (.str tk tt) (.int pl pt) (.bool wt)))] (finOf r.out = some (.done (.ret (.ref F.hd)))) (True)) (hfc8 w b N0 T0 X Z tb q ta nt xs nx N1 T1 N2 T2 F tk tt pl pt wt) := by cases b <;> rfl'
@[irreducible] noncomputable def hfc9 : Res := resumeZ (VV w b N2 T2) 100 [1] [] (hfb w b N0 T0 X Z tb q ta nt xs nx N1 T1).out (.ok .next) [(N0, (frH9 w.params X F (.str tk tt) (.int pl pt) (.bool wt) (.str s0 t0)))]
theorem hfc9' : (fun r => Lk r [(0, N0, (frH9 w.params X F (.str tk tt) (.int pl pt) (.bool wt) (.str s0 t0)))] (finOf r.out = some (.done (.ret (.ref F.hd)))) (True)) (hfc9 w b N0 T0 X Z tb q ta nt xs nx N1 T1 N2 T2 F tk tt pl pt wt s0 t0) := by cases b <;> rfl'
end
theorem fn111 (w : World) : FnAt w 111 (fdK w.params 111) := ⟨⟨o111 w.params, by kernel_rfl, by kernel_rfl⟩, by kernel_rfl, by kernel_rfl, ⟨bodyOf (fdK w.params 111), by kernel_rfl⟩, ⟨110, o110 w.params, flds (o110 w.params), tokOf ((flds (o110 w.params)).getD 1 .none), by kernel_rfl, by kernel_rfl, by kernel_rfl, by kernel_rfl⟩⟩
theorem held_ok {w : World} {X : LX} {Z : LS} (hl : 2 ≤ X.text.length) (hsz : 4 * X.text.length + 10 ≤ sizeLine) {l : List Nat} {hs' : List Str} {nl : Nat} {tb q nt nx : Nat} {tab qs : List (Str × Nat)} (htab : tab.map (·.1) = names) (hH : Hld tab l [] qs hs' nl) (hrest : X.rest Z.p = l) (hp : Z.p ≤ X.text.length) (hxs : Z.xs = sA qs) :
    Ctr w 7 (.call (.ref 111) ⟨[.ref X.lx, .ref X.sp, .ref q, .ref tb], []⟩) (LA w X Z [(tb, listO (sA tab) nt), (q, listO (sA qs) nx)]) (fun h v h' => ∃ D hsF nh, v = .ref D ∧ h.objs.size ≤ D ∧ Off w D ∧ h'.get? D = some (listO (sA hsF) nh) ∧ hsF.map (·.1) = hs' ∧ Kp [X.dx, X.sp, X.pb, q] h h' ∧ ∃ tl tp n, LexAt w X { Z with ln := Z.ln + nl, tl := tl, p := X.text.length, tp := tp, xs := #[], n := n } h') := by
  rintro A R ⟨h0, g, d, T, ost⟩ hA hd S L H
  obtain ⟨b, hb⟩ : ∃ b, w.params.followText "special-get-raises" = b := ⟨_, rfl⟩
  obtain ⟨N, hN⟩ : ∃ N, h0.objs.size = N := ⟨_, rfl⟩
  have ha := L.haQ
  refine seg_fn (L.curQ S) (fn111 w) hb hA (by first | exact room0 hd | omega) hN _ (hfa.eq_1 w b N T X Z tb q (sA tab) nt (sA qs) nx) (hfa' ..).s (hfa' ..).o fun h1 N1 T1 hN1 C1 => ?_
  refine code_call C1 hb hA hN1 _ (hfb.eq_1 w b N T X Z tb q (sA tab) nt (sA qs) nx N1 T1) no_orc (hfb' ..).s (hfb' ..).o fun h2 N2 T2 hN2 C2 => ?_
  have K2 : Kp [] h0 h2 := by
    refine C2.fin ha ?_
    exact mC (.inr (C2.at' ((hfb' ..).g 0 rfl))) (mC (.inr (C2.at' ((hfb' ..).g 1 rfl))) (mC (.inr (C2.at' ((hfb' ..).g 2 rfl))) (mC (.inr (C2.at' ((hfb' ..).g 3 rfl))) (mC (.inr (C2.at' ((hfb' ..).g 4 rfl))) (mC (.inr (C2.at' ((hfb' ..).g 5 rfl))) mN)))))
  have b0 : h0.objs.size ≤ N := by rw [hN]; exact Nat.le_refl _
  have b1 : h0.objs.size ≤ N1 := by rw [← hN1]; exact C1.kp.1
  have A2 : LA w X Z (WE w X { L := N, tb := tb, q := q, hd := N1, k1 := T, k2 := T + 1, k3 := T + 2, k4 := T + 3, k5 := T1 + 1, k6 := T1 + 2, k7 := 0, k8 := 0, k9 := 0 } tab nt qs nx [] 0 ⟨#[63]⟩ T1 none) h2 := by
    refine L.next (L.lex.same K2) ?_ ?_ ?_ ?_
    · exact mC ((C2.at' ((hfb' ..).g 6 rfl)).trans (congrArg some (frH6z_is ..))) (mC (C2.at' ((hfb' ..).g 4 rfl)) (mC (C2.at' ((hfb' ..).g 5 rfl)) (mC (C2.at' ((hfb' ..).g 7 rfl)) mN)))
    · exact mC (.inr b0) (mC (.inl (by ac_rfl)) (mC (.inl (by ac_rfl)) (mC (.inr b1) mN)))
    · show [N, tb, q, N1].Nodup
      simp only [List.nodup_cons, List.mem_cons, nmn, or_false, not_or]
      exact ⟨⟨pick_ne C2.nd (by decide) ((hfb' w b N T X Z tb q (sA tab) nt (sA qs) nx N1 T1).g 6 rfl) ((hfb' ..).g 4 rfl), pick_ne C2.nd (by decide) ((hfb' w b N T X Z tb q (sA tab) nt (sA qs) nx N1 T1).g 6 rfl) ((hfb' ..).g 5 rfl), pick_ne C2.nd (by decide) ((hfb' w b N T X Z tb q (sA tab) nt (sA qs) nx N1 T1).g 6 rfl) ((hfb' ..).g 7 rfl)⟩, ⟨pick_ne C2.nd (by decide) ((hfb' w b N T X Z tb q (sA tab) nt (sA qs) nx N1 T1).g 4 rfl) ((hfb' ..).g 5 rfl), pick_ne C2.nd (by decide) ((hfb' w b N T X Z tb q (sA tab) nt (sA qs) nx N1 T1).g 4 rfl) ((hfb' ..).g 7 rfl)⟩, pick_ne C2.nd (by decide) ((hfb' w b N T X Z tb q (sA tab) nt (sA qs) nx N1 T1).g 5 rfl) ((hfb' ..).g 7 rfl), fun h => h.elim, List.nodup_nil⟩
    · exact mC (C2.off' ((hfb' ..).g 6 rfl)) (mC (C2.off' ((hfb' ..).g 4 rfl)) (mC (C2.off' ((hfb' ..).g 5 rfl)) (mC (C2.off' ((hfb' ..).g 7 rfl)) mN)))
  refine whileH hb (F := { L := N, tb := tb, q := q, hd := N1, k1 := T, k2 := T + 1, k3 := T + 2, k4 := T + 3, k5 := T1 + 1, k6 := T1 + 2, k7 := 0, k8 := 0, k9 := 0 }) htab hl hsz hH List.nodup_nil Z nx [] 0 ⟨#[63]⟩ T1 none rfl (by rfl) hrest hp hxs _ _ _ (aroO_handled hA _) (by first | exact room hd (hfb' ..).e rfl | (rw [aroO_depth, (hfb' ..).e]; omega)) C2.sta A2 fun f h3 T3 P => ?_
  obtain ⟨rfl, K3, tl, tp, n, nx3, nh, hsF, tk, tt, fs, e3, L3⟩ := P
  have S3 : Sta w h3 := C2.sta.kp K3 (by
    exact mC (L.lex.off _ (by ac_rfl)) (mC (L.lex.off _ (by ac_rfl)) (mC (L.lex.off _ (by ac_rfl)) (mC (C2.off' ((hfb' ..).g 6 rfl)) (mC (C2.off' ((hfb' ..).g 5 rfl)) (mC (C2.off' ((hfb' ..).g 7 rfl)) mN))))))
  match fs, L3 with
  | none, L3 =>
    have ha3 : ∀ p ∈ ([(N, frHa w.params X { L := N, tb := tb, q := q, hd := N1, k1 := T, k2 := T + 1, k3 := T + 2, k4 := T + 3, k5 := T1 + 1, k6 := T1 + 2, k7 := 0, k8 := 0, k9 := 0 } (.str tk tt) (none))] : Led), h3.get? p.1 = some p.2 := by
      exact mC (L3.at_ (_, _) (.head _)) mN
    refine res_fin (Cur.start S3 ha3 (by ac_rfl) (by
      exact mC (C2.off' ((hfb' ..).g 6 rfl)) mN)) hb hA rfl _ (hfc6.eq_1 w b N T X Z tb q (sA tab) nt (sA qs) nx N1 T1 h3.objs.size T3 { L := N, tb := tb, q := q, hd := N1, k1 := T, k2 := T + 1, k3 := T + 2, k4 := T + 3, k5 := T1 + 1, k6 := T1 + 2, k7 := 0, k8 := 0, k9 := 0 } tk tt) no_orc (hfc6' ..).s (hfc6' ..).o fun h4 N4 T4 hN4 C4 => ?_
    have K4 : Kp [] h3 h4 := by
      refine C4.fin ha3 ?_
      exact mC (.inr (C4.at' ((hfc6' ..).g 0 rfl))) mN
    refine H _ _ _ ⟨N1, hsF, nh, rfl, b1, C2.off' ((hfb' ..).g 7 rfl), K4.get (L3.at_ (N1, listO (sA hsF) nh) (.tail _ (.tail _ (.tail _ (.head _))))) (fun h => nomatch h), e3, ?_, tl, tp, n, L3.lex.same K4⟩
    refine (((K2.mono fun a ha => nomatch ha).trans K3 ?_).trans K4 fun a ha => nomatch ha)
    exact mC (.inl (by ac_rfl)) (mC (.inl (by ac_rfl)) (mC (.inl (by ac_rfl)) (mC (.inr b0) (mC (.inl (by ac_rfl)) (mC (.inr b1) mN)))))
  | some (a0, c0, pl, pt, wt, none), L3 =>
    have ha3 : ∀ p ∈ ([(N, frHa w.params X { L := N, tb := tb, q := q, hd := N1, k1 := T, k2 := T + 1, k3 := T + 2, k4 := T + 3, k5 := T1 + 1, k6 := T1 + 2, k7 := 0, k8 := 0, k9 := 0 } (.str tk tt) (some (a0, c0, pl, pt, wt, none)))] : Led), h3.get? p.1 = some p.2 := by
      exact mC (L3.at_ (_, _) (.head _)) mN
    refine res_fin (Cur.start S3 ha3 (by ac_rfl) (by
      exact mC (C2.off' ((hfb' ..).g 6 rfl)) mN)) hb hA rfl _ (hfc8.eq_1 w b N T X Z tb q (sA tab) nt (sA qs) nx N1 T1 h3.objs.size T3 { ({ L := N, tb := tb, q := q, hd := N1, k1 := T, k2 := T + 1, k3 := T + 2, k4 := T + 3, k5 := T1 + 1, k6 := T1 + 2, k7 := 0, k8 := 0, k9 := 0 } : HF) with k7 := a0, k8 := c0 } tk tt pl pt wt) no_orc (hfc8' ..).s (hfc8' ..).o fun h4 N4 T4 hN4 C4 => ?_
    have K4 : Kp [] h3 h4 := by
      refine C4.fin ha3 ?_
      exact mC (.inr (C4.at' ((hfc8' ..).g 0 rfl))) mN
    refine H _ _ _ ⟨N1, hsF, nh, rfl, b1, C2.off' ((hfb' ..).g 7 rfl), K4.get (L3.at_ (N1, listO (sA hsF) nh) (.tail _ (.tail _ (.tail _ (.head _))))) (fun h => nomatch h), e3, ?_, tl, tp, n, L3.lex.same K4⟩
    refine (((K2.mono fun a ha => nomatch ha).trans K3 ?_).trans K4 fun a ha => nomatch ha)
    exact mC (.inl (by ac_rfl)) (mC (.inl (by ac_rfl)) (mC (.inl (by ac_rfl)) (mC (.inr b0) (mC (.inl (by ac_rfl)) (mC (.inr b1) mN)))))
  | some (a0, c0, pl, pt, wt, some (k0, s0, t0)), L3 =>
    have ha3 : ∀ p ∈ ([(N, frHa w.params X { L := N, tb := tb, q := q, hd := N1, k1 := T, k2 := T + 1, k3 := T + 2, k4 := T + 3, k5 := T1 + 1, k6 := T1 + 2, k7 := 0, k8 := 0, k9 := 0 } (.str tk tt) (some (a0, c0, pl, pt, wt, some (k0, s0, t0))))] : Led), h3.get? p.1 = some p.2 := by
      exact mC (L3.at_ (_, _) (.head _)) mN
    refine res_fin (Cur.start S3 ha3 (by ac_rfl) (by
      exact mC (C2.off' ((hfb' ..).g 6 rfl)) mN)) hb hA rfl _ (hfc9.eq_1 w b N T X Z tb q (sA tab) nt (sA qs) nx N1 T1 h3.objs.size T3 { ({ L := N, tb := tb, q := q, hd := N1, k1 := T, k2 := T + 1, k3 := T + 2, k4 := T + 3, k5 := T1 + 1, k6 := T1 + 2, k7 := 0, k8 := 0, k9 := 0 } : HF) with k7 := a0, k8 := c0, k9 := k0 } tk tt pl pt wt s0 t0) no_orc (hfc9' ..).s (hfc9' ..).o fun h4 N4 T4 hN4 C4 => ?_
    have K4 : Kp [] h3 h4 := by
      refine C4.fin ha3 ?_
      exact mC (.inr (C4.at' ((hfc9' ..).g 0 rfl))) mN
    refine H _ _ _ ⟨N1, hsF, nh, rfl, b1, C2.off' ((hfb' ..).g 7 rfl), K4.get (L3.at_ (N1, listO (sA hsF) nh) (.tail _ (.tail _ (.tail _ (.head _))))) (fun h => nomatch h), e3, ?_, tl, tp, n, L3.lex.same K4⟩
    refine (((K2.mono fun a ha => nomatch ha).trans K3 ?_).trans K4 fun a ha => nomatch ha)
    exact mC (.inl (by ac_rfl)) (mC (.inl (by ac_rfl)) (mC (.inl (by ac_rfl)) (mC (.inr b0) (mC (.inl (by ac_rfl)) (mC (.inr b1) mN)))))
noncomputable abbrev tabO (vs : Array Value) : Obj := ⟨.none, none, .fields vs, #[]⟩
noncomputable def objAt (r : Res) (j : Nat) : Obj := match pick r.led j with
  | some p => p.2
  | none => default
section
variable (w : World) (b : Bool) (N0 T0 : Nat) (tx : Str) (tt sp N1 T1 : Nat)
@[irreducible] noncomputable def rra : Res := enterZ (VV w b N0 T0) 100 [3, 3, 4, 4] [] 85 (fdK w.params 85) ⟨[.str tx tt, .ref sp], []⟩ [(80, o80 w.params)]
theorem rra' : (fun r => Lk r [] (isAg r.out = true) (True)) (rra w b N0 T0 tx tt sp) := by cases b <;> rfl'
@[irreducible] noncomputable def rrb : Res := startZ (VV w b N1 T1) 500 [0, 1, 1, 1, 1, 0, 0, 0, 2, 2, 0, 1, 1, 1, 1, 0, 0, 0, 2, 2, 2, 2, 19, 0, 19, 19, 19, 19, 19, 20, 20, 20, 2] [] (agOf (rra w b N0 T0 tx tt sp).out) (rra w b N0 T0 tx tt sp).led
theorem rrb' : (fun r => Lk r [(0, 80, tabO (flds (objAt r 0))), (2, N0 + 1, ⟨.type "cell", none, .cell (some (.str tx tt)), #[]⟩), (3, N0 + 2, ⟨.type "cell", none, .cell (some (.ref sp)), #[]⟩), (10, N1 + 6, objAt r 10), (11, N1 + 7, ⟨.type "function", none, .func (fdRd w.params N1 (N1 + 6) (N0 + 1) (N0 + 2)), #[]⟩), (18, N1 + 14, ⟨.type "function", some (N1 + 15), .func (fdOf (objAt r 18)), #[]⟩), (19, N1 + 15, ⟨.type "dict", none, .dict #[entZ w.params sRead (T1 + 17) (.ref (N1 + 7))] 1, #[]⟩)] (finOf r.out = some (.done (.ret (.ref (N1 + 14))))) (((objAt r 10).data = .fields (flds (objAt r 10))) ∧ ((flds (objAt r 10))[1]? = some (.str (fdRd w.params N1 (N1 + 6) (N0 + 1) (N0 + 2)).qualname (T1 + 1))))) (rrb w b N0 T0 tx tt sp N1 T1) := by cases b <;> rfl'
end
theorem fn85 (w : World) : FnAt w 85 (fdK w.params 85) := ⟨⟨o85 w.params, by kernel_rfl, by kernel_rfl⟩, by kernel_rfl, by kernel_rfl, ⟨bodyOf (fdK w.params 85), by kernel_rfl⟩, ⟨84, o84 w.params, flds (o84 w.params), tokOf ((flds (o84 w.params)).getD 1 .none), by kernel_rfl, by kernel_rfl, by kernel_rfl, by kernel_rfl⟩⟩
theorem off80 (w : World) : Off w 80 := by unfold Off; kernel_rfl
theorem reader_ok {w : World} {tx : Str} {tt sp : Nat} : Ctr w 1 (.call (.ref 85) ⟨[.str tx tt, .ref sp], []⟩) (fun h => h.get? 80 = some (o80 w.params)) (fun h v h' => ∃ tp td rd rc ct c1 c2 kr fdT v8, v = .ref tp ∧ Kp [80] h h' ∧ h'.get? 80 = some (tabO v8) ∧ (∀ a ∈ [tp, td, rd, rc, c1, c2], h.objs.size ≤ a) ∧ [tp, td, rd, rc, c1, c2].Nodup ∧
    h'.get? tp = some ⟨.type "function", some td, .func fdT, #[]⟩ ∧ h'.get? td = some ⟨.type "dict", none, .dict #[ent w.params sRead kr (.ref rd)] 1, #[]⟩ ∧ h'.get? rd = some ⟨.type "function", none, .func (fdRd w.params ct rc c1 c2), #[]⟩ ∧ (∃ o vs t, h'.get? rc = some o ∧ o.data = .fields vs ∧ vs[1]? = some (.str (fdRd w.params ct rc c1 c2).qualname t)) ∧ h'.get? c1 = some ⟨.type "cell", none, .cell (some (.str tx tt)), #[]⟩ ∧ h'.get? c2 = some ⟨.type "cell", none, .cell (some (.ref sp)), #[]⟩) := by
  rintro A R ⟨h0, g, d, T, ost⟩ hA hd S L H
  obtain ⟨b, hb⟩ : ∃ b, w.params.followText "special-get-raises" = b := ⟨_, rfl⟩
  obtain ⟨N, hN⟩ : ∃ N, h0.objs.size = N := ⟨_, rfl⟩
  have C0 : Cur w h0 (([(80, o80 w.params)] : Led).map (·.1)) h0 [(80, o80 w.params)] := Cur.start S (fun p hp => by cases List.mem_singleton.mp hp; exact L) (by ac_rfl) (fun p hp => by cases List.mem_singleton.mp hp; exact off80 w)
  refine seg_fn C0 (fn85 w) hb hA (by first | exact room0 hd | omega) hN _ (rra.eq_1 w b N T tx tt sp) (rra' ..).s (rra' ..).o fun h1 N1 T1 hN1 C1 => ?_
  refine code_fin C1 hb hA hN1 _ (rrb.eq_1 w b N T tx tt sp N1 T1) no_orc (rrb' ..).s (rrb' ..).o fun h2 N2 T2 hN2 C2 => ?_
  have b1 : N ≤ N1 := by rw [← hN1, ← hN]; exact C1.kp.1
  refine H _ _ _ ⟨N1 + 14, N1 + 15, N1 + 7, N1 + 6, N1, N + 1, N + 2, T1 + 17, fdOf (objAt (rrb w b N T tx tt sp N1 T1) 18), _, rfl, C2.kp, C2.at' ((rrb' ..).g 0 rfl), ?_, ?_, C2.at' ((rrb' ..).g 5 rfl), (C2.at' ((rrb' ..).g 6 rfl)).trans (by rw [entZ_is]), C2.at' ((rrb' ..).g 4 rfl), ⟨_, _, _, C2.at' ((rrb' ..).g 3 rfl), (rrb' ..).e.1, (rrb' ..).e.2⟩, C2.at' ((rrb' ..).g 1 rfl), C2.at' ((rrb' ..).g 2 rfl)⟩
  · simp only [fmc, nmn]
    show h0.objs.size ≤ _ ∧ h0.objs.size ≤ _ ∧ h0.objs.size ≤ _ ∧ h0.objs.size ≤ _ ∧ h0.objs.size ≤ _ ∧ h0.objs.size ≤ _ ∧ _
    rw [hN]
    exact ⟨by omega, by omega, by omega, by omega, by omega, by omega, fun _ h => h.elim⟩
  · simp only [List.nodup_cons, List.mem_cons, nmn, or_false, not_or]
    exact ⟨⟨pick_ne C2.nd (by decide) ((rrb' w b N T tx tt sp N1 T1).g 5 rfl) ((rrb' ..).g 6 rfl), pick_ne C2.nd (by decide) ((rrb' w b N T tx tt sp N1 T1).g 5 rfl) ((rrb' ..).g 4 rfl), pick_ne C2.nd (by decide) ((rrb' w b N T tx tt sp N1 T1).g 5 rfl) ((rrb' ..).g 3 rfl), pick_ne C2.nd (by decide) ((rrb' w b N T tx tt sp N1 T1).g 5 rfl) ((rrb' ..).g 1 rfl), pick_ne C2.nd (by decide) ((rrb' w b N T tx tt sp N1 T1).g 5 rfl) ((rrb' ..).g 2 rfl)⟩, ⟨pick_ne C2.nd (by decide) ((rrb' w b N T tx tt sp N1 T1).g 6 rfl) ((rrb' ..).g 4 rfl), pick_ne C2.nd (by decide) ((rrb' w b N T tx tt sp N1 T1).g 6 rfl) ((rrb' ..).g 3 rfl), pick_ne C2.nd (by decide) ((rrb' w b N T tx tt sp N1 T1).g 6 rfl) ((rrb' ..).g 1 rfl), pick_ne C2.nd (by decide) ((rrb' w b N T tx tt sp N1 T1).g 6 rfl) ((rrb' ..).g 2 rfl)⟩, ⟨pick_ne C2.nd (by decide) ((rrb' w b N T tx tt sp N1 T1).g 4 rfl) ((rrb' ..).g 3 rfl), pick_ne C2.nd (by decide) ((rrb' w b N T tx tt sp N1 T1).g 4 rfl) ((rrb' ..).g 1 rfl), pick_ne C2.nd (by decide) ((rrb' w b N T tx tt sp N1 T1).g 4 rfl) ((rrb' ..).g 2 rfl)⟩, ⟨pick_ne C2.nd (by decide) ((rrb' w b N T tx tt sp N1 T1).g 3 rfl) ((rrb' ..).g 1 rfl), pick_ne C2.nd (by decide) ((rrb' w b N T tx tt sp N1 T1).g 3 rfl) ((rrb' ..).g 2 rfl)⟩, pick_ne C2.nd (by decide) ((rrb' w b N T tx tt sp N1 T1).g 1 rfl) ((rrb' ..).g 2 rfl), fun h => h.elim, List.nodup_nil⟩
section
variable (w : World) (b : Bool) (N0 T0 N1 T1 : Nat)
@[irreducible] noncomputable def taa : Res := enterZ (VV w b N0 T0) 100 [] [] 71 (fdK w.params 71) ⟨[], []⟩ []
theorem taa' : (fun r => Lk r [] (isAg r.out = true) (True)) (taa w b N0 T0) := by cases b <;> rfl'
@[irreducible] noncomputable def tba : Res := startZ (VV w b N1 T1) 300 [] [] (agOf (taa w b N0 T0).out) (taa w b N0 T0).led
theorem tba' : (fun r => Lk r [(1, N1, listO (sA (names.zipIdx T1)) 0)] (finOf r.out = some (.done (.ret (.ref N1)))) (True)) (tba w b N0 T0 N1 T1) := by cases b <;> rfl'
end
theorem fn71 (w : World) : FnAt w 71 (fdK w.params 71) := ⟨⟨o71 w.params, by kernel_rfl, by kernel_rfl⟩, by kernel_rfl, by kernel_rfl, ⟨bodyOf (fdK w.params 71), by kernel_rfl⟩, ⟨70, o70 w.params, flds (o70 w.params), tokOf ((flds (o70 w.params)).getD 1 .none), by kernel_rfl, by kernel_rfl, by kernel_rfl, by kernel_rfl⟩⟩
theorem table_ok {w : World} : Ctr w 1 (.call (.ref 71) ⟨[], []⟩) (fun _ => True) (fun h v h' => ∃ D tab, v = .ref D ∧ h.objs.size ≤ D ∧ h'.get? D = some (listO (sA tab) 0) ∧ tab.map (·.1) = names ∧ Off w D ∧ Kp [] h h') := by
  rintro A R ⟨h0, g, d, T, ost⟩ hA hd S - H
  obtain ⟨b, hb⟩ : ∃ b, w.params.followText "special-get-raises" = b := ⟨_, rfl⟩
  obtain ⟨N, hN⟩ : ∃ N, h0.objs.size = N := ⟨_, rfl⟩
  have C0 : Cur w h0 (([] : Led).map (·.1)) h0 [] := Cur.start S (fun p hp => nomatch hp) (by ac_rfl) (fun p hp => nomatch hp)
  refine seg_fn C0 (fn71 w) hb hA (by first | exact room0 hd | omega) hN _ (taa.eq_1 w b N T) (taa' ..).s (taa' ..).o fun h1 N1 T1 hN1 C1 => ?_
  refine code_fin C1 hb hA hN1 _ (tba.eq_1 w b N T N1 T1) no_orc (tba' ..).s (tba' ..).o fun h2 N2 T2 hN2 C2 => ?_
  exact H _ _ _ ⟨N1, names.zipIdx T1, rfl, by rw [← hN1]; exact C1.kp.1, C2.at' ((tba' ..).g 0 rfl), by simp, C2.off' ((tba' ..).g 0 rfl), C2.kp⟩
section
variable (w : World) (b : Bool) (N0 T0 lx dx tp N1 T1 : Nat)
@[irreducible] noncomputable def iia : Res := enterZ (VV w b N0 T0) 100 [3, 3, 3, 3] [] 28 (fdK w.params 28) ⟨[.ref lx, .ref tp], []⟩ [(lx, ⟨.ref 52, some dx, .plain, #[]⟩), (dx, dO0)]
theorem iia' : (fun r => Lk r [] (isAg r.out = true) (True)) (iia w b N0 T0 lx dx tp) := by cases b <;> rfl'
@[irreducible] noncomputable def iib : Res := startZ (VV w b N1 T1) 500 [3, 1, 0, 0, 0, 0, 1, 0, 1, 0, 1, 0, 0, 0, 1, 0, 2, 2, 2, 3, 3, 1, 0, 0, 0, 0, 1, 0, 1, 0, 1, 0, 0, 0, 1, 0, 2, 2, 2, 3, 1, 0, 0, 0, 0, 1, 0, 1, 0, 1, 0, 0, 0, 1, 0, 2, 2, 2, 3, 1, 0, 0, 0, 0, 1, 0, 1, 0, 1, 0, 0, 0, 1, 0, 2, 2, 2] [] (agOf (iia w b N0 T0 lx dx tp).out) (iia w b N0 T0 lx dx tp).led
theorem iib' : (fun r => Lk r [(0, lx, ⟨.ref 52, some dx, .plain, #[]⟩), (1, dx, ⟨.type "dict", none, .dict #[entZ w.params sLineno (T1 + 2) (.int 1 T1), entZ w.params sInstream (T1 + 4) (.ref tp), entZ w.params sWhite (T1 + 7) (.str wsS (T1 + 5)), entZ w.params sPush (T1 + 9) (.ref N1)] 4, #[]⟩), (3, N1, listO #[] 0)] (finOf r.out = some (.done (.ret .none))) (True)) (iib w b N0 T0 lx dx tp N1 T1) := by cases b <;> rfl'
end
theorem fn28 (w : World) : FnAt w 28 (fdK w.params 28) := ⟨⟨o28 w.params, by kernel_rfl, by kernel_rfl⟩, by kernel_rfl, by kernel_rfl, ⟨bodyOf (fdK w.params 28), by kernel_rfl⟩, ⟨27, o27 w.params, flds (o27 w.params), tokOf ((flds (o27 w.params)).getD 1 .none), by kernel_rfl, by kernel_rfl, by kernel_rfl, by kernel_rfl⟩⟩
theorem init_ok {w : World} {lx dx tp : Nat} : Ctr w 1 (.call (.ref 28) ⟨[.ref lx, .ref tp], []⟩) (fun h => h.get? lx = some ⟨.ref 52, some dx, .plain, #[]⟩ ∧ h.get? dx = some dO0 ∧ lx ≠ dx ∧ Off w lx ∧ Off w dx) (fun h v h' => ∃ k1 k2 k3 k4 kw tl pb, v = .none ∧ Kp [dx] h h' ∧ h.objs.size ≤ pb ∧
    h'.get? dx = some ⟨.type "dict", none, .dict #[ent w.params sLineno k1 (.int 1 tl), ent w.params sInstream k2 (.ref tp), ent w.params sWhite k3 (.str wsS kw), ent w.params sPush k4 (.ref pb)] 4, #[]⟩ ∧ h'.get? pb = some (listO #[] 0)) := by
  rintro A R ⟨h0, g, d, T, ost⟩ hA hd S ⟨L1, L2, L3, L4, L5⟩ H
  obtain ⟨b, hb⟩ : ∃ b, w.params.followText "special-get-raises" = b := ⟨_, rfl⟩
  obtain ⟨N, hN⟩ : ∃ N, h0.objs.size = N := ⟨_, rfl⟩
  have ha : ∀ p ∈ ([(lx, ⟨.ref 52, some dx, .plain, #[]⟩), (dx, dO0)] : Led), h0.get? p.1 = some p.2 := by
    exact mC (L1) (mC (L2) mN)
  have C0 : Cur w h0 (([(lx, ⟨.ref 52, some dx, .plain, #[]⟩), (dx, dO0)] : Led).map (·.1)) h0 [(lx, ⟨.ref 52, some dx, .plain, #[]⟩), (dx, dO0)] := by
    refine Cur.start S ha (by simpa using L3) ?_
    exact mC (L4) (mC (L5) mN)
  refine seg_fn C0 (fn28 w) hb hA (by first | exact room0 hd | omega) hN _ (iia.eq_1 w b N T lx dx tp) (iia' ..).s (iia' ..).o fun h1 N1 T1 hN1 C1 => ?_
  refine code_fin C1 hb hA hN1 _ (iib.eq_1 w b N T lx dx tp N1 T1) no_orc (iib' ..).s (iib' ..).o fun h2 N2 T2 hN2 C2 => ?_
  have K2 : Kp [dx] h0 h2 := by
    refine C2.fin ha ?_
    exact mC (.inr (C2.at' ((iib' ..).g 0 rfl))) (mC (.inl (by ac_rfl)) mN)
  refine H _ _ _ ⟨T1 + 2, T1 + 4, T1 + 7, T1 + 9, T1 + 5, T1, N1, rfl, K2, by rw [← hN1]; exact C1.kp.1, (C2.at' ((iib' ..).g 1 rfl)).trans (by simp only [entZ_is]), C2.at' ((iib' ..).g 2 rfl)⟩
section
variable (w : World) (b : Bool) (N0 T0 : Nat) (s : Str) (k : Nat) (f : Int) (u N1 T1 N2 T2 : Nat) (y : Str) (yk : Nat)
@[irreducible] noncomputable def spa : Res := enterZ (VV w b N0 T0) 100 [1, 1, 1, 1] [] 78 (fdK w.params 78) ⟨[.str s k, .int f u], []⟩ []
theorem spa' : (fun r => Lk r [] (isAg r.out = true) (True)) (spa w b N0 T0 s k f u) := by cases b <;> rfl'
@[irreducible] noncomputable def spb : Res := startZ (VV w b N1 T1) 200 [1, 2, 1, 2] [⟨cB "int.__eq__" [.int f u, .int 0 T1], fun _ => .bool true, 0⟩, ⟨cB "str.__add__" [.str (s) k, .str (⟨#[32]⟩) (T1 + 1)], fun zz => .str ((s) ++ (⟨#[32]⟩)) zz, 1⟩] (agOf (spa w b N0 T0 s k f u).out) (spa w b N0 T0 s k f u).led
theorem spb' : (fun r => Lk r [] (finOf r.out = some (.done (.ret (.str (s ++ ⟨#[32]⟩) (T1 + 2))))) (True)) (spb w b N0 T0 s k f u N1 T1) := by cases b <;> rfl'
@[irreducible] noncomputable def spc : Res := startZ (VV w b N1 T1) 200 [1, 2, 1, 2, 1, 2, 2] [⟨cB "int.__eq__" [.int f u, .int 0 T1], fun _ => .bool false, 0⟩, ⟨cB "int.__eq__" [.int f u, .int 1 (T1 + 1)], fun _ => .bool true, 0⟩, ⟨cB "str.__add__" [.str (⟨#[34]⟩) (T1 + 2), .str (s) k], fun zz => .str ((⟨#[34]⟩) ++ (s)) zz, 1⟩, ⟨cB "str.__add__" [.str (⟨#[34]⟩ ++ s) (T1 + 3), .str (⟨#[34]⟩) (T1 + 4)], fun zz => .str ((⟨#[34]⟩ ++ s) ++ (⟨#[34]⟩)) zz, 1⟩] (agOf (spa w b N0 T0 s k f u).out) (spa w b N0 T0 s k f u).led
theorem spc' : (fun r => Lk r [] (finOf r.out = some (.done (.ret (.str ((⟨#[34]⟩ ++ s) ++ ⟨#[34]⟩) (T1 + 5))))) (True)) (spc w b N0 T0 s k f u N1 T1) := by cases b <;> rfl'
@[irreducible] noncomputable def spd : Res := startZ (VV w b N1 T1) 200 [1, 2, 1, 2, 1, 1] [⟨cB "int.__eq__" [.int f u, .int 0 T1], fun _ => .bool false, 0⟩, ⟨cB "int.__eq__" [.int f u, .int 1 (T1 + 1)], fun _ => .bool false, 0⟩] (agOf (spa w b N0 T0 s k f u).out) (spa w b N0 T0 s k f u).led
theorem spd' : (fun r => Lk r [] (callOf r.out = some (cB "str.replace" [.str s k, .str ⟨#[32]⟩ (T1 + 3), .str ⟨#[32, 10, 92]⟩ (T1 + 4)])) (wtO r.out = 1)) (spd w b N0 T0 s k f u N1 T1) := by cases b <;> rfl'
@[irreducible] noncomputable def spe : Res := resumeZ (VV w b N2 T2) 200 [2, 2] [⟨cB "str.__add__" [.str (⟨#[92]⟩) (T1 + 2), .str (y) yk], fun zz => .str ((⟨#[92]⟩) ++ (y)) zz, 1⟩, ⟨cB "str.__add__" [.str (⟨#[92]⟩ ++ y) T2, .str (⟨#[10]⟩) (T2 + 1)], fun zz => .str ((⟨#[92]⟩ ++ y) ++ (⟨#[10]⟩)) zz, 1⟩] (spd w b N0 T0 s k f u N1 T1).out (.ok (.ret (.str y yk))) (spd w b N0 T0 s k f u N1 T1).led
theorem spe' : (fun r => Lk r [] (finOf r.out = some (.done (.ret (.str ((⟨#[92]⟩ ++ y) ++ ⟨#[10]⟩) (T2 + 2))))) (True)) (spe w b N0 T0 s k f u N1 T1 N2 T2 y yk) := by cases b <;> rfl'
end
theorem fn78 (w : World) : FnAt w 78 (fdK w.params 78) := ⟨⟨o78 w.params, by kernel_rfl, by kernel_rfl⟩, by kernel_rfl, by kernel_rfl, ⟨bodyOf (fdK w.params 78), by kernel_rfl⟩, ⟨77, o77 w.params, flds (o77 w.params), tokOf ((flds (o77 w.params)).getD 1 .none), by kernel_rfl, by kernel_rfl, by kernel_rfl, by kernel_rfl⟩⟩
noncomputable def speltL (l : List Nat) (f : Int) : List Nat := if f = 0 then l ++ [32] else if f = 1 then 34 :: l ++ [34] else 92 :: rpl 32 [32, 10, 92] l ++ [10]
theorem rpl_pos {c : Nat} {z l : List Nat} (hz : z ≠ []) (hl : l ≠ []) : rpl c z l ≠ [] := by
  cases l with
  | nil => exact absurd rfl hl
  | cons a l =>
    unfold rpl
    rw [List.flatMap_cons]
    split
    · intro h; exact hz (List.append_eq_nil_iff.mp h).1
    · simp
theorem rpl_len (c : Nat) (z : List Nat) : ∀ l : List Nat, (rpl c z l).length ≤ l.length + l.length * z.length
  | [] => by simp [rpl]
  | a :: l => by
    have ih := rpl_len c z l
    unfold rpl at ih ⊢
    rw [List.flatMap_cons, List.length_append, List.length_cons, Nat.succ_mul]
    have : (if a = c then z else [a]).length ≤ z.length + 1 := by
      split
      · omega
      · simp
    omega
theorem strPos {s : Str} : (s.length == 0) = false ↔ s.cps.toList ≠ [] := by
  rw [beq_eq_false_iff_ne]
  show s.cps.size ≠ 0 ↔ _
  rw [← Array.length_toList, ne_eq, List.length_eq_zero_iff]
theorem str_toS {s : Str} {l : List Nat} (h : s.cps.toList = l) : s = toS l := Str.ext' (Array.ext' h)
theorem spelt_ok {w : World} {s : Str} {k : Nat} {f : Int} {u : Nat} (hs : (s.length == 0) = false) (hsz : 4 * s.length + 10 ≤ sizeLine) : Ctr w 1 (.call (.ref 78) ⟨[.str s k, .int f u], []⟩) (fun _ => True) (fun h v h' => (∃ t, v = .str (toS (speltL s.cps.toList f)) t) ∧ Kp [] h h') := by
  rintro A R ⟨h0, g, d, T, ost⟩ hA hd S - H
  obtain ⟨b, hb⟩ : ∃ b, w.params.followText "special-get-raises" = b := ⟨_, rfl⟩
  obtain ⟨N, hN⟩ : ∃ N, h0.objs.size = N := ⟨_, rfl⟩
  have C0 : Cur w h0 (([] : Led).map (·.1)) h0 [] := Cur.start S (fun p hp => nomatch hp) (by ac_rfl) (fun p hp => nomatch hp)
  have al : ∀ x y : Str, (x ++ y).length = x.length + y.length := fun x y => by simp [Str.length, Str.cps_append]
  refine seg_fn C0 (fn78 w) hb hA (by first | exact room0 hd | omega) hN _ (spa.eq_1 w b N T s k f u) (spa' ..).s (spa' ..).o fun h1 N1 T1 hN1 C1 => ?_
  by_cases f0 : f = 0
  · refine code_fin C1 hb hA hN1 _ (spb.eq_1 w b N T s k f u N1 T1) ?_ (spb' ..).s (spb' ..).o fun h2 N2 T2 hN2 C2 => H _ _ _ ⟨⟨_, congrArg (Value.str · _) (str_toS ?_)⟩, C2.kp⟩
    · exact mC (oIntEq (by simpa using f0)) (mC (oStrAdd hs rfl (by rw [al]; show _ + 1 ≤ _; omega)) mN)
    · simp [speltL, f0, Str.cps_append]
  by_cases f1 : f = 1
  · refine code_fin C1 hb hA hN1 _ (spc.eq_1 w b N T s k f u N1 T1) ?_ (spc' ..).s (spc' ..).o fun h2 N2 T2 hN2 C2 => H _ _ _ ⟨⟨_, congrArg (Value.str · _) (str_toS ?_)⟩, C2.kp⟩
    · exact mC (oIntEq (by simpa using f0)) (mC (oIntEq (by simpa using f1)) (mC (oStrAdd rfl hs (by rw [al]; show 1 + _ ≤ _; omega)) (mC (oStrAdd (strPos.mpr (by simp [Str.cps_append])) rfl (by rw [al, al]; show 1 + _ + 1 ≤ _; omega)) mN)))
    · simp [speltL, f0, f1, Str.cps_append]
  refine code_call C1 hb hA hN1 _ (spd.eq_1 w b N T s k f u N1 T1) ?_ (spd' ..).s (spd' ..).o fun h2 N2 T2 hN2 C2 => ?_
  · exact mC (oIntEq (by simpa using f0)) (mC (oIntEq (by simpa using f1)) mN)
  refine cReplace (by omega) (by omega) (by omega) rfl (by show _ + (_ + 1) * 3 ≤ _; omega) fun y T3 => ?_
  have hy := replace_L s ⟨#[32, 10, 92]⟩ 32
  have hyl := rpl_len 32 [32, 10, 92] s.cps.toList
  generalize Txt.replace s ⟨#[32]⟩ ⟨#[32, 10, 92]⟩ = z at hy
  have hzl : z.length ≤ 4 * s.length := by
    have e1 : z.length = z.cps.toList.length := rfl
    have e2 : s.cps.toList.length = s.length := rfl
    rw [e1, hy]
    rw [e2] at hyl
    refine Nat.le_trans hyl ?_
    show s.length + s.length * 3 ≤ _
    omega
  refine res_fin C2 hb hA hN2 _ (spe.eq_1 w b N T s k f u N1 T1 N2 T3 z y) ?_ (spe' ..).s (spe' ..).o fun h3 N3 T4 hN3 C3 => H _ _ _ ⟨⟨_, congrArg (Value.str · _) (str_toS ?_)⟩, C3.kp⟩
  · exact mC (oStrAdd rfl (strPos.mpr (by rw [hy]; exact rpl_pos (by ac_rfl) (strPos.mp hs))) (by rw [al]; show 1 + _ ≤ _; omega)) (mC (oStrAdd (strPos.mpr (by simp [Str.cps_append])) rfl (by rw [al, al]; show 1 + _ + 1 ≤ _; omega)) mN)
  · simp [speltL, f0, f1, Str.cps_append, hy]
theorem gShl (t u : Nat) : ∀ i : Nat, i < 32 → Gives (Builtin.«int.__lshift__» ⟨[.int 1 t, .int (i : Int) u], []⟩) (.int ((2 ^ i : Nat) : Int))
  | 0, _ => .of_eq (by kernel_rfl)
  | 1, _ => .of_eq (by kernel_rfl)
  | 2, _ => .of_eq (by kernel_rfl)
  | 3, _ => .of_eq (by kernel_rfl)
  | 4, _ => .of_eq (by kernel_rfl)
  | 5, _ => .of_eq (by kernel_rfl)
  | 6, _ => .of_eq (by kernel_rfl)
  | 7, _ => .of_eq (by kernel_rfl)
  | 8, _ => .of_eq (by kernel_rfl)
  | 9, _ => .of_eq (by kernel_rfl)
  | 10, _ => .of_eq (by kernel_rfl)
  | 11, _ => .of_eq (by kernel_rfl)
  | 12, _ => .of_eq (by kernel_rfl)
  | 13, _ => .of_eq (by kernel_rfl)
  | 14, _ => .of_eq (by kernel_rfl)
  | 15, _ => .of_eq (by kernel_rfl)
  | 16, _ => .of_eq (by kernel_rfl)
  | 17, _ => .of_eq (by kernel_rfl)
  | 18, _ => .of_eq (by kernel_rfl)
  | 19, _ => .of_eq (by kernel_rfl)
  | 20, _ => .of_eq (by kernel_rfl)
  | 21, _ => .of_eq (by kernel_rfl)
  | 22, _ => .of_eq (by kernel_rfl)
  | 23, _ => .of_eq (by kernel_rfl)
  | 24, _ => .of_eq (by kernel_rfl)
  | 25, _ => .of_eq (by kernel_rfl)
  | 26, _ => .of_eq (by kernel_rfl)
  | 27, _ => .of_eq (by kernel_rfl)
  | 28, _ => .of_eq (by kernel_rfl)
  | 29, _ => .of_eq (by kernel_rfl)
  | 30, _ => .of_eq (by kernel_rfl)
  | 31, _ => .of_eq (by kernel_rfl)
  | n + 32, h => absurd h (by omega)
theorem oShl {w : World} {t u i : Nat} (hi : i < 32) : OrcOk pg w ⟨cB "int.__lshift__" [.int 1 t, .int (i : Int) u], fun k => .int ((2 ^ i : Nat) : Int) k, 1⟩ :=
  orc_int F.slot_int_lshift (fun s => typeIs_int s 1 t) F.entry_int_lshift (F.args_int_lshift_2 _ _) (gShl t u i hi)
theorem oAnd {w : World} {x y z : Int} {t u : Nat} (h : Builtin.bitAnd x y = z) : OrcOk pg w ⟨cB "int.__and__" [.int x t, .int y u], fun k => .int z k, 1⟩ :=
  h ▸ orc_int F.slot_int_and (fun s => typeIs_int s x t) F.entry_int_and (F.args_int_and_2 _ _) (.of_eq rfl)
theorem oXor {w : World} {x y z : Int} {t u : Nat} (h : Builtin.bitXor x y = z) : OrcOk pg w ⟨cB "int.__xor__" [.int x t, .int y u], fun k => .int z k, 1⟩ :=
  h ▸ orc_int F.slot_int_xor (fun s => typeIs_int s x t) F.entry_int_xor (F.args_int_xor_2 _ _) (.of_eq rfl)
theorem oHex {w : World} {x : Int} {y : Str} {t : Nat} (h : baseText "0x" 16 x = y) (hy : y.length ≤ sizeLine) : OrcOk pg w ⟨cB "hex" [.int x t], fun k => .str y k, 1⟩ := fun A R s hR => by
  refine codeAny_call_builtin F.plain_hex F.entry_hex ?_
  have g := gives_hex x t pg w A R s
  rw [h] at g
  have hfin := g ⟨hy, hR⟩
  have ha := F.args_hex1 (.int x t)
  simp only [checkBuiltinCall, F.kind_hex]
  cases hsig : Manifest.signature? "hex" with
  | none => exact wpAny_pure hfin
  | some sig =>
    simp only [argsOk, hsig] at ha
    have h2 : Bind.checkArgs "hex" sig ⟨[.int x t], []⟩ = pure () := ha
    show wpAny _ A.in1 (Bind.checkArgs "hex" sig ⟨[.int x t], []⟩) _ _ s
    rw [h2]
    exact wpAny_pure hfin
noncomputable abbrev rgO (x l : Int) : Obj := ⟨.type "range_iterator", none, .fields #[.int x 0, .int l 0, .int 1 0], #[]⟩
section
variable {w : World} {A : Around} {R : Result → Shared → Prop} {h₀ : Heap} {g : Array GenState} {d : Drawn} {T : Nat} {ost : OsState}
theorem cRgItem {it : Addr} {x l : Int} (hit : h₀.get? it = some (rgO x l)) (hl : 0 < l) (h : ∀ h', Kp [it] h₀ h' → h'.get? it = some (rgO (x + 1) (l - 1)) → R (.ok (.ret (.int x T))) ⟨h', g, d, T + 1, ost⟩) : codeAny (model pg w) A (cB "range_iterator.__next__" [.ref it]) R ⟨h₀, g, d, T, ost⟩ := by
  refine code_meets F.slot_range_iterator_next ⟨_, hit, rfl⟩ F.entry_range_iterator_next (F.args_range_iterator_next_1 _) (AutoRange.range_iterator___next___range_iterator_1 it x l 1 (by omega)) ⟨hit, h _ ?_ ?_⟩
  · exact (kp_upd h₀ it _).trans (kp_upd _ it _) fun a ha => .inl ha
  · exact Heap.get?_update_self _ (Heap.get?_update_self _ hit rfl) rfl
theorem cRgStop {it : Addr} {x : Int} (hA : A.handled = none) (hit : h₀.get? it = some (rgO x 0)) (h : ∀ h' e tp, Kp [] h₀ h' → h'.get? e = some (stopO tp) → h₀.objs.size ≤ e → R (.error (.ref e)) ⟨h', g, d, T, ost⟩) : codeAny (model pg w) A (cB "range_iterator.__next__" [.ref it]) R ⟨h₀, g, d, T, ost⟩ := by
  refine codeAny_call_builtin F.slot_range_iterator_next.plain F.entry_range_iterator_next (F.slot_range_iterator_next.check _ _ _ _ _ _ _ _ ⟨_, hit, rfl⟩ (F.args_range_iterator_next_1 _) ?_)
  show wpAny _ _ (field (.ref it) 0 >>= _) _ _ _
  refine wpAny_bind (wpAny_field hit rfl (x := .int x 0) rfl ?_)
  show wpAny _ _ (field (.ref it) 1 >>= _) _ _ _
  refine wpAny_bind (wpAny_field hit rfl (x := .int 0 0) rfl ?_)
  show wpAny _ _ (field (.ref it) 2 >>= _) _ _ _
  refine wpAny_bind (wpAny_field hit rfl (x := .int 1 0) rfl ?_)
  show wpAny _ _ (if (0 : Int) ≤ 0 then _ else _) _ _ _
  rw [if_pos (by decide)]
  refine wpAny_bind (wpAny_rule (wpAny_bind ?_))
  show wpAny _ _ (newExc (.type "StopIteration") [] >>= _) _ _ _
  refine wpAny_bind ?_
  simp only [newExc, newTuple]
  refine wpAny_bind (wpAny_newObj_type ?_ (by size_fits))
  refine wpAny_bind (m := firstArgMember _ _) (wpAny_of_eq (a := Value.none) (by first | rfl | (simp only [firstArgMember]; rfl)) ?_)
  refine wpAny_newObj_type ?_ (by size_fits)
  simp only [raiseNew]
  refine wpAny_bind (wpAny_handled ?_)
  rw [show A.in1.handled = none from hA]
  refine wpAny_bind (wpAny_pure (wpAny_throw ?_))
  have U1 := kp_push h₀ ⟨.type "tuple", none, .seq #[] 0, #[]⟩
  have U := U1.trans (kp_push _ (stopO h₀.objs.size)) fun a ha => nomatch ha
  exact h _ _ _ U (Heap.get?_push_size _ rfl) U1.1
noncomputable def nm (i : Nat) : Str := names.getD i ⟨#[]⟩
theorem get57 (w : World) (th : Nat) : ∀ i : Nat, i < 11 → ∃ k, ((findBy (intKind pg w).is (match (o57 w.params).data with | .dict es _ => es | _ => #[]) ((2 ^ i : Nat) : Int)).getD (.str (baseText "0x" 16 ((2 ^ i : Nat) : Int)) th)) = .str (nm i) k
  | 0, _ => ⟨250, by kernel_rfl⟩
  | 1, _ => ⟨252, by kernel_rfl⟩
  | 2, _ => ⟨254, by kernel_rfl⟩
  | 3, _ => ⟨256, by kernel_rfl⟩
  | 4, _ => ⟨258, by kernel_rfl⟩
  | 5, _ => ⟨260, by kernel_rfl⟩
  | 6, _ => ⟨262, by kernel_rfl⟩
  | 7, _ => ⟨264, by kernel_rfl⟩
  | 8, _ => ⟨266, by kernel_rfl⟩
  | 9, _ => ⟨268, by kernel_rfl⟩
  | 10, _ => ⟨th, by kernel_rfl⟩
  | n + 11, h => absurd h (by omega)
theorem cDGet {i tf th : Nat} (S : Sta w h₀) (hi : i < 11) (h : ∀ k T', R (.ok (.ret (.str (nm i) k))) ⟨h₀, g, d, T', ost⟩) : codeAny (model pg w) A (cB "dict.get" [.ref 57, .int ((2 ^ i : Nat) : Int) tf, .str (baseText "0x" 16 ((2 ^ i : Nat) : Int)) th]) R ⟨h₀, g, d, T, ost⟩ := by
  have h57 : h₀.get? 57 = some (o57 w.params) := S 57 _ (by kernel_rfl)
  have hm : h₀.MapOf (intKind pg w) 57 (fun k => findBy (intKind pg w).is (match (o57 w.params).data with | .dict es _ => es | _ => #[]) k) := by
    refine ⟨_, _, _, h57, ⟨rfl, rfl, rfl⟩, rfl, ?_, fun _ => rfl⟩
    intro e he
    simp only [List.mem_toArray, List.mem_cons, nmn, or_false] at he
    rcases he with rfl | rfl | rfl | rfl | rfl | rfl | rfl | rfl | rfl | rfl 
    · exact ⟨1, rfl, by kernel_rfl⟩
    · exact ⟨2, rfl, by kernel_rfl⟩
    · exact ⟨4, rfl, by kernel_rfl⟩
    · exact ⟨8, rfl, by kernel_rfl⟩
    · exact ⟨16, rfl, by kernel_rfl⟩
    · exact ⟨32, rfl, by kernel_rfl⟩
    · exact ⟨64, rfl, by kernel_rfl⟩
    · exact ⟨128, rfl, by kernel_rfl⟩
    · exact ⟨256, rfl, by kernel_rfl⟩
    · exact ⟨512, rfl, by kernel_rfl⟩
  refine codeAny_call_builtin F.slot_dict_get.plain F.entry_dict_get (F.slot_dict_get.check _ _ _ _ _ _ _ _ ⟨_, h57, rfl⟩ (F.args_dict_get_3 _ _ _) ?_)
  refine meets_dict_get_default (intKind pg w) 57 (k := ((2 ^ i : Nat) : Int)) (by simp [intKind, Value.isInt]) rfl _ A R _ ⟨_, hm, ?_⟩
  obtain ⟨k, e⟩ := get57 w th i hi
  rw [e]
  exact h _ _
end
noncomputable def sFlags : Str := ⟨#[102, 108, 97, 103, 115]⟩
noncomputable def sNames : Str := ⟨#[110, 97, 109, 101, 115]⟩
noncomputable def sI : Str := ⟨#[105]⟩
noncomputable def sFlag : Str := ⟨#[102, 108, 97, 103]⟩
structure BF where
  L : Nat
  nl : Nat
  it : Nat
  k1 : Nat
  k2 : Nat
  k3 : Nat
  k4 : Nat
noncomputable abbrev frB2 (P : Params) (F : BF) (f : Value) : Obj := ⟨.type "frame", none, .dict #[ent P sFlags F.k1 f, ent P sNames F.k2 (.ref F.nl)] 2, #[]⟩
noncomputable abbrev frB2z (P : Params) (F : BF) (f : Value) : Obj := ⟨.type "frame", none, .dict #[entZ P sFlags F.k1 f, entZ P sNames F.k2 (.ref F.nl)] 2, #[]⟩
noncomputable abbrev frB4 (P : Params) (F : BF) (f i fl : Value) : Obj := ⟨.type "frame", none, .dict #[ent P sFlags F.k1 f, ent P sNames F.k2 (.ref F.nl), ent P sI F.k3 i, ent P sFlag F.k4 fl] 4, #[]⟩
noncomputable abbrev frB4z (P : Params) (F : BF) (k3 k4 : Nat) (f i fl : Value) : Obj := ⟨.type "frame", none, .dict #[ent P sFlags F.k1 f, ent P sNames F.k2 (.ref F.nl), entZ P sI k3 i, entZ P sFlag k4 fl] 4, #[]⟩
theorem frB2z_is (P : Params) (F : BF) (f : Value) : frB2z P F f = frB2 P F f := by
  unfold frB2z; simp only [entZ_is]
theorem frB4z_is (P : Params) (F : BF) (k3 k4 : Nat) (f i fl : Value) : frB4z P F k3 k4 f i fl = frB4 P { F with k3 := k3, k4 := k4 } f i fl := by
  unfold frB4z; simp only [entZ_is]
noncomputable abbrev BS := Option (Nat × Nat × Int × Nat × Int × Nat)
noncomputable abbrev frBw (P : Params) (F : BF) (f : Value) : BS → Obj
  | none => frB2 P F f
  | some (k3, k4, i0, ti, g0, tg) => frB4 P { F with k3 := k3, k4 := k4 } f (.int i0 ti) (.int g0 tg)
noncomputable abbrev frBn (P : Params) (F : BF) (T : Nat) (f i fl : Value) : BS → Obj
  | none => frB4z P F T (T + 3) f i fl
  | some (k3, k4, _, _, _, _) => frB4 P { F with k3 := k3, k4 := k4 } f i fl
noncomputable def bsA (fs : BS) (T : Nat) : Nat := match fs with
  | none => T
  | some q => q.1
noncomputable def bsB (fs : BS) (T : Nat) : Nat := match fs with
  | none => T + 3
  | some q => q.2.1
theorem frBn_is (P : Params) (F : BF) (T : Nat) (f i fl : Value) (fs : BS) : frBn P F T f i fl fs = frB4 P { F with k3 := bsA fs T, k4 := bsB fs T } f i fl := by
  cases fs with
  | none => exact frB4z_is ..
  | some q => rfl
noncomputable def gbF (P : Params) : Stmt := nthS (bodyOf (fdK P 64)) 1
noncomputable def codeF (P : Params) (L it : Addr) : Code := forCode (gbF P) (.ref it) (envK P 64 63 L)
section
variable (w : World) (b : Bool) (N0 T0 : Nat) (F : BF) (f : Int) (tf : Nat) (fs : BS) (xs : Array Value) (n : Nat) (x l : Int) (N1 T1 tx : Nat) (x2 l2 fl a : Int) (hx : Str) (N2 T2 : Nat) (s : Str) (ts N3 T3 : Nat) (ys : Array Value) (m : Nat) (f2 : Int) (ee : Nat)
@[irreducible] noncomputable def pa4 : Res := startZ (VV w b N0 T0) 100 [3, 1] [] (codeF w.params F.L F.it) [(F.L, (frBw w.params F (.int f tf) fs)), (F.nl, listO xs n), (F.it, rgO x l)]
theorem pa4' : (fun r => Lk r [(0, F.L, (frBw w.params F (.int f tf) fs)), (1, F.nl, listO xs n), (2, F.it, rgO x l)] (callOf r.out = some (cB "range_iterator.__next__" [.ref F.it])) (wtO r.out = 0)) (pa4 w b N0 T0 F f tf fs xs n x l) := by cases b <;> rcases fs with _ | ⟨k3, k4, i0, ti, g0, tg⟩ <;> rfl'
@[irreducible] noncomputable def pb4 : Res := resumeZ (VV w b N1 T1) 300 [1, 1, 1, 2, 1, 1, 1, 1, 2, 2] [⟨cB "int.__lshift__" [.int 1 (T1 + 1), .int x tx], fun zz => .int fl zz, 1⟩, ⟨cB "int.__and__" [.int f tf, .int fl (T1 + 2)], fun zz => .int a zz, 1⟩, ⟨cB "int.__bool__" [.int a (T1 + 4)], fun _ => .bool false, 0⟩] (pa4 w b N0 T0 F f tf fs xs n x l).out (.ok (.ret (.int x tx))) (put (pa4 w b N0 T0 F f tf fs xs n x l).led 2 (rgO x2 l2))
theorem pb4' : (fun r => Lk r [(0, F.L, (frBn w.params F T1 (.int f tf) (.int x tx) (.int fl (T1 + 2)) fs)), (1, F.nl, listO xs n), (2, F.it, rgO x2 l2)] (finOf r.out = some (.again (codeF w.params F.L F.it))) (True)) (pb4 w b N0 T0 F f tf fs xs n x l N1 T1 tx x2 l2 fl a) := by cases b <;> rcases fs with _ | ⟨k3, k4, i0, ti, g0, tg⟩ <;> rfl'
@[irreducible] noncomputable def pc4 : Res := resumeZ (VV w b N1 T1) 300 [1, 1, 1, 2, 1, 1, 1, 1, 2, 2, 1, 2, 2, 2, 2, 0, 0, 0, 0, 0, 1, 0, 0, 1, 2, 1] [⟨cB "int.__lshift__" [.int 1 (T1 + 1), .int x tx], fun zz => .int fl zz, 1⟩, ⟨cB "int.__and__" [.int f tf, .int fl (T1 + 2)], fun zz => .int a zz, 1⟩, ⟨cB "int.__bool__" [.int a (T1 + 4)], fun _ => .bool true, 0⟩, ⟨cB "hex" [.int fl (T1 + 2)], fun zz => .str hx zz, 1⟩] (pa4 w b N0 T0 F f tf fs xs n x l).out (.ok (.ret (.int x tx))) (put (pa4 w b N0 T0 F f tf fs xs n x l).led 2 (rgO x2 l2))
theorem pc4' : (fun r => Lk r [(0, F.L, (frBn w.params F T1 (.int f tf) (.int x tx) (.int fl (T1 + 2)) fs)), (1, F.nl, listO xs n), (2, F.it, rgO x2 l2)] (callOf r.out = some (cB "dict.get" [.ref 57, .int fl (T1 + 2), .str hx (T1 + 5)])) (wtO r.out = 0)) (pc4 w b N0 T0 F f tf fs xs n x l N1 T1 tx x2 l2 fl a hx) := by cases b <;> rcases fs with _ | ⟨k3, k4, i0, ti, g0, tg⟩ <;> rfl'
@[irreducible] noncomputable def pd4 : Res := resumeZ (VV w b N2 T2) 300 [1] [] (pc4 w b N0 T0 F f tf fs xs n x l N1 T1 tx x2 l2 fl a hx).out (.ok (.ret (.str s ts))) (pc4 w b N0 T0 F f tf fs xs n x l N1 T1 tx x2 l2 fl a hx).led
theorem pd4' : (fun r => Lk r [(0, F.L, (frBn w.params F T1 (.int f tf) (.int x tx) (.int fl (T1 + 2)) fs)), (1, F.nl, listO xs n), (2, F.it, rgO x2 l2)] (callOf r.out = some (cB "list.append" [.ref F.nl, .str s ts])) (wtO r.out = 0)) (pd4 w b N0 T0 F f tf fs xs n x l N1 T1 tx x2 l2 fl a hx N2 T2 s ts) := by cases b <;> rcases fs with _ | ⟨k3, k4, i0, ti, g0, tg⟩ <;> rfl'
@[irreducible] noncomputable def pe4 : Res := resumeZ (VV w b N3 T3) 300 [1, 1, 2, 1, 1, 1, 2] [⟨cB "int.__xor__" [.int f tf, .int fl (T1 + 2)], fun zz => .int f2 zz, 1⟩, ⟨cB "int.__bool__" [.int f2 T3], fun _ => .bool true, 0⟩] (pd4 w b N0 T0 F f tf fs xs n x l N1 T1 tx x2 l2 fl a hx N2 T2 s ts).out (.ok (.ret .none)) (put (pd4 w b N0 T0 F f tf fs xs n x l N1 T1 tx x2 l2 fl a hx N2 T2 s ts).led 1 (listO ys m))
theorem pe4' : (fun r => Lk r [(0, F.L, (frBn w.params F T1 (.int f2 T3) (.int x tx) (.int fl (T1 + 2)) fs)), (1, F.nl, listO ys m), (2, F.it, rgO x2 l2)] (finOf r.out = some (.again (codeF w.params F.L F.it))) (True)) (pe4 w b N0 T0 F f tf fs xs n x l N1 T1 tx x2 l2 fl a hx N2 T2 s ts N3 T3 ys m f2) := by cases b <;> rcases fs with _ | ⟨k3, k4, i0, ti, g0, tg⟩ <;> rfl'
@[irreducible] noncomputable def pg4 : Res := resumeZ (VV w b N3 T3) 300 [1, 1, 2, 1, 1, 1, 2] [⟨cB "int.__xor__" [.int f tf, .int fl (T1 + 2)], fun zz => .int f2 zz, 1⟩, ⟨cB "int.__bool__" [.int f2 T3], fun _ => .bool false, 0⟩] (pd4 w b N0 T0 F f tf fs xs n x l N1 T1 tx x2 l2 fl a hx N2 T2 s ts).out (.ok (.ret .none)) (put (pd4 w b N0 T0 F f tf fs xs n x l N1 T1 tx x2 l2 fl a hx N2 T2 s ts).led 1 (listO ys m))
theorem pg4' : (fun r => Lk r [(0, F.L, (frBn w.params F T1 (.int f2 T3) (.int x tx) (.int fl (T1 + 2)) fs)), (1, F.nl, listO ys m), (2, F.it, rgO x2 l2)] (finOf r.out = some (.done .next)) (True)) (pg4 w b N0 T0 F f tf fs xs n x l N1 T1 tx x2 l2 fl a hx N2 T2 s ts N3 T3 ys m f2) := by cases b <;> rcases fs with _ | ⟨k3, k4, i0, ti, g0, tg⟩ <;> rfl'
@[irreducible] noncomputable def pz4 : Res := resumeZ (VV w b N1 T1) 100 [4] [] (pa4 w b N0 T0 F f tf fs xs n x l).out (.error (.ref ee)) (snoc (pa4 w b N0 T0 F f tf fs xs n x l).led ee (stopO ts))
theorem pz4' : (fun r => Lk r [] (isAg r.out = true) ((agOf r.out).quiet = true)) (pz4 w b N0 T0 F f tf fs xs n x l N1 T1 ts ee) := by cases b <;> rcases fs with _ | ⟨k3, k4, i0, ti, g0, tg⟩ <;> rfl'
@[irreducible] noncomputable def py4 : Res := startZ (VV w b N2 T2) 200 [1, 2, 2, 2, 2, 0, 0, 1, 2, 1] [⟨cB "hex" [.int f tf], fun zz => .str hx zz, 1⟩] (agOf (pz4 w b N0 T0 F f tf fs xs n x l N1 T1 ts ee).out) (pz4 w b N0 T0 F f tf fs xs n x l N1 T1 ts ee).led
theorem py4' : (fun r => Lk r [(0, F.L, (frBw w.params F (.int f tf) fs)), (1, F.nl, listO xs n), (2, F.it, rgO x l)] (callOf r.out = some (cB "list.append" [.ref F.nl, .str hx T2])) (wtO r.out = 0)) (py4 w b N0 T0 F f tf fs xs n x l N1 T1 hx N2 T2 ts ee) := by cases b <;> rcases fs with _ | ⟨k3, k4, i0, ti, g0, tg⟩ <;> rfl'
@[irreducible] noncomputable def px4 : Res := resumeZ (VV w b N3 T3) 100 [] [] (py4 w b N0 T0 F f tf fs xs n x l N1 T1 hx N2 T2 ts ee).out (.ok (.ret .none)) (put (py4 w b N0 T0 F f tf fs xs n x l N1 T1 hx N2 T2 ts ee).led 1 (listO ys m))
theorem px4' : (fun r => Lk r [(0, F.L, (frBw w.params F (.int f tf) fs)), (1, F.nl, listO ys m), (2, F.it, rgO x l)] (finOf r.out = some (.done .next)) (True)) (px4 w b N0 T0 F f tf fs xs n x l N1 T1 hx N2 T2 ts N3 T3 ys m ee) := by cases b <;> rcases fs with _ | ⟨k3, k4, i0, ti, g0, tg⟩ <;> rfl'
end
noncomputable def bitW (i m : Nat) : Nat → List Str
  | 0 => []
  | r + 1 => if m = 0 then [] else (if m % 2 = 1 then [nm i] else []) ++ bitW (i + 1) (m / 2) r
noncomputable abbrev BE (w : World) (F : BF) (f : Int) (tf : Nat) (xs : List (Str × Nat)) (n : Nat) (x l : Int) (fs : BS) : Led := [(F.L, frBw w.params F (.int f tf) fs), (F.nl, listO (sA xs) n), (F.it, rgO x l)]
structure BAt (w : World) (E : Led) (h : Heap) : Prop where
  at_ : ∀ p ∈ E, h.get? p.1 = some p.2
  nd : (E.map (·.1)).Nodup
  off : ∀ p ∈ E, Off w p.1
theorem BAt.cur {w : World} {E : Led} {h : Heap} (B : BAt w E h) (S : Sta w h) : Cur w h (E.map (·.1)) h E := Cur.start S B.at_ B.nd B.off
theorem BAt.set {w : World} {E E' : Led} {h h' : Heap} (B : BAt w E h) (hk : E'.map (·.1) = E.map (·.1)) (ha : ∀ p ∈ E', h'.get? p.1 = some p.2) : BAt w E' h' :=
  ⟨ha, by rw [hk]; exact B.nd, fun p hp => by
    have : p.1 ∈ E.map (·.1) := by rw [← hk]; exact List.mem_map_of_mem hp
    obtain ⟨q, hq, e⟩ := List.mem_map.mp this
    rw [← e]; exact B.off q hq⟩
theorem pos_ne {a : Nat} (h : 0 < a) : ((a : Int) != 0) = true := by simp; omega
theorem land_pow (m i : Nat) : m * 2 ^ i &&& 2 ^ i = if m % 2 = 1 then 2 ^ i else 0 := by
  apply Nat.eq_of_testBit_eq
  intro j
  rw [Nat.testBit_and, Nat.mul_comm, Nat.testBit_two_pow_mul, Nat.testBit_two_pow]
  by_cases hj : i = j
  · subst hj
    by_cases h : m % 2 = 1 <;> simp [h]
  · by_cases h : m % 2 = 1 <;> simp [h, hj, Nat.testBit_two_pow]
theorem bit_and (m i : Nat) : Builtin.bitAnd ((m * 2 ^ i : Nat) : Int) ((2 ^ i : Nat) : Int) = if m % 2 = 1 then ((2 ^ i : Nat) : Int) else 0 := by
  rw [bitAnd_pp (Int.natCast_nonneg _) (Int.natCast_nonneg _), Int.toNat_natCast, Int.toNat_natCast, land_pow]
  split <;> rfl
theorem bit_xor (m i : Nat) (h : m % 2 = 1) : Builtin.bitXor ((m * 2 ^ i : Nat) : Int) ((2 ^ i : Nat) : Int) = ((m / 2 * 2 ^ (i + 1) : Nat) : Int) := by
  unfold Builtin.bitXor
  rw [bitOr_and, bit_and, if_pos h]
  have e : m * 2 ^ i = m / 2 * 2 ^ (i + 1) + 2 ^ i := by
    have : m = m / 2 * 2 + 1 := by omega
    rw [Nat.pow_succ, Nat.mul_comm (2 ^ i) 2, ← Nat.mul_assoc, ← Nat.succ_mul]
    exact congrArg (· * 2 ^ i) this
  rw [e]
  omega
theorem bit_even (m i : Nat) (h : ¬ m % 2 = 1) : m * 2 ^ i = m / 2 * 2 ^ (i + 1) := by
  have : m = m / 2 * 2 := by omega
  rw [Nat.pow_succ, Nat.mul_comm (2 ^ i) 2, ← Nat.mul_assoc]
  exact congrArg (· * 2 ^ i) this
theorem bit_le (m i : Nat) : m / 2 * 2 ^ (i + 1) ≤ m * 2 ^ i := by
  rw [Nat.pow_succ, Nat.mul_comm (2 ^ i) 2, ← Nat.mul_assoc]
  exact Nat.mul_le_mul_right _ (by omega)
theorem hex_len {i : Nat} (hi : i < 11) : (baseText "0x" 16 ((2 ^ i : Nat) : Int)).length ≤ sizeLine := by
  have : ∀ i < 11, (baseText "0x" 16 ((2 ^ i : Nat) : Int)).length ≤ 10 := by decide +kernel
  exact Nat.le_trans (this i hi) (by decide)
theorem loopBt {w : World} {b : Bool} (hb : w.params.followText "special-get-raises" = b) (F : BF) :
    ∀ (r i m tf : Nat) (xs : List (Str × Nat)) (n : Nat) (fs : BS), i + r = 32 → m * 2 ^ i < 2 ^ 11 → xs.length + r + 1 ≤ sizeLine → (fs = none → r ≠ 0) →
    CtrF w 1 (codeF w.params F.L F.it) (BAt w (BE w F ((m * 2 ^ i : Nat) : Int) tf xs n (i : Int) ((r : Nat) : Int) fs)) (fun h f h' => f = .next ∧ Kp [F.L, F.nl, F.it] h h' ∧ ∃ ys n', ys.map (·.1) = xs.map (·.1) ++ (if m = 0 then [sZero] else bitW i m r) ∧ h'.get? F.nl = some (listO (sA ys) n') ∧ ∃ f' tf' fs', fs' ≠ none ∧ h'.get? F.L = some (frBw w.params F (.int f' tf') fs')) := by
  intro r
  induction r with
  | zero =>
    intro i m tf xs n fs hir hm hsz hfs
    cases fs with
    | none => exact absurd rfl (hfs rfl)
    | some q =>
      obtain ⟨k3, k4, i0, ti, g0, tg⟩ := q
      rintro A R ⟨h0, g, d, T, ost⟩ hA hd S B H
      obtain ⟨N, hN⟩ : ∃ N, h0.objs.size = N := ⟨_, rfl⟩
      have hm0 : m = 0 := by
        have hi : i = 32 := by omega
        subst hi
        omega
      subst hm0
      refine code_call (B.cur S) hb hA hN _ (pa4.eq_1 w b N T F ((0 * 2 ^ i : Nat) : Int) tf (some (k3, k4, i0, ti, g0, tg)) (sA xs) n (i : Int) 0) no_orc (pa4' ..).s (pa4' ..).o fun h1 N1 T1 hN1 C1 => ?_
      refine cRgStop (aroO_handled hA _) (C1.at' ((pa4' ..).g 2 rfl)) fun h2 e ts K2 e2 he => ?_
      have C2 := (C1.same K2).join e2 (fun hm => by
        obtain ⟨q, hq, e'⟩ := List.mem_map.mp hm
        have := Heap.lt_size (C1.at_ q hq)
        rw [e'] at this
        exact Nat.lt_irrefl _ (Nat.lt_of_lt_of_le this he)) (C1.sta.off he) (.inr (Nat.le_trans C1.kp.1 he))
      refine res_fin C2 hb hA rfl _ (pz4.eq_1 w b N T F ((0 * 2 ^ i : Nat) : Int) tf (some (k3, k4, i0, ti, g0, tg)) (sA xs) n (i : Int) 0 h2.objs.size T1 ts e) no_orc (pz4' ..).s (agOf_fin (pz4' ..).o) fun h3 N3 T3 hN3 C3 => ?_
      refine ⟨(pz4' ..).e, ?_⟩
      refine code_call C3 hb hA hN3 _ (py4.eq_1 w b N T F ((0 * 2 ^ i : Nat) : Int) tf (some (k3, k4, i0, ti, g0, tg)) (sA xs) n (i : Int) 0 h2.objs.size T1 sZero N3 T3 ts e) ?_ (py4' ..).s (py4' ..).o fun h4 N4 T4 hN4 C4 => ?_
      · exact mC (oHex (by rw [Nat.zero_mul]; kernel_rfl) (by decide)) mN
      refine cAppend (C4.at' ((py4' ..).g 1 rfl)) (by simp at hsz ⊢; omega) fun h5 N5 hN5 K5 e5 => ?_
      have C5 := C4.put1 ((py4' ..).g 1 rfl) K5 e5
      refine res_fin C5 hb hA hN5 _ (px4.eq_1 w b N T F ((0 * 2 ^ i : Nat) : Int) tf (some (k3, k4, i0, ti, g0, tg)) (sA xs) n (i : Int) 0 h2.objs.size T1 sZero N3 T3 ts N5 T4 ((sA xs).push (.str sZero T3)) (n + 1) e) no_orc (px4' ..).s (px4' ..).o fun h6 N6 T6 hN6 C6 => ?_
      refine H _ _ _ ⟨rfl, C6.kp, xs ++ [(sZero, T3)], n + 1, by simp, (C6.at' ((px4' ..).g 1 rfl)).trans (by rw [← sA_push xs (sZero, T3)]), _, _, some (k3, k4, i0, ti, g0, tg), by simp, C6.at' ((px4' ..).g 0 rfl)⟩
  | succ r ih =>
    intro i m tf xs n fs hir hm hsz hfs
    rintro A R ⟨h0, g, d, T, ost⟩ hA hd S B H
    obtain ⟨N, hN⟩ : ∃ N, h0.objs.size = N := ⟨_, rfl⟩
    refine code_call (B.cur S) hb hA hN _ (pa4.eq_1 w b N T F ((m * 2 ^ i : Nat) : Int) tf fs (sA xs) n (i : Int) (((r + 1 : Nat) : Int))) no_orc (pa4' ..).s (pa4' ..).o fun h1 N1 T1a hN1 C1 => ?_
    refine cRgItem (C1.at' ((pa4' ..).g 2 rfl)) (by omega) fun h2 K2 e2 => ?_
    have C2 := C1.put1 ((pa4' ..).g 2 rfl) K2 e2
    generalize hT1 : T1a + 1 = T1
    have er : (((r + 1 : Nat) : Int) - 1) = ((r : Nat) : Int) := by omega
    have ei : ((i : Int) + 1) = ((i + 1 : Nat) : Int) := by omega
    by_cases hm2 : m % 2 = 1
    · have hm0 : m ≠ 0 := by omega
      have hi11 : i < 11 := by
        rcases Nat.lt_or_ge i 11 with h | h
        · exact h
        · have h1 := Nat.pow_le_pow_right (n := 2) (by decide) h
          have h2 : 2 ^ i ≤ m * 2 ^ i := Nat.le_mul_of_pos_left _ (by omega)
          omega
      refine res_call C2 hb hA rfl _ (pc4.eq_1 w b N T F ((m * 2 ^ i : Nat) : Int) tf fs (sA xs) n (i : Int) (((r + 1 : Nat) : Int)) h2.objs.size T1 T1a ((i : Int) + 1) (((r + 1 : Nat) : Int) - 1) ((2 ^ i : Nat) : Int) ((2 ^ i : Nat) : Int) (baseText "0x" 16 ((2 ^ i : Nat) : Int))) ?_ (pc4' ..).s (pc4' ..).o fun h3 N3 T3 hN3 C3 => ?_
      · exact mC (oShl (by omega)) (mC (oAnd (by rw [bit_and, if_pos hm2])) (mC (oIntBool (pos_ne (Nat.two_pow_pos i))) (mC (oHex rfl (hex_len hi11)) mN)))
      refine cDGet C3.sta hi11 fun ks T4 => ?_
      refine res_call C3 hb hA hN3 _ (pd4.eq_1 w b N T F ((m * 2 ^ i : Nat) : Int) tf fs (sA xs) n (i : Int) (((r + 1 : Nat) : Int)) h2.objs.size T1 T1a ((i : Int) + 1) (((r + 1 : Nat) : Int) - 1) ((2 ^ i : Nat) : Int) ((2 ^ i : Nat) : Int) (baseText "0x" 16 ((2 ^ i : Nat) : Int)) N3 T4 (nm i) ks) no_orc (pd4' ..).s (pd4' ..).o fun h5 N5 T5 hN5 C5 => ?_
      refine cAppend (C5.at' ((pd4' ..).g 1 rfl)) (by simp at hsz ⊢; omega) fun h6 N6 hN6 K6 e6 => ?_
      have C6 := C5.put1 ((pd4' ..).g 1 rfl) K6 e6
      by_cases hm3 : m / 2 = 0
      · refine res_fin C6 hb hA hN6 _ (pg4.eq_1 w b N T F ((m * 2 ^ i : Nat) : Int) tf fs (sA xs) n (i : Int) (((r + 1 : Nat) : Int)) h2.objs.size T1 T1a ((i : Int) + 1) (((r + 1 : Nat) : Int) - 1) ((2 ^ i : Nat) : Int) ((2 ^ i : Nat) : Int) (baseText "0x" 16 ((2 ^ i : Nat) : Int)) N3 T4 (nm i) ks N6 T5 ((sA xs).push (.str (nm i) ks)) (n + 1) ((m / 2 * 2 ^ (i + 1) : Nat) : Int)) ?_ (pg4' ..).s (pg4' ..).o fun h7 N7 T7 hN7 C7 => ?_
        · exact mC (oXor (bit_xor m i hm2)) (mC (oIntBool (by simp [hm3])) mN)
        refine H _ _ _ ⟨rfl, C7.kp, xs ++ [(nm i, ks)], n + 1, ?_, (C7.at' ((pg4' ..).g 1 rfl)).trans (by rw [← sA_push xs (nm i, ks)]), _, _, some (bsA fs T1, bsB fs T1, (i : Int), T1a, ((2 ^ i : Nat) : Int), T1 + 2), by simp, (C7.at' ((pg4' ..).g 0 rfl)).trans (congrArg some (frBn_is ..))⟩
        rw [if_neg hm0, bitW, if_neg hm0, if_pos hm2, hm3]
        cases r <;> simp [bitW]
      · refine res_fin C6 hb hA hN6 _ (pe4.eq_1 w b N T F ((m * 2 ^ i : Nat) : Int) tf fs (sA xs) n (i : Int) (((r + 1 : Nat) : Int)) h2.objs.size T1 T1a ((i : Int) + 1) (((r + 1 : Nat) : Int) - 1) ((2 ^ i : Nat) : Int) ((2 ^ i : Nat) : Int) (baseText "0x" 16 ((2 ^ i : Nat) : Int)) N3 T4 (nm i) ks N6 T5 ((sA xs).push (.str (nm i) ks)) (n + 1) ((m / 2 * 2 ^ (i + 1) : Nat) : Int)) ?_ (pe4' ..).s (pe4' ..).o fun h7 N7 T7 hN7 C7 => ?_
        · exact mC (oXor (bit_xor m i hm2)) (mC (oIntBool (pos_ne (Nat.mul_pos (Nat.pos_of_ne_zero hm3) (Nat.two_pow_pos (i + 1))))) mN)
        have K7 : Kp [F.L, F.nl, F.it] h0 h7 := C7.kp
        have B7 : BAt w (BE w F ((m / 2 * 2 ^ (i + 1) : Nat) : Int) T5 (xs ++ [(nm i, ks)]) (n + 1) ((i + 1 : Nat) : Int) ((r : Nat) : Int) (some (bsA fs T1, bsB fs T1, (i : Int), T1a, ((2 ^ i : Nat) : Int), T1 + 2))) h7 := B.set rfl (by
          exact mC ((C7.at' ((pe4' ..).g 0 rfl)).trans (congrArg some (frBn_is ..))) (mC ((C7.at' ((pe4' ..).g 1 rfl)).trans (by rw [← sA_push xs (nm i, ks)])) (mC ((C7.at' ((pe4' ..).g 2 rfl)).trans (by rw [er, ei])) mN)))
        refine ⟨rfl, ih (i + 1) (m / 2) T5 (xs ++ [(nm i, ks)]) (n + 1) (some (bsA fs T1, bsB fs T1, (i : Int), T1a, ((2 ^ i : Nat) : Int), T1 + 2)) (by omega) (Nat.lt_of_le_of_lt (bit_le m i) hm) (by simp at hsz ⊢; omega) (by ac_rfl) _ _ _ hA hd C7.sta B7 fun f h' t' Q => H f h' t' ?_⟩
        obtain ⟨hf, K8, ys, n', e1, e2, Q⟩ := Q
        refine ⟨hf, K7.trans K8 (fun a ha => .inl ha), ys, n', ?_, e2, Q⟩
        rw [e1, if_neg hm0, if_neg hm3, bitW, if_neg hm0, if_pos hm2]
        simp
    · refine res_fin C2 hb hA rfl _ (pb4.eq_1 w b N T F ((m * 2 ^ i : Nat) : Int) tf fs (sA xs) n (i : Int) (((r + 1 : Nat) : Int)) h2.objs.size T1 T1a ((i : Int) + 1) (((r + 1 : Nat) : Int) - 1) ((2 ^ i : Nat) : Int) 0) ?_ (pb4' ..).s (pb4' ..).o fun h7 N7 T7 hN7 C7 => ?_
      · exact mC (oShl (by omega)) (mC (oAnd (by rw [bit_and, if_neg hm2])) (mC (oIntBool (by ac_rfl)) mN))
      have K7 : Kp [F.L, F.nl, F.it] h0 h7 := C7.kp
      have B7 : BAt w (BE w F ((m / 2 * 2 ^ (i + 1) : Nat) : Int) tf xs n ((i + 1 : Nat) : Int) ((r : Nat) : Int) (some (bsA fs T1, bsB fs T1, (i : Int), T1a, ((2 ^ i : Nat) : Int), T1 + 2))) h7 := B.set rfl (by
        simp only [fmc, nmn]
        rw [← bit_even m i hm2]
        exact ⟨(C7.at' ((pb4' ..).g 0 rfl)).trans (congrArg some (frBn_is ..)), C7.at' ((pb4' ..).g 1 rfl), (C7.at' ((pb4' ..).g 2 rfl)).trans (by rw [er, ei]), fun _ h => h.elim⟩)
      refine ⟨rfl, ih (i + 1) (m / 2) tf xs n (some (bsA fs T1, bsB fs T1, (i : Int), T1a, ((2 ^ i : Nat) : Int), T1 + 2)) (by omega) (Nat.lt_of_le_of_lt (bit_le m i) hm) (by omega) (by ac_rfl) _ _ _ hA hd C7.sta B7 fun f h' t' Q => H f h' t' ?_⟩
      obtain ⟨hf, K8, ys, n', e1, e2, Q⟩ := Q
      refine ⟨hf, K7.trans K8 (fun a ha => .inl ha), ys, n', ?_, e2, Q⟩
      rw [e1]
      by_cases hm0 : m = 0
      · rw [if_pos hm0, if_pos (by omega)]
      · rw [if_neg hm0, if_neg (by omega), bitW, if_neg hm0, if_neg hm2]
        rfl
section
variable (w : World) (b : Bool) (N0 T0 : Nat) (f : Int) (tf N1 T1 N2 T2 : Nat) (F : BF) (f2 : Int) (t2 : Nat) (i0 : Int) (ti : Nat) (g0 : Int) (tg N3 T3 : Nat) (s : Str) (ts : Nat)
@[irreducible] noncomputable def pqa : Res := enterZ (VV w b N0 T0) 100 [1, 1] [] 64 (fdK w.params 64) ⟨[.int f tf], []⟩ []
theorem pqa' : (fun r => Lk r [] (isAg r.out = true) (True)) (pqa w b N0 T0 f tf) := by cases b <;> rfl'
@[irreducible] noncomputable def pqb : Res := startZ (VV w b N1 T1) 300 [1, 1, 0, 0, 0, 0, 3, 3, 0, 3, 3, 3, 3, 0, 3, 3, 3, 3, 4, 1] [] (agOf (pqa w b N0 T0 f tf).out) (pqa w b N0 T0 f tf).led
theorem pqb' : (fun r => Lk r [(0, N0, frB2z w.params { L := N0, nl := N1, it := N1 + 2, k1 := T0, k2 := T1, k3 := 0, k4 := 0 } (.int f tf)), (1, N1, listO #[] 0), (3, N1 + 2, rgO 0 32)] (callOf r.out = some (codeF w.params N0 (N1 + 2))) (wtO r.out = 1)) (pqb w b N0 T0 f tf N1 T1) := by cases b <;> rfl'
@[irreducible] noncomputable def pqc : Res := resumeZ (VV w b N2 T2) 200 [1, 1] [] (pqb w b N0 T0 f tf N1 T1).out (.ok .next) [(N0, (frB4 w.params F (.int f2 t2) (.int i0 ti) (.int g0 tg)))]
theorem pqc' : (fun r => Lk r [(0, N0, (frB4 w.params F (.int f2 t2) (.int i0 ti) (.int g0 tg)))] (callOf r.out = some (cB "str.join" [.str ⟨#[44, 32]⟩ T2, .ref F.nl])) (wtO r.out = 1)) (pqc w b N0 T0 f tf N1 T1 N2 T2 F f2 t2 i0 ti g0 tg) := by cases b <;> rfl'
@[irreducible] noncomputable def pqd : Res := resumeZ (VV w b N3 T3) 200 [] [] (pqc w b N0 T0 f tf N1 T1 N2 T2 F f2 t2 i0 ti g0 tg).out (.ok (.ret (.str s ts))) (pqc w b N0 T0 f tf N1 T1 N2 T2 F f2 t2 i0 ti g0 tg).led
theorem pqd' : (fun r => Lk r [(0, N0, (frB4 w.params F (.int f2 t2) (.int i0 ti) (.int g0 tg)))] (finOf r.out = some (.done (.ret (.str s ts)))) (True)) (pqd w b N0 T0 f tf N1 T1 N2 T2 F f2 t2 i0 ti g0 tg N3 T3 s ts) := by cases b <;> rfl'
end
theorem fn64 (w : World) : FnAt w 64 (fdK w.params 64) := ⟨⟨o64 w.params, by kernel_rfl, by kernel_rfl⟩, by kernel_rfl, by kernel_rfl, ⟨bodyOf (fdK w.params 64), by kernel_rfl⟩, ⟨63, o63 w.params, flds (o63 w.params), tokOf ((flds (o63 w.params)).getD 1 .none), by kernel_rfl, by kernel_rfl, by kernel_rfl, by kernel_rfl⟩⟩
noncomputable def shown (n : Nat) : List Str := if n = 0 then [sZero] else bitW 0 n 32
noncomputable def pretty (n : Nat) : Str := Str.join ⟨#[44, 32]⟩ (shown n)
theorem nm_len (i : Nat) : (nm i).length ≤ 18 := by
  have : ∀ i < 12, (nm i).length ≤ 18 := by decide +kernel
  rcases Nat.lt_or_ge i 12 with h | h
  · exact this i h
  · unfold nm
    rw [List.getD_eq_getElem?_getD, List.getElem?_eq_none (by exact h)]
    decide
theorem bitW_len : ∀ (r i m : Nat), ((bitW i m r).map (·.length)).sum + (bitW i m r).length * 2 ≤ r * 20
  | 0, _, _ => by simp [bitW]
  | r + 1, i, m => by
    have ih := bitW_len r (i + 1) (m / 2)
    have := nm_len i
    unfold bitW
    split
    · simp
    · split
      · simp only [List.map_append, List.sum_append, List.length_append, List.map_cons, List.map_nil, List.sum_cons, List.sum_nil, List.length_cons, List.length_nil]
        omega
      · simp only [List.nil_append]
        omega
theorem pretty_ok {w : World} {n tn : Nat} (hn : n < 2 ^ 11) : Ctr w 2 (.call (.ref 64) ⟨[.int (n : Int) tn], []⟩) (fun _ => True) (fun h v h' => (∃ k, v = .str (pretty n) k) ∧ Kp [] h h') := by
  rintro A R ⟨h0, g, d, T, ost⟩ hA hd S - H
  obtain ⟨b, hb⟩ : ∃ b, w.params.followText "special-get-raises" = b := ⟨_, rfl⟩
  obtain ⟨N, hN⟩ : ∃ N, h0.objs.size = N := ⟨_, rfl⟩
  have C0 : Cur w h0 (([] : Led).map (·.1)) h0 [] := Cur.start S (fun p hp => nomatch hp) (by ac_rfl) (fun p hp => nomatch hp)
  refine seg_fn C0 (fn64 w) hb hA (by first | exact room0 hd | omega) hN _ (pqa.eq_1 w b N T (n : Int) tn) (pqa' ..).s (pqa' ..).o fun h1 N1 T1 hN1 C1 => ?_
  refine code_call C1 hb hA hN1 _ (pqb.eq_1 w b N T (n : Int) tn N1 T1) no_orc (pqb' ..).s (pqb' ..).o fun h2 N2 T2 hN2 C2 => ?_
  have b1 : N ≤ N1 := by rw [← hN1, ← hN]; exact C1.kp.1
  have B2 : BAt w (BE w { L := N, nl := N1, it := N1 + 2, k1 := T, k2 := T1, k3 := 0, k4 := 0 } ((n * 2 ^ 0 : Nat) : Int) tn [] 0 ((0 : Nat) : Int) ((32 : Nat) : Int) none) h2 := by
    refine ⟨?_, ?_, ?_⟩
    · simp only [fmc, nmn]
      rw [Nat.pow_zero, Nat.mul_one]
      exact ⟨(C2.at' ((pqb' ..).g 0 rfl)).trans (congrArg some (frB2z_is ..)), C2.at' ((pqb' ..).g 1 rfl), C2.at' ((pqb' ..).g 2 rfl), fun _ h => h.elim⟩
    · show [N, N1, N1 + 2].Nodup
      simp only [List.nodup_cons, List.mem_cons, nmn, or_false, not_or]
      exact ⟨⟨pick_ne C2.nd (by decide) ((pqb' w b N T (n : Int) tn N1 T1).g 0 rfl) ((pqb' ..).g 1 rfl), pick_ne C2.nd (by decide) ((pqb' w b N T (n : Int) tn N1 T1).g 0 rfl) ((pqb' ..).g 2 rfl)⟩, pick_ne C2.nd (by decide) ((pqb' w b N T (n : Int) tn N1 T1).g 1 rfl) ((pqb' ..).g 2 rfl), fun h => h.elim, List.nodup_nil⟩
    · exact mC (C2.off' ((pqb' ..).g 0 rfl)) (mC (C2.off' ((pqb' ..).g 1 rfl)) (mC (C2.off' ((pqb' ..).g 2 rfl)) mN))
  refine loopBt hb { L := N, nl := N1, it := N1 + 2, k1 := T, k2 := T1, k3 := 0, k4 := 0 } 32 0 n tn [] 0 none rfl (by simpa using hn) (by decide) (by ac_rfl) _ _ _ (aroO_handled hA _) (by first | exact room hd (pqb' ..).e rfl | (rw [aroO_depth, (pqb' ..).e]; omega)) C2.sta B2 fun f h3 T3 P => ?_
  obtain ⟨rfl, K3, ys, n', e1, e2, f2, t2, fs, hfs, e3⟩ := P
  have S3 : Sta w h3 := C2.sta.kp K3 (by
    exact mC (C2.off' ((pqb' ..).g 0 rfl)) (mC (C2.off' ((pqb' ..).g 1 rfl)) (mC (C2.off' ((pqb' ..).g 2 rfl)) mN)))
  cases fs with
  | none => exact absurd rfl hfs
  | some q =>
    obtain ⟨k3, k4, i0, ti, g0, tg⟩ := q
    have ha3 : ∀ p ∈ ([(N, frBw w.params { L := N, nl := N1, it := N1 + 2, k1 := T, k2 := T1, k3 := 0, k4 := 0 } (.int f2 t2) (some (k3, k4, i0, ti, g0, tg)))] : Led), h3.get? p.1 = some p.2 := by
      exact mC (e3) mN
    refine res_call (Cur.start S3 ha3 (by ac_rfl) (by
      exact mC (C2.off' ((pqb' ..).g 0 rfl)) mN)) hb hA rfl _ (pqc.eq_1 w b N T (n : Int) tn N1 T1 h3.objs.size T3 { ({ L := N, nl := N1, it := N1 + 2, k1 := T, k2 := T1, k3 := 0, k4 := 0 } : BF) with k3 := k3, k4 := k4 } f2 t2 i0 ti g0 tg) no_orc (pqc' ..).s (pqc' ..).o fun h4 N4 T4 hN4 C4 => ?_
    have K4 : Kp [] h3 h4 := by
      refine C4.fin ha3 ?_
      exact mC (.inr (C4.at' ((pqc' ..).g 0 rfl))) mN
    have ey : ys.map (·.1) = shown n := by rw [e1]; rfl
    refine cJoin (K4.get e2 (fun h => nomatch h)) ?_ fun k T5 => ?_
    · rw [← List.length_map (f := (·.1)), ey]
      unfold shown
      split
      · decide
      · exact Nat.le_trans (bitW_len 32 0 n) (by decide)
    rw [ey]
    refine res_fin C4 hb hA hN4 _ (pqd.eq_1 w b N T (n : Int) tn N1 T1 h3.objs.size T3 { ({ L := N, nl := N1, it := N1 + 2, k1 := T, k2 := T1, k3 := 0, k4 := 0 } : BF) with k3 := k3, k4 := k4 } f2 t2 i0 ti g0 tg N4 T5 (pretty n) k) no_orc (pqd' ..).s (pqd' ..).o fun h5 N5 T6 hN5 C5 => ?_
    have K5 : Kp [] h3 h5 := by
      refine C5.fin ha3 ?_
      exact mC (.inr (C5.at' ((pqd' ..).g 0 rfl))) mN
    refine H _ _ _ ⟨⟨_, rfl⟩, ((C2.kp.trans K3 ?_).trans K5 fun a ha => nomatch ha)⟩
    exact mC (.inr (by show h0.objs.size ≤ N; omega)) (mC (.inr (by show h0.objs.size ≤ N1; omega)) (mC (.inr (by show h0.objs.size ≤ N1 + 2; omega)) mN))
noncomputable def execsR (V : HV) (n : Nat) (hs : List Nat) (os : List Orc) (c : Code) (ss : List Stmt) (env : Env) (led : Led) : Res := startT V n hs os c (execs ss env >>= fun f => pure (.done f)) led
noncomputable def evalR (V : HV) (n : Nat) (hs : List Nat) (os : List Orc) (c : Code) (e : PySem.Expr) (env : Env) (led : Led) : Res := startT V n hs os c (eval e env >>= fun v => pure (.done (.ret v))) led
theorem execsR_rfl : @execsR = @execsR := rfl
theorem evalR_rfl : @evalR = @evalR := rfl
end Mine
lay_z Mine.execsR
lay_z Mine.evalR
name_z execsZ for Mine.execsR by Mine.execsR_rfl
name_z evalZ for Mine.evalR by Mine.evalR_rfl
namespace Mine
open PySem PySem.W PySem.W.X PyProof.Rows PySem.W.ZFast
section
variable {prog : Program} {w : World} {A : Around} {V : HV} {L₀ : List Addr} {s : Shared} {r : Res} {n : Nat} {hs : List Nat} {os : List Orc} {led : Led} {E : Value → Shared → Prop} {c : Code} {env : Env}
theorem own_back {α : Type} {m : Sem α} {k : α → Fin} {Q : Fin → Shared → Prop} (h : wpOwn (model prog w) A c (m >>= fun a => pure (k a)) Q E s) : wpOwn (model prog w) A c m (fun a s' => Q (k a) s') E s := fun Γ p hc hΓ => by
  have q := h Γ p hc hΓ
  rw [Sem.wp_bind'] at q
  exact Sem.wp_mono _ Γ m (fun a p' s' h' => h') (fun _ _ _ h' => h') p s q
theorem execs_run {ss : List Stmt} {Q : Fin → Shared → Prop} (hr : r = execsZ V n hs os c ss env led) (hask : V.ask = ⟨prog, w.params⟩) (hA : A.handled = none) (hT : V.T = s.toks) (hos : ∀ o ∈ os, OrcOk prog w o) (hsm : Sames r)
    (D : Hold V s.heap L₀ s.heap led 0) (H : Ful V s.heap L₀ s.gens s.drawn s.os prog w A Q E r) : wpOwn (model prog w) A c (execs ss env) (fun f s' => Q (.done f) s') E s := by
  rw [← congrFun (congrFun (congrFun (congrFun (congrFun (congrFun (congrFun (congrFun execsZ_eq V) n) hs) os) c) ss) env) led] at hr
  subst hr
  have z := run_sound (L₀ := L₀) (g := s.gens) (d := s.drawn) (ost := s.os) hask hA n hs os c .base (execs ss env >>= fun f => pure (.done f)) led 0 0 [] [] s.heap hos (same_all hsm.1) (same_all hsm.2) H D
  rw [Nat.add_zero, hT] at z
  exact own_back z
theorem eval_run {e : PySem.Expr} {Q : Fin → Shared → Prop} (hr : r = evalZ V n hs os c e env led) (hask : V.ask = ⟨prog, w.params⟩) (hA : A.handled = none) (hT : V.T = s.toks) (hos : ∀ o ∈ os, OrcOk prog w o) (hsm : Sames r)
    (D : Hold V s.heap L₀ s.heap led 0) (H : Ful V s.heap L₀ s.gens s.drawn s.os prog w A Q E r) : wpOwn (model prog w) A c (eval e env) (fun v s' => Q (.done (.ret v)) s') E s := by
  rw [← congrFun (congrFun (congrFun (congrFun (congrFun (congrFun (congrFun (congrFun evalZ_eq V) n) hs) os) c) e) env) led] at hr
  subst hr
  have z := run_sound (L₀ := L₀) (g := s.gens) (d := s.drawn) (ost := s.os) hask hA n hs os c .base (eval e env >>= fun v => pure (.done (.ret v))) led 0 0 [] [] s.heap hos (same_all hsm.1) (same_all hsm.2) H D
  rw [Nat.add_zero, hT] at z
  exact own_back z
end
section
variable {w : World} {b : Bool} {A : Around} {n : Nat} {hs : List Nat} {os : List Orc} {led : Led} {QB : Fin → Shared → Prop} {EB : Value → Shared → Prop} {s₀ h₀ : Heap} {M : List Addr} {g : Array GenState} {d : Drawn} {T N : Nat} {ost : OsState} {c c' : Code} {env : Env}
theorem execs_call {ss : List Stmt} (C : Cur w s₀ M h₀ led) (hb : w.params.followText "special-get-raises" = b) (hA : A.handled = none) (hN : h₀.objs.size = N)
    (r : Res) (hr : r = execsZ (VV w b N T) n hs os c ss env led) (hos : ∀ o ∈ os, OrcOk pg w o) (hsm : Sames r) (e : callOf r.out = some c')
    (H : ∀ h N' T', h.objs.size = N' → Cur w s₀ M h r.led → codeAny (model pg w) (aroO A r.out) c' (fun x s' => MeansO pg w A QB EB r.out x s') ⟨h, g, d, T', ost⟩) : wpOwn (model pg w) A c (execs ss env) (fun f s' => QB (.done f) s') EB ⟨h₀, g, d, T, ost⟩ := by
  subst hN
  exact execs_run (s := ⟨h₀, g, d, T, ost⟩) hr (askZ_is hb) hA rfl hos hsm (C.hold _) (ful_call e fun h D => H h _ _ rfl (C.run D))
theorem execs_fin {ss : List Stmt} {f : Fin} (C : Cur w s₀ M h₀ led) (hb : w.params.followText "special-get-raises" = b) (hA : A.handled = none) (hN : h₀.objs.size = N)
    (r : Res) (hr : r = execsZ (VV w b N T) n hs os c ss env led) (hos : ∀ o ∈ os, OrcOk pg w o) (hsm : Sames r) (e : finOf r.out = some f)
    (H : ∀ h N' T', h.objs.size = N' → Cur w s₀ M h r.led → QB f ⟨h, g, d, T', ost⟩) : wpOwn (model pg w) A c (execs ss env) (fun f s' => QB (.done f) s') EB ⟨h₀, g, d, T, ost⟩ := by
  subst hN
  exact execs_run (s := ⟨h₀, g, d, T, ost⟩) hr (askZ_is hb) hA rfl hos hsm (C.hold _) (ful_fin e fun h D => H h _ _ rfl (C.run D))
theorem eval_call {x : PySem.Expr} (C : Cur w s₀ M h₀ led) (hb : w.params.followText "special-get-raises" = b) (hA : A.handled = none) (hN : h₀.objs.size = N)
    (r : Res) (hr : r = evalZ (VV w b N T) n hs os c x env led) (hos : ∀ o ∈ os, OrcOk pg w o) (hsm : Sames r) (e : callOf r.out = some c')
    (H : ∀ h N' T', h.objs.size = N' → Cur w s₀ M h r.led → codeAny (model pg w) (aroO A r.out) c' (fun x s' => MeansO pg w A QB EB r.out x s') ⟨h, g, d, T', ost⟩) : wpOwn (model pg w) A c (eval x env) (fun v s' => QB (.done (.ret v)) s') EB ⟨h₀, g, d, T, ost⟩ := by
  subst hN
  exact eval_run (s := ⟨h₀, g, d, T, ost⟩) hr (askZ_is hb) hA rfl hos hsm (C.hold _) (ful_call e fun h D => H h _ _ rfl (C.run D))
theorem eval_fin {x : PySem.Expr} {f : Fin} (C : Cur w s₀ M h₀ led) (hb : w.params.followText "special-get-raises" = b) (hA : A.handled = none) (hN : h₀.objs.size = N)
    (r : Res) (hr : r = evalZ (VV w b N T) n hs os c x env led) (hos : ∀ o ∈ os, OrcOk pg w o) (hsm : Sames r) (e : finOf r.out = some f)
    (H : ∀ h N' T', h.objs.size = N' → Cur w s₀ M h r.led → QB f ⟨h, g, d, T', ost⟩) : wpOwn (model pg w) A c (eval x env) (fun v s' => QB (.done (.ret v)) s') EB ⟨h₀, g, d, T, ost⟩ := by
  subst hN
  exact eval_run (s := ⟨h₀, g, d, T, ost⟩) hr (askZ_is hb) hA rfl hos hsm (C.hold _) (ful_fin e fun h D => H h _ _ rfl (C.run D))
end
section
variable {M : Model} {A : Around} {s : Shared} {E : Value → Shared → Prop} {c : Code} {env : Env}
theorem own_cons {st : Stmt} {rest : List Stmt} {Q : Flow → Shared → Prop} (h : wpOwn M A c (exec st env) (fun f s' => match f with | .next => wpOwn M A c (execs rest env) Q E s' | f => Q f s') E s) : wpOwn M A c (execs (st :: rest) env) Q E s := fun Γ p hc hΓ => by
  rw [execs_cons, Sem.wp_bind']
  refine Sem.wp_mono M Γ _ (fun f p' s' h' => ?_) (fun _ _ _ h' => h') _ _ (h Γ p hc hΓ)
  cases f <;> first | exact h' Γ p' hc hΓ | exact h'
theorem wp_split {Γ : Ctx} {l₂ : List Stmt} {Q : Flow → Pos → Shared → Prop} {E : Value → Pos → Shared → Prop} : ∀ {l₁ : List Stmt} {p : Pos} {s : Shared}, Sem.wp M Γ (execs l₁ env) (fun f p' s' => match f with | .next => Sem.wp M Γ (execs l₂ env) Q E p' s' | f => Q f p' s') E p s → Sem.wp M Γ (execs (l₁ ++ l₂) env) Q E p s
  | [], p, s, h => h
  | st :: l₁, p, s, h => by
    show Sem.wp M Γ (execs (st :: (l₁ ++ l₂)) env) Q E p s
    rw [execs_cons, Sem.wp_bind'] at h ⊢
    refine Sem.wp_mono M Γ _ (fun f p' s' h' => ?_) (fun _ _ _ h' => h') _ _ h
    cases f with
    | next => exact wp_split (l₁ := l₁) h'
    | _ => exact h'
theorem own_split {l₁ l₂ : List Stmt} {Q : Flow → Shared → Prop} (h : wpOwn M A c (execs l₁ env) (fun f s' => match f with | .next => wpOwn M A c (execs l₂ env) Q E s' | f => Q f s') E s) : wpOwn M A c (execs (l₁ ++ l₂) env) Q E s := fun Γ p hc hΓ => by
  refine wp_split (Sem.wp_mono M Γ _ (fun f p' s' h' => ?_) (fun _ _ _ h' => h') _ _ (h Γ p hc hΓ))
  cases f with
  | next => exact h' Γ p' hc hΓ
  | _ => exact h'
theorem own_If {test : PySem.Expr} {body orelse : List Stmt} {pos : Pos} {Q : Flow → Shared → Prop} (h : wpOwn M A c (isTrue test env (eval test env)) (fun b s₂ => if b then wpOwn M A c (execs body env) Q E s₂ else wpOwn M A c (execs orelse env) Q E s₂) E s) : wpOwn M A c (exec (.If test body orelse pos) env) Q E s := fun Γ p hc hΓ => by
  simp only [exec_If, Sem.wp_bind', Sem.wp_cmd_standAt]
  refine Sem.wp_mono M Γ _ (fun b p₂ s₂ h₂ => ?_) (fun _ _ _ h' => h') _ _ (h Γ _ hc hΓ)
  cases b <;> exact h₂ Γ p₂ hc hΓ
theorem own_test {l r : PySem.Expr} {op : CmpOp} {pos : Pos} {whole : Sem Value} {Q : Bool → Shared → Prop} (hm : behindInMarks op r = false)
    (h : wpOwn M A c (eval l env) (fun a s₁ => wpOwn M A c (eval r env) (fun b s₂ => wpOwn M A c (compareOp op a b) (fun v s₃ => wpOwn M A c (truthy v) Q E s₃) E s₂) E s₁) E s) : wpOwn M A c (isTrue (.Compare l [op] [r] pos) env whole) Q E s := fun Γ p hc hΓ => by
  simp only [isTrue_Compare1, markedBehindIn_of_false hm, Sem.wp_bind', Sem.wp_holding, Sem.wp_cmd_standAt, Sem.wp_operate]
  exact Sem.wp_mono M Γ _ (fun a p₁ s₁ h₁ => Sem.wp_mono M Γ _ (fun b _ s₂ h₂ => Sem.wp_mono M Γ _ (fun c p₃ s₃ h₃ => h₃ Γ p₃ hc hΓ)
    (fun _ _ _ h' => h') _ _ (h₂ Γ _ hc hΓ)) (fun _ _ _ h' => h') _ _ (h₁ Γ p₁ hc hΓ)) (fun _ _ _ h' => h') _ _ (h Γ p hc hΓ)
theorem own_raise {α : Type} {m : Sem α} {k : Value → Sem Unit} {Q : α → Shared → Prop} (h : wpOwn M A c m Q (fun _ _ => False) s) : wpOwn M A c (m.onRaise k) Q E s := fun Γ p hc hΓ => by
  rw [Sem.wp_onRaise]
  exact Sem.wp_mono M Γ _ (fun _ _ _ h' => h') (fun _ _ _ h' => h'.elim) _ _ (h Γ p hc hΓ)
end
theorem own_func {w : World} {A : Around} {s : Shared} {body : List Stmt} {env : Env} {R : Result → Shared → Prop} (h : wpOwn (model pg w) A (.func body env) (execs body env) (fun f s' => R (.ok (.ret (match f with | .ret v => v | _ => .none))) s') (fun _ _ => False) s) : codeAny (model pg w) A (.func body env) R s := by
  refine codeAny_of_own ?_
  show wpOwn _ A _ (do point; match ← (execs body env).onRaise (leaving env) with | .ret v => ret v | _ => ret .none) _ _ s
  refine wpOwn_bind (wpOwn_of_wpAny (wpAny_point (wpOwn_bind (own_raise (wpOwn_mono h (fun f s' h' => ?_) fun _ _ h' => h')))))
  cases f <;> exact wpOwn_of_wpAny (wpAny_pure h')
noncomputable abbrev tupO (xs : Array Value) : Obj := ⟨.type "tuple", none, .seq xs 0, #[]⟩
open PySem.SeqAt in
theorem neTup {A : Around} {s : Shared} {a b pb p2 : Addr} {x p : Int} {t1 t2 t3 t4 n n2 : Nat} (ha : s.heap.get? a = some (tupO #[.int x t1, .int p t2, .ref pb])) (hb : s.heap.get? b = some (tupO #[.int x t3, .int p t4, .ref p2])) (hpb : s.heap.get? pb = some (listO #[] n)) (hp2 : s.heap.get? p2 = some (listO #[] n2)) (hne : pb ≠ p2) (hu : A.units + 1 < cLine) :
    RcNeAt A s (.ref a) (.ref b) false := by
  have q := RcNeAt.tuples (A := A) (s := s) (l := a) (b := b) (items := #[.int x t1, .int p t2, .ref pb]) (items2 := #[.int x t3, .int p t4, .ref p2]) (e := fun _ => true) ⟨_, ha, rfl, _, rfl⟩ ⟨_, hb, rfl, _, rfl⟩ (by omega) ?_
  · exact q
  · intro j h1 h2
    have : A.in1.units < cLine := hu
    match j, h1, h2 with
    | 0, _, _ => have := EqAt.int_int (A := A.in1) (s := s) x t1 x t3; simpa using this
    | 1, _, _ => have := EqAt.int_int (A := A.in1) (s := s) p t2 p t4; simpa using this
    | 2, _, _ =>
      refine EqAt.of_refs hne ?_
      exact RcAt.lists (items := #[]) (items2 := #[]) (e := fun _ => true) ⟨_, hpb, rfl, _, rfl⟩ ⟨_, hp2, rfl, _, rfl⟩ rfl this (fun j h => by simp at h)
noncomputable def envR (P : Params) (L : Addr) : Env := { envK P 116 115 L with cells := [(sHeld, L + 1)] }
noncomputable def bdR (P : Params) : List Stmt := bodyOf (fdK P 116)
noncomputable def cdR (P : Params) (L : Addr) : Code := .func (bdR P) (envR P L)
noncomputable def stR (P : Params) (j : Nat) : Stmt := nthS (bdR P) j
noncomputable def hdR (P : Params) : List Stmt := [stR P 0, stR P 1, stR P 2, stR P 3, stR P 4, stR P 5]
noncomputable def compOf : Stmt → PySem.Expr
  | .Assign _ (.Call _ (e :: _) _ _) _ => e
  | _ => default
noncomputable def envC (P : Params) (L d : Addr) : Env := { scope := { kind := .function, names := [(⟨#[46, 48]⟩, .local), (sWord, .local), (sHeld, .cell)], isGenerator := false, isCoroutine := false }, locals := d, globals := 3, cells := [(sHeld, L + 1)], qual := (envR P L).qual, code := .ref 115, frame := some L }
noncomputable def csR (P : Params) (L it : Addr) : Code := .compStart (compOf (stR P 5)) 0 (.ref it) (.ref (it + 1)) (envC P L (it + 2))
noncomputable def clR (P : Params) (L it : Addr) : Code := .compLoop (compOf (stR P 5)) 0 (.ref it) (.ref (it + 1)) (envC P L (it + 2))
noncomputable abbrev cellO (D : Addr) : Obj := ⟨.type "cell", none, .cell (some (.ref D)), #[]⟩
theorem clR_q (P : Params) (L it : Addr) : (clR P L it).quiet = true := by kernel_rfl
section
variable (w : World) (b : Bool) (N0 T0 L it tb D i : Nat) (xs : Array Value) (n : Nat) (ys hs : Array Value) (m : Nat) (dd : Option (Nat × Str × Nat)) (N1 T1 : Nat) (s : Str) (t N2 T2 N3 T3 : Nat) (x2 : Array Value) (n2 ee ts : Nat) (cc : Bool)
@[irreducible] noncomputable def va1 : Res := startZ (VV w b N0 T0) 100 [1, 1] [] (clR w.params L it) [(it, litO (.ref tb) i), (it + 1, listO xs n), (it + 2, (dObj w.params dd)), (tb, listO ys 0), (L + 1, cellO D), (D, listO hs m)]
theorem va1' : (fun r => Lk r [(0, it, litO (.ref tb) i), (1, it + 1, listO xs n), (2, it + 2, (dObj w.params dd)), (3, tb, listO ys 0), (4, L + 1, cellO D), (5, D, listO hs m)] (callOf r.out = some (cB "list_iterator.__next__" [.ref it])) (wtO r.out = 0)) (va1 w b N0 T0 L it tb D i xs n ys hs m dd) := by cases b <;> rcases dd with _ | ⟨k0, s0, t0⟩ <;> rfl'
@[irreducible] noncomputable def vb1 : Res := resumeZ (VV w b N1 T1) 200 [3, 3, 3, 5, 6, 6, 1] [] (va1 w b N0 T0 L it tb D i xs n ys hs m dd).out (.ok (.ret (.str s t))) (put (va1 w b N0 T0 L it tb D i xs n ys hs m dd).led 0 (litO (.ref tb) (i + 1)))
theorem vb1' : (fun r => Lk r [(0, it, litO (.ref tb) (i + 1)), (1, it + 1, listO xs n), (2, it + 2, dOn w.params T1 s t dd), (3, tb, listO ys 0), (4, L + 1, cellO D), (5, D, listO hs m)] (callOf r.out = some (cB "list.__contains__" [.ref D, .str s t])) (wtO r.out = 0)) (vb1 w b N0 T0 L it tb D i xs n ys hs m dd N1 T1 s t) := by cases b <;> rcases dd with _ | ⟨k0, s0, t0⟩ <;> rfl'
@[irreducible] noncomputable def vc1 : Res := resumeZ (VV w b N2 T2) 200 [3, 1] [] (vb1 w b N0 T0 L it tb D i xs n ys hs m dd N1 T1 s t).out (.ok (.ret (.bool true))) (vb1 w b N0 T0 L it tb D i xs n ys hs m dd N1 T1 s t).led
theorem vc1' : (fun r => Lk r [(0, it, litO (.ref tb) (i + 1)), (1, it + 1, listO xs n), (2, it + 2, dOn w.params T1 s t dd), (3, tb, listO ys 0), (4, L + 1, cellO D), (5, D, listO hs m)] (callOf r.out = some (cB "list.append" [.ref (it + 1), .str s t])) (wtO r.out = 0)) (vc1 w b N0 T0 L it tb D i xs n ys hs m dd N1 T1 s t N2 T2) := by cases b <;> rcases dd with _ | ⟨k0, s0, t0⟩ <;> rfl'
@[irreducible] noncomputable def vd1 : Res := resumeZ (VV w b N3 T3) 100 [] [] (vc1 w b N0 T0 L it tb D i xs n ys hs m dd N1 T1 s t N2 T2).out (.ok (.ret .none)) (put (vc1 w b N0 T0 L it tb D i xs n ys hs m dd N1 T1 s t N2 T2).led 1 (listO x2 n2))
theorem vd1' : (fun r => Lk r [(0, it, litO (.ref tb) (i + 1)), (1, it + 1, listO x2 n2), (2, it + 2, dOn w.params T1 s t dd), (3, tb, listO ys 0), (4, L + 1, cellO D), (5, D, listO hs m)] (finOf r.out = some (.again (clR w.params L it))) (True)) (vd1 w b N0 T0 L it tb D i xs n ys hs m dd N1 T1 s t N2 T2 N3 T3 x2 n2) := by cases b <;> rcases dd with _ | ⟨k0, s0, t0⟩ <;> rfl'
@[irreducible] noncomputable def ve1 : Res := resumeZ (VV w b N2 T2) 100 [] [] (vb1 w b N0 T0 L it tb D i xs n ys hs m dd N1 T1 s t).out (.ok (.ret (.bool false))) (vb1 w b N0 T0 L it tb D i xs n ys hs m dd N1 T1 s t).led
theorem ve1' : (fun r => Lk r [(0, it, litO (.ref tb) (i + 1)), (1, it + 1, listO xs n), (2, it + 2, dOn w.params T1 s t dd), (3, tb, listO ys 0), (4, L + 1, cellO D), (5, D, listO hs m)] (finOf r.out = some (.again (clR w.params L it))) (True)) (ve1 w b N0 T0 L it tb D i xs n ys hs m dd N1 T1 s t N2 T2) := by cases b <;> rcases dd with _ | ⟨k0, s0, t0⟩ <;> rfl'
@[irreducible] noncomputable def vz1 : Res := resumeZ (VV w b N1 T1) 100 [1] [] (va1 w b N0 T0 L it tb D i xs n ys hs m dd).out (.error (.ref ee)) [(ee, stopO ts)]
theorem vz1' : (fun r => Lk r [(0, ee, stopO ts)] (finOf r.out = some (.done .next)) (True)) (vz1 w b N0 T0 L it tb D i xs n ys hs m dd N1 T1 ee ts) := by cases b <;> rcases dd with _ | ⟨k0, s0, t0⟩ <;> rfl'
@[irreducible] noncomputable def vcs : Res := startZ (VV2 w b cc N0 T0) 100 (bif cc then [] else [1, 1, 0, 1, 1]) [] (csR w.params L it) [(it, litO (.ref tb) i), (it + 1, listO xs n), (it + 2, dO0), (tb, listO ys 0), (L + 1, cellO D), (D, listO hs m)]
theorem vcs' : (fun r => Lk r [] (finOf r.out = some (.again (clR w.params L it))) (r.led = [(it, litO (.ref tb) i), (it + 1, listO xs n), (it + 2, dO0), (tb, listO ys 0), (L + 1, cellO D), (D, listO hs m)])) (vcs w b N0 T0 L it tb D i xs n ys hs m cc) := by cases b <;> cases cc <;> rfl'
end
noncomputable abbrev CE (w : World) (L it tb D i : Nat) (a : List (Str × Nat)) (n : Nat) (dd : Option (Nat × Str × Nat)) (ys hs : List (Str × Nat)) (m : Nat) : Led := [(it, litO (.ref tb) i), (it + 1, listO (sA a) n), (it + 2, dObj w.params dd), (tb, listO (sA ys) 0), (L + 1, cellO D), (D, listO (sA hs) m)]
theorem loopC {w : World} {b : Bool} (hb : w.params.followText "special-get-raises" = b) (L it tb D : Nat) (ys hs : List (Str × Nat)) (m : Nat) : ∀ (rem : List (Str × Nat)) (i : Nat) (a : List (Str × Nat)) (n : Nat) (dd : Option (Nat × Str × Nat)), (sA ys).toList.drop i = rem.map sv → a.length + rem.length ≤ sizeLine → (rem = [] → dd ≠ none) →
    CtrF w 0 (clR w.params L it) (BAt w (CE w L it tb D i a n dd ys hs m)) (fun h f h' => f = .next ∧ Kp [it, it + 1, it + 2] h h' ∧ ∃ n k s t oi, h'.get? it = some oi ∧ h'.get? (it + 1) = some (listO (sA (a ++ rem.filter fun q => decide (q.1 ∈ hs.map (·.1)))) n) ∧ h'.get? (it + 2) = some (dO1 w.params k s t)) := by
  intro rem
  induction rem with
  | nil =>
    intro i a n dd hrem hsz hdd
    cases dd with
    | none => exact absurd rfl (hdd rfl)
    | some q =>
      obtain ⟨k0, s0, t0⟩ := q
      rintro A R ⟨h0, g, d, T, ost⟩ hA hd S B H
      obtain ⟨N, hN⟩ : ∃ N, h0.objs.size = N := ⟨_, rfl⟩
      refine code_call (B.cur S) hb hA hN _ (va1.eq_1 w b N T L it tb D i (sA a) n (sA ys) (sA hs) m (some (k0, s0, t0))) no_orc (va1' ..).s (va1' ..).o fun h1 N1 T1 hN1 C1 => ?_
      have K1 : Kp [] h0 h1 := by
        refine C1.fin B.at_ ?_
        exact mC (.inr (C1.at' ((va1' ..).g 0 rfl))) (mC (.inr (C1.at' ((va1' ..).g 1 rfl))) (mC (.inr (C1.at' ((va1' ..).g 2 rfl))) (mC (.inr (C1.at' ((va1' ..).g 3 rfl))) (mC (.inr (C1.at' ((va1' ..).g 4 rfl))) (mC (.inr (C1.at' ((va1' ..).g 5 rfl))) mN)))))
      refine cNextStop (aroO_handled hA _) (C1.at' ((va1' ..).g 0 rfl)) (C1.at' ((va1' ..).g 3 rfl)) (src_end hrem) fun h2 e ts K2 e2 e3 hne => ?_
      have S2 : Sta w h2 := C1.sta.kp K2 fun x hx => by cases List.mem_singleton.mp hx; exact C1.off' ((va1' ..).g 0 rfl)
      have ha2 : ∀ p ∈ ([(e, stopO ts)] : Led), h2.get? p.1 = some p.2 := by
        exact mC (e3) mN
      refine res_fin (Cur.start S2 ha2 (by ac_rfl) (by
        exact mC (C1.sta.off hne) mN)) hb hA rfl _ (vz1.eq_1 w b N T L it tb D i (sA a) n (sA ys) (sA hs) m (some (k0, s0, t0)) h2.objs.size T1 e ts) no_orc (vz1' ..).s (vz1' ..).o fun h3 N3 T3 hN3 C3 => ?_
      have K3 : Kp [] h2 h3 := by
        refine C3.fin ha2 ?_
        exact mC (.inr (C3.at' ((vz1' ..).g 0 rfl))) mN
      have K23 := K2.trans K3 fun a ha => nomatch ha
      have n1 : it + 1 ∉ [it] := fun z => absurd (List.mem_singleton.mp z) (by omega)
      have n2 : it + 2 ∉ [it] := fun z => absurd (List.mem_singleton.mp z) (by omega)
      refine H _ _ _ ⟨rfl, (K1.mono fun a ha => nomatch ha).trans K23 (fun x hx => .inl (by cases List.mem_singleton.mp hx; exact .head _)), n, k0, s0, t0, _, K3.get e2 (fun h => nomatch h), ?_, K23.get (C1.at' ((va1' ..).g 2 rfl)) n2⟩
      simpa using K23.get (C1.at' ((va1' ..).g 1 rfl)) n1
  | cons p rem ih =>
    intro i a n dd hrem hsz hdd
    rintro A R ⟨h0, g, d, T, ost⟩ hA hd S B H
    obtain ⟨N, hN⟩ : ∃ N, h0.objs.size = N := ⟨_, rfl⟩
    refine code_call (B.cur S) hb hA hN _ (va1.eq_1 w b N T L it tb D i (sA a) n (sA ys) (sA hs) m dd) no_orc (va1' ..).s (va1' ..).o fun h1 N1 T1 hN1 C1 => ?_
    obtain ⟨hx, hrem'⟩ := src_item hrem
    obtain ⟨s, t⟩ := p
    refine cNextItem (C1.at' ((va1' ..).g 0 rfl)) (C1.at' ((va1' ..).g 3 rfl)) hx fun h2 K2 e2 => ?_
    have C2 := C1.put1 ((va1' ..).g 0 rfl) K2 e2
    refine res_call C2 hb hA rfl _ (vb1.eq_1 w b N T L it tb D i (sA a) n (sA ys) (sA hs) m dd h2.objs.size T1 s t) no_orc (vb1' ..).s (vb1' ..).o fun h3 N3 T3 hN3 C3 => ?_
    refine cIn (C3.at' ((vb1' ..).g 5 rfl)) ?_
    by_cases hin : s ∈ hs.map (·.1)
    · rw [decide_eq_true hin]
      refine res_call C3 hb hA hN3 _ (vc1.eq_1 w b N T L it tb D i (sA a) n (sA ys) (sA hs) m dd h2.objs.size T1 s t N3 T3) no_orc (vc1' ..).s (vc1' ..).o fun h4 N4 T4 hN4 C4 => ?_
      refine cAppend (C4.at' ((vc1' ..).g 1 rfl)) (by simp at hsz ⊢; omega) fun h5 N5 hN5 K5 e5 => ?_
      have C5 := C4.put1 ((vc1' ..).g 1 rfl) K5 e5
      refine res_fin C5 hb hA hN5 _ (vd1.eq_1 w b N T L it tb D i (sA a) n (sA ys) (sA hs) m dd h2.objs.size T1 s t N3 T3 N5 T4 ((sA a).push (.str s t)) (n + 1)) no_orc (vd1' ..).s (vd1' ..).o fun h6 N6 T6 hN6 C6 => ?_
      have K : Kp [it, it + 1, it + 2] h0 h6 := by
        refine C6.fin B.at_ ?_
        exact mC (.inl (by ac_rfl)) (mC (.inl (by ac_rfl)) (mC (.inl (by ac_rfl)) (mC (.inr (C6.at' ((vd1' ..).g 3 rfl))) (mC (.inr (C6.at' ((vd1' ..).g 4 rfl))) (mC (.inr (C6.at' ((vd1' ..).g 5 rfl))) mN)))))
      have B' : BAt w (CE w L it tb D (i + 1) (a ++ [(s, t)]) (n + 1) (some (ddK dd T1, s, t)) ys hs m) h6 := B.set rfl (by
        exact mC (C6.at' ((vd1' ..).g 0 rfl)) (mC ((C6.at' ((vd1' ..).g 1 rfl)).trans (by rw [← sA_push a (s, t)])) (mC (((C6.at' ((vd1' ..).g 2 rfl)).trans (congrArg some (dOn_is ..)))) (mC (C6.at' ((vd1' ..).g 3 rfl)) (mC (C6.at' ((vd1' ..).g 4 rfl)) (mC (C6.at' ((vd1' ..).g 5 rfl)) mN))))))
      refine ⟨clR_q .., ih (i + 1) (a ++ [(s, t)]) (n + 1) (some (ddK dd T1, s, t)) hrem' (by simp at hsz ⊢; omega) (by ac_rfl) _ _ _ hA hd C6.sta B' fun f h' t' P => H f h' t' ?_⟩
      rw [List.filter_cons, if_pos (decide_eq_true hin)]
      rw [List.append_assoc] at P
      exact ⟨P.1, K.trans P.2.1 (fun a ha => .inl ha), P.2.2⟩
    · rw [decide_eq_false hin]
      refine res_fin C3 hb hA hN3 _ (ve1.eq_1 w b N T L it tb D i (sA a) n (sA ys) (sA hs) m dd h2.objs.size T1 s t N3 T3) no_orc (ve1' ..).s (ve1' ..).o fun h6 N6 T6 hN6 C6 => ?_
      have K : Kp [it, it + 1, it + 2] h0 h6 := by
        refine C6.fin B.at_ ?_
        exact mC (.inl (by ac_rfl)) (mC (.inl (by ac_rfl)) (mC (.inl (by ac_rfl)) (mC (.inr (C6.at' ((ve1' ..).g 3 rfl))) (mC (.inr (C6.at' ((ve1' ..).g 4 rfl))) (mC (.inr (C6.at' ((ve1' ..).g 5 rfl))) mN)))))
      have B' : BAt w (CE w L it tb D (i + 1) a n (some (ddK dd T1, s, t)) ys hs m) h6 := B.set rfl (by
        exact mC (C6.at' ((ve1' ..).g 0 rfl)) (mC (C6.at' ((ve1' ..).g 1 rfl)) (mC (((C6.at' ((ve1' ..).g 2 rfl)).trans (congrArg some (dOn_is ..)))) (mC (C6.at' ((ve1' ..).g 3 rfl)) (mC (C6.at' ((ve1' ..).g 4 rfl)) (mC (C6.at' ((ve1' ..).g 5 rfl)) mN))))))
      refine ⟨clR_q .., ih (i + 1) a n (some (ddK dd T1, s, t)) hrem' (by simp at hsz ⊢; omega) (by ac_rfl) _ _ _ hA hd C6.sta B' fun f h' t' P => H f h' t' ?_⟩
      rw [List.filter_cons, if_neg (by simpa using hin)]
      exact ⟨P.1, K.trans P.2.1 (fun a ha => .inl ha), P.2.2⟩
noncomputable def cmpL : Stmt → PySem.Expr
  | .If (.Compare l _ _ _) _ _ _ => l
  | _ => default
noncomputable def cmpR : Stmt → PySem.Expr
  | .If (.Compare _ _ (r :: _) _) _ _ _ => r
  | _ => default
noncomputable def cmpP : Stmt → Pos
  | .If (.Compare _ _ _ p) _ _ _ => p
  | _ => default
noncomputable def ifP : Stmt → Pos
  | .If _ _ _ p => p
  | _ => default
theorem st6 (P : Params) : stR P 6 = .If (.Compare (cmpL (stR P 6)) [.NotEq] [cmpR (stR P 6)] (cmpP (stR P 6))) (ifBody (stR P 6)) [] (ifP (stR P 6)) := by kernel_rfl
theorem bd_split (P : Params) : bdR P = hdR P ++ [stR P 6, stR P 7] := by kernel_rfl
theorem mark6 (P : Params) : behindInMarks .NotEq (cmpR (stR P 6)) = false := by kernel_rfl
section
variable (w : World) (b : Bool) (N0 T0 : Nat) (tx : Str) (tt : Nat) (du : Str) (td N1 T1 N2 T2 tb : Nat) (ta : Array Value) (N3 T3 tp : Nat) (o8 : Obj) (N4 T4 : Nat) (X : LX) (Z : LS) (N5 T5 q : Nat) (Y : LS) (N6 T6 D : Nat) (W : LS) (pn N7 T7 k0 : Nat) (s0 : Str) (t0 : Nat) (ja : Array Value) (jn : Nat) (oi : Obj) (N8 T8 : Nat) (wd : Str) (tw N9 T9 N10 T10 N11 T11 ct N12 T12 wn : Nat) (bb : Bool)
@[irreducible] noncomputable def rua : Res := enterZ (VV w b N0 T0) 100 [2, 2, 2, 2] [] 116 (fdK w.params 116) ⟨[.str tx tt, .str du td], []⟩ [(80, o80 w.params)]
theorem rua' : (fun r => Lk r [] (isAg r.out = true) (agOf r.out = cdR w.params N0)) (rua w b N0 T0 tx tt du td) := by cases b <;> rfl'
@[irreducible] noncomputable def rub : Res := execsZ (VV w b N1 T1) 300 [0, 0, 1] [] (cdR w.params N0) (hdR w.params) (envR w.params N0) (rua w b N0 T0 tx tt du td).led
theorem rub' : (fun r => Lk r [(0, 80, o80 w.params)] (callOf r.out = some (.call (.ref 71) ⟨[], []⟩)) (wtO r.out = 1)) (rub w b N0 T0 tx tt du td N1 T1) := by cases b <;> rfl'
@[irreducible] noncomputable def ruc : Res := resumeZ (VV w b N2 T2) 500 [0, 5, 5, 5, 5, 6, 6, 6, 0, 6, 7, 7, 0, 7, 7, 7, 6, 7, 7, 7, 0, 7, 7, 7, 6, 7, 7, 7, 0, 7, 7, 7, 6, 7, 7, 9, 2, 2, 2, 2, 0, 0, 2, 2, 0, 1] [] (rub w b N0 T0 tx tt du td N1 T1).out (.ok (.ret (.ref tb))) (snoc (rub w b N0 T0 tx tt du td N1 T1).led tb (listO ta 0))
theorem ruc' : (fun r => Lk r [(0, 80, o80 w.params), (3, tb, listO ta 0), (4, N2, ⟨.type "dict", none, .dict #[entZ w.params sPlace T2 (.int 0 (T2 + 1))] 1, #[]⟩)] (callOf r.out = some (.call (.ref 85) ⟨[.str tx tt, .ref N2], []⟩)) (wtO r.out = 1)) (ruc w b N0 T0 tx tt du td N1 T1 N2 T2 tb ta) := by cases b <;> rfl'
@[irreducible] noncomputable def rud : Res := resumeZ (VV w b N3 T3) 500 [0, 0, 0, 0, 0, 0, 0, 0, 0, 0, 0, 0, 0, 0, 0, 0, 0, 0, 0, 0, 0, 0, 0, 0, 0, 0, 0, 0, 0, 0, 11, 0, 11, 0, 0, 0, 0, 1] [] (ruc w b N0 T0 tx tt du td N1 T1 N2 T2 tb ta).out (.ok (.ret (.ref tp))) (put (ruc w b N0 T0 tx tt du td N1 T1 N2 T2 tb ta).led 0 o8)
theorem rud' : (fun r => Lk r [(3, tb, listO ta 0), (4, N2, ⟨.type "dict", none, .dict #[entZ w.params sPlace T2 (.int 0 (T2 + 1))] 1, #[]⟩), (2, N0 + 1, ⟨.type "cell", none, .cell none, #[]⟩), (9, N3, dO0), (10, N3 + 1, ⟨.ref 52, some N3, .plain, #[]⟩)] (callOf r.out = some (.call (.ref 28) ⟨[.ref (N3 + 1), .ref tp], []⟩)) ((wtO r.out = 2) ∧ (r.led.map (·.1) = (ruc w b N0 T0 tx tt du td N1 T1 N2 T2 tb ta).led.map (·.1) ++ [N3, N3 + 1]))) (rud w b N0 T0 tx tt du td N1 T1 N2 T2 tb ta N3 T3 tp o8) := by cases b <;> rfl'
@[irreducible] noncomputable def rue : Res := resumeZ (VV w b N4 T4) 300 [2, 2, 0, 2, 2, 0, 1] [] (rud w b N0 T0 tx tt du td N1 T1 N2 T2 tb ta N3 T3 tp o8).out (.ok (.ret .none)) (put (rud w b N0 T0 tx tt du td N1 T1 N2 T2 tb ta N3 T3 tp o8).led 9 (lexD w.params X Z.ln Z.tl))
theorem rue' : (fun r => Lk r [(3, tb, listO ta 0), (4, N2, ⟨.type "dict", none, .dict #[entZ w.params sPlace T2 (.int 0 (T2 + 1))] 1, #[]⟩), (9, N3, lexD w.params X Z.ln Z.tl), (10, N3 + 1, ⟨.ref 52, some N3, .plain, #[]⟩)] (callOf r.out = some (.call (.ref 104) ⟨[.ref (N3 + 1), .ref tb], []⟩)) ((wtO r.out = 1) ∧ (r.led.map (·.1) = (rud w b N0 T0 tx tt du td N1 T1 N2 T2 tb ta N3 T3 tp o8).led.map (·.1)))) (rue w b N0 T0 tx tt du td N1 T1 N2 T2 tb ta N3 T3 tp o8 N4 T4 X Z) := by cases b <;> rfl'
@[irreducible] noncomputable def ruf : Res := resumeZ (VV w b N5 T5) 300 [2, 2, 2, 0, 2, 2, 2, 2, 0, 1] [] (rue w b N0 T0 tx tt du td N1 T1 N2 T2 tb ta N3 T3 tp o8 N4 T4 X Z).out (.ok (.ret (.ref q))) (put (put (rue w b N0 T0 tx tt du td N1 T1 N2 T2 tb ta N3 T3 tp o8 N4 T4 X Z).led 9 (lexD w.params X Y.ln Y.tl)) 4 (spotO w.params X.kp (.int Y.p Y.tp)))
theorem ruf' : (fun r => Lk r [(3, tb, listO ta 0), (4, N2, spotO w.params X.kp (.int Y.p Y.tp)), (9, N3, lexD w.params X Y.ln Y.tl), (10, N3 + 1, ⟨.ref 52, some N3, .plain, #[]⟩)] (callOf r.out = some (.call (.ref 111) ⟨[.ref (N3 + 1), .ref N2, .ref q, .ref tb], []⟩)) ((wtO r.out = 1) ∧ (r.led.map (·.1) = (rud w b N0 T0 tx tt du td N1 T1 N2 T2 tb ta N3 T3 tp o8).led.map (·.1)))) (ruf w b N0 T0 tx tt du td N1 T1 N2 T2 tb ta N3 T3 tp o8 N4 T4 X Z N5 T5 q Y) := by cases b <;> rfl'
@[irreducible] noncomputable def rug : Res := resumeZ (VV w b N6 T6) 400 [3, 3, 3, 2, 4, 4, 0, 4, 13, 1] [] (ruf w b N0 T0 tx tt du td N1 T1 N2 T2 tb ta N3 T3 tp o8 N4 T4 X Z N5 T5 q Y).out (.ok (.ret (.ref D))) (snoc (put (put (ruf w b N0 T0 tx tt du td N1 T1 N2 T2 tb ta N3 T3 tp o8 N4 T4 X Z N5 T5 q Y).led 9 (lexD w.params X W.ln W.tl)) 4 (spotO w.params X.kp (.int W.p W.tp))) X.pb (listO #[] pn))
theorem rug' : (fun r => Lk r [(2, N0 + 1, cellO D), (3, tb, listO ta 0), (4, N2, spotO w.params X.kp (.int W.p W.tp)), (9, N3, lexD w.params X W.ln W.tl), (10, N3 + 1, ⟨.ref 52, some N3, .plain, #[]⟩), (11, X.pb, listO #[] pn), (12, N6, litO (.ref tb) 0), (13, N6 + 1, listO #[] 0), (14, N6 + 2, dO0)] (callOf r.out = some (csR w.params N0 N6)) (wtO r.out = 1)) (rug w b N0 T0 tx tt du td N1 T1 N2 T2 tb ta N3 T3 tp o8 N4 T4 X Z N5 T5 q Y N6 T6 D W pn) := by cases b <;> rfl'
@[irreducible] noncomputable def ruh : Res := resumeZ (VV w b N7 T7) 200 [15, 15, 15, 1] [] (rug w b N0 T0 tx tt du td N1 T1 N2 T2 tb ta N3 T3 tp o8 N4 T4 X Z N5 T5 q Y N6 T6 D W pn).out (.ok .next) (put (put (put (rug w b N0 T0 tx tt du td N1 T1 N2 T2 tb ta N3 T3 tp o8 N4 T4 X Z N5 T5 q Y N6 T6 D W pn).led 12 oi) 13 (listO ja jn)) 14 (dO1 w.params k0 s0 t0))
theorem ruh' : (fun r => Lk r [(13, N6 + 1, listO ja jn)] (callOf r.out = some (cB "str.join" [.str ⟨#[44, 32]⟩ T6, .ref (N6 + 1)])) (wtO r.out = 1)) (ruh w b N0 T0 tx tt du td N1 T1 N2 T2 tb ta N3 T3 tp o8 N4 T4 X Z N5 T5 q Y N6 T6 D W pn N7 T7 k0 s0 t0 ja jn oi) := by cases b <;> rfl'
@[irreducible] noncomputable def rui : Res := resumeZ (VV w b N8 T8) 200 [2, 2] [] (ruh w b N0 T0 tx tt du td N1 T1 N2 T2 tb ta N3 T3 tp o8 N4 T4 X Z N5 T5 q Y N6 T6 D W pn N7 T7 k0 s0 t0 ja jn oi).out (.ok (.ret (.str wd tw))) (ruh w b N0 T0 tx tt du td N1 T1 N2 T2 tb ta N3 T3 tp o8 N4 T4 X Z N5 T5 q Y N6 T6 D W pn N7 T7 k0 s0 t0 ja jn oi).led
theorem rui' : (fun r => Lk r [] (finOf r.out = some (.done .next)) (True)) (rui w b N0 T0 tx tt du td N1 T1 N2 T2 tb ta N3 T3 tp o8 N4 T4 X Z N5 T5 q Y N6 T6 D W pn N7 T7 k0 s0 t0 ja jn oi N8 T8 wd tw) := by cases b <;> rfl'
@[irreducible] noncomputable def ruj : Res := evalZ (VV w b N9 T9) 300 [2, 11, 0, 0, 0, 0, 11, 0, 0, 0, 11, 11, 0, 10, 2, 5, 5, 5, 1] [] (cdR w.params N0) (cmpL (stR w.params 6)) (envR w.params N0) (rui w b N0 T0 tx tt du td N1 T1 N2 T2 tb ta N3 T3 tp o8 N4 T4 X Z N5 T5 q Y N6 T6 D W pn N7 T7 k0 s0 t0 ja jn oi N8 T8 wd tw).led
theorem ruj' : (fun r => Lk r [(4, N2, spotO w.params X.kp (.int W.p W.tp))] (callOf r.out = some (cB "dict.__getitem__" [.ref N2, .str sPlace (T9 + 1)])) (wtO r.out = 1)) (ruj w b N0 T0 tx tt du td N1 T1 N2 T2 tb ta N3 T3 tp o8 N4 T4 X Z N5 T5 q Y N6 T6 D W pn N7 T7 k0 s0 t0 ja jn oi N8 T8 wd tw N9 T9) := by cases b <;> rfl'
@[irreducible] noncomputable def ruk : Res := resumeZ (VV w b N10 T10) 300 [2, 11, 0, 0, 0, 0, 11, 0, 0, 0, 11, 11, 0, 10] [] (ruj w b N0 T0 tx tt du td N1 T1 N2 T2 tb ta N3 T3 tp o8 N4 T4 X Z N5 T5 q Y N6 T6 D W pn N7 T7 k0 s0 t0 ja jn oi N8 T8 wd tw N9 T9).out (.ok (.ret (.int W.p W.tp))) (ruj w b N0 T0 tx tt du td N1 T1 N2 T2 tb ta N3 T3 tp o8 N4 T4 X Z N5 T5 q Y N6 T6 D W pn N7 T7 k0 s0 t0 ja jn oi N8 T8 wd tw N9 T9).led
theorem ruk' : (fun r => Lk r [] (finOf r.out = some (.done (.ret (.ref N10)))) (True)) (ruk w b N0 T0 tx tt du td N1 T1 N2 T2 tb ta N3 T3 tp o8 N4 T4 X Z N5 T5 q Y N6 T6 D W pn N7 T7 k0 s0 t0 ja jn oi N8 T8 wd tw N9 T9 N10 T10) := by cases b <;> rfl'
@[irreducible] noncomputable def rul : Res := evalZ (VV w b N11 T11) 300 [2, 2, 0, 0, 0, 2, 2] [⟨cB "str.count" [.str tx tt, .str ⟨#[10]⟩ (T11 + 1)], fun zz => .int (ct : Int) zz, 1⟩, ⟨cB "len" [.str tx tt], fun zz => .int (tx.length : Int) (zz + 1), 2⟩] (cdR w.params N0) (cmpR (stR w.params 6)) (envR w.params N0) (ruk w b N0 T0 tx tt du td N1 T1 N2 T2 tb ta N3 T3 tp o8 N4 T4 X Z N5 T5 q Y N6 T6 D W pn N7 T7 k0 s0 t0 ja jn oi N8 T8 wd tw N9 T9 N10 T10).led
theorem rul' : (fun r => Lk r [(11, X.pb, listO #[] pn), (15, N10, tupO #[.int W.ln W.tl, .int W.p W.tp, .ref X.pb]), (16, N11, listO #[] 0), (17, N11 + 1, tupO #[.int (1 + (ct : Int)) (T11 + 3), .int (tx.length : Int) (T11 + 5), .ref N11])] (finOf r.out = some (.done (.ret (.ref (N11 + 1))))) (True)) (rul w b N0 T0 tx tt du td N1 T1 N2 T2 tb ta N3 T3 tp o8 N4 T4 X Z N5 T5 q Y N6 T6 D W pn N7 T7 k0 s0 t0 ja jn oi N8 T8 wd tw N9 T9 N10 T10 N11 T11 ct) := by cases b <;> rfl'
@[irreducible] noncomputable def rum : Res := execsZ (VV w b N12 T12) 300 [2, 2, 2, 2] [⟨.builtin "len" ⟨[.str wd tw], []⟩, fun zz => .int ((wn + 1 : Nat) : Int) (zz + 1), 2⟩, ⟨cB "str.__eq__" [.str wd tw, .str du td], fun _ => .bool bb, 0⟩] (cdR w.params N0) [stR w.params 7] (envR w.params N0) (rul w b N0 T0 tx tt du td N1 T1 N2 T2 tb ta N3 T3 tp o8 N4 T4 X Z N5 T5 q Y N6 T6 D W pn N7 T7 k0 s0 t0 ja jn oi N8 T8 wd tw N9 T9 N10 T10 N11 T11 ct).led
theorem rum' : (fun r => Lk r [(0, 80, o8)] (finOf r.out = some (.done (.ret (.bool bb)))) (True)) (rum w b N0 T0 tx tt du td N1 T1 N2 T2 tb ta N3 T3 tp o8 N4 T4 X Z N5 T5 q Y N6 T6 D W pn N7 T7 k0 s0 t0 ja jn oi N8 T8 wd tw N9 T9 N10 T10 N11 T11 ct N12 T12 wn bb) := by cases b <;> rfl'
@[irreducible] noncomputable def ruo : Res := execsZ (VV w b N12 T12) 300 [2, 2, 2, 2] [⟨.builtin "len" ⟨[.str wd tw], []⟩, fun zz => .int 0 (zz + 1), 2⟩, ⟨cB "str.__eq__" [.str sZero (T12 + 2), .str du td], fun _ => .bool bb, 0⟩] (cdR w.params N0) [stR w.params 7] (envR w.params N0) (rul w b N0 T0 tx tt du td N1 T1 N2 T2 tb ta N3 T3 tp o8 N4 T4 X Z N5 T5 q Y N6 T6 D W pn N7 T7 k0 s0 t0 ja jn oi N8 T8 wd tw N9 T9 N10 T10 N11 T11 ct).led
theorem ruo' : (fun r => Lk r [(0, 80, o8)] (finOf r.out = some (.done (.ret (.bool bb)))) (True)) (ruo w b N0 T0 tx tt du td N1 T1 N2 T2 tb ta N3 T3 tp o8 N4 T4 X Z N5 T5 q Y N6 T6 D W pn N7 T7 k0 s0 t0 ja jn oi N8 T8 wd tw N9 T9 N10 T10 N11 T11 ct N12 T12 bb) := by cases b <;> rfl'
end
theorem fn116 (w : World) : FnAt w 116 (fdK w.params 116) := ⟨⟨o116 w.params, by kernel_rfl, by kernel_rfl⟩, by kernel_rfl, by kernel_rfl, ⟨bodyOf (fdK w.params 116), by kernel_rfl⟩, ⟨115, o115 w.params, flds (o115 w.params), tokOf ((flds (o115 w.params)).getD 1 .none), by kernel_rfl, by kernel_rfl, by kernel_rfl, by kernel_rfl⟩⟩
noncomputable def CtrU (w : World) (need nu : Nat) (c : Code) (pre : Heap → Prop) (post : Heap → Value → Heap → Prop) : Prop :=
  ∀ (A : Around) (R : Result → Shared → Prop) (s : Shared), A.handled = none → A.depth + need < recursionLimit → A.units + nu < cLine → Sta w s.heap → pre s.heap →
    (∀ v h' tk', post s.heap v h' → R (.ok (.ret v)) ⟨h', s.gens, s.drawn, tk', s.os⟩) → codeAny (model pg w) A c R s
noncomputable def onDone (G : Flow → Shared → Prop) : Fin → Shared → Prop
  | .done f, s => G f s
  | .again _, _ => False
noncomputable def onRet (G : Value → Shared → Prop) : Fin → Shared → Prop
  | .done (.ret v), s => G v s
  | _, _ => False
noncomputable abbrev RF (R : Result → Shared → Prop) : Flow → Shared → Prop := fun f s' => R (.ok (.ret (match f with | .ret v => v | _ => .none))) s'
noncomputable abbrev RQ (w : World) (A : Around) (N : Nat) (R : Result → Shared → Prop) : Flow → Shared → Prop := fun f s' => match f with
  | .next => wpOwn (model pg w) A (cdR w.params N) (execs [stR w.params 6, stR w.params 7] (envR w.params N)) (RF R) (fun _ _ => False) s'
  | f => RF R f s'
theorem oLenS {w : World} {x : Str} {t : Nat} {n : Int} (h : x.length ≤ sizeLine) (hn : (x.length : Int) = n) : OrcOk pg w ⟨.builtin "len" ⟨[.str x t], []⟩, fun k => .int n (k + 1), 2⟩ := fun A R s hR => by
  have q : (x.length : Int) < 2 ^ 63 := by
    have : sizeLine = 2 ^ 24 := rfl
    omega
  subst hn
  refine codeAny_builtin entry_len ?_
  exact wpAny_mono (wpAny_len_body (Q := fun v s' => R (.ok (.ret v)) s') (typeIs_str s x t) F.slot_str_len F.entry_str_len (F.args_str_len_1 _) (gives_str_len x t) (by omega) (by omega) hR) (fun fin s' ⟨r, e, q⟩ => by subst e; exact q) fun _ _ e => e
theorem oCount1 {w : World} {x : Str} {t u c n : Nat} (h : x.cps.toList.count c = n) : OrcOk pg w ⟨cB "str.count" [.str x t, .str ⟨#[c]⟩ u], fun k => .int (n : Int) k, 1⟩ := by
  have := oCount (w := w) (x := x) (y := ⟨#[c]⟩) (t := t) (u := u)
  rw [count_L, h] at this
  exact this
section
variable {w : World} {s₀ h h2 : Heap} {M mods : List Addr} {led led2 : Led}
theorem Cur.re (C : Cur w s₀ M h led) (K : Kp mods h h2) (S : Sta w h2) (hk : led2.map (·.1) = led.map (·.1)) (hv : ∀ p ∈ led2, (p ∈ led ∧ p.1 ∉ mods) ∨ h2.get? p.1 = some p.2) : Cur w h2 (led2.map (·.1)) h2 led2 := by
  refine Cur.start S (fun p hp => ?_) (by rw [hk]; exact C.nd) (fun p hp => ?_)
  · rcases hv p hp with ⟨h1, h2⟩ | h1
    · exact K.get (C.at_ p h1) h2
    · exact h1
  · have : p.1 ∈ led.map (·.1) := by rw [← hk]; exact List.mem_map_of_mem hp
    obtain ⟨q, hq, e⟩ := List.mem_map.mp this
    rw [← e]; exact C.off q hq
theorem Cur.re0 (C : Cur w s₀ M h led) : Cur w h (led.map (·.1)) h led := Cur.start C.sta C.at_ C.nd C.off
theorem Cur.fresh (C : Cur w s₀ M h led) {a : Addr} (ha : h.objs.size ≤ a) : a ∉ led.map (·.1) := fun hm => by
  obtain ⟨q, hq, e⟩ := List.mem_map.mp hm
  have := Heap.lt_size (C.at_ q hq)
  rw [e] at this
  exact Nat.lt_irrefl _ (Nat.lt_of_lt_of_le this ha)
theorem Cur.rePut2 (C : Cur w s₀ M h led) {j k : Nat} {a c : Addr} {o₀ o p₀ p : Obj} (hjk : j ≠ k) (e : pick led j = some (a, o₀)) (e2 : pick led k = some (c, p₀)) (K : Kp mods h h2) (S : Sta w h2) (hm : ∀ x ∈ mods, x = a ∨ x = c ∨ x ∉ led.map (·.1)) (ha : h2.get? a = some o) (hc : h2.get? c = some p) : Cur w h2 ((put (put led j o) k p).map (·.1)) h2 (put (put led j o) k p) := by
  have nd2 : ((put led j o).map (·.1)).Nodup := by rw [put_keys]; exact C.nd
  refine C.re K S (by rw [put_keys, put_keys]) fun q hq => ?_
  rcases put_mem ((pick_put_ne hjk).trans e2) q hq with h1 | ⟨h1, h2⟩
  · rw [h1]; exact .inr hc
  · rcases put_mem e q h1 with h3 | ⟨h3, h4⟩
    · rw [h3]; exact .inr ha
    · refine .inl ⟨h3, fun z => ?_⟩
      rcases hm _ z with z | z | z
      · exact h4 C.nd z
      · exact h2 nd2 z
      · exact z (List.mem_map_of_mem h3)
end
theorem run_c {w : World} {b : Bool} (hb : w.params.followText "special-get-raises" = b) {A : Around} {R : Result → Shared → Prop} (hA : A.handled = none) (hu : A.units + 50 < cLine) {s₀ h : Heap} {M : List Addr} {g : Array GenState} {d : Drawn} {ost : OsState} (N9 T9 : Nat) (N0 T0 N1 T1 N2 T2 N3 T3 N4 T4 N5 T5 N6 T6 N7 T7 N8 T8 : Nat) (tx : Str) (tt : Nat) (du : Str) (td : Nat) (tb : Nat) (ta : Array Value) (tp : Nat) (o8 : Obj) (X : LX) (Z : LS) (q : Nat) (Y : LS) (D : Nat) (W : LS) (pn : Nat) (k0 : Nat) (s0 : Str) (t0 : Nat) (ja : Array Value) (jn : Nat) (oi : Obj) (wd : Str) (tw : Nat)
    (C : Cur w s₀ M h (rui w b N0 T0 tx tt du td N1 T1 N2 T2 tb ta N3 T3 tp o8 N4 T4 X Z N5 T5 q Y N6 T6 D W pn N7 T7 k0 s0 t0 ja jn oi N8 T8 wd tw).led) (hN : h.objs.size = N9) (h1 : W.ln = 1 + (tx.cps.toList.count 10 : Nat)) (h2 : W.p = tx.length) (hs1 : tx.length ≤ sizeLine) (hs2 : wd.length ≤ sizeLine) (hdu : (if wd.length = 0 then sZero else wd) = du) (H : ∀ h' T', Sta w h' → Kp M s₀ h' → h'.get? 80 = some o8 → R (.ok (.ret (.bool true))) ⟨h', g, d, T', ost⟩) :
    wpOwn (model pg w) A (cdR w.params N0) (execs [stR w.params 6, stR w.params 7] (envR w.params N0)) (RF R) (fun _ _ => False) ⟨h, g, d, T9, ost⟩ := by
  refine own_cons ?_
  rw [st6]
  refine own_If (own_test (mark6 _) ?_)
  refine eval_call (QB := onRet _) C hb hA hN _ (ruj.eq_1 w b N0 T0 tx tt du td N1 T1 N2 T2 tb ta N3 T3 tp o8 N4 T4 X Z N5 T5 q Y N6 T6 D W pn N7 T7 k0 s0 t0 ja jn oi N8 T8 wd tw N9 T9) no_orc (ruj' ..).s (ruj' ..).o fun h16 N10 T10' hN16 C16 => ?_
  refine cGet (C16.at' ((ruj' ..).g 0 rfl)) fun T10 => ?_
  refine res_fin C16 hb hA hN16 _ (ruk.eq_1 w b N0 T0 tx tt du td N1 T1 N2 T2 tb ta N3 T3 tp o8 N4 T4 X Z N5 T5 q Y N6 T6 D W pn N7 T7 k0 s0 t0 ja jn oi N8 T8 wd tw N9 T9 N10 T10) no_orc (ruk' ..).s (ruk' ..).o fun h17 N11 T11 hN17 C17 => ?_
  refine eval_fin (QB := onRet _) C17 hb hA hN17 _ (rul.eq_1 w b N0 T0 tx tt du td N1 T1 N2 T2 tb ta N3 T3 tp o8 N4 T4 X Z N5 T5 q Y N6 T6 D W pn N7 T7 k0 s0 t0 ja jn oi N8 T8 wd tw N9 T9 N10 T10 N11 T11 (tx.cps.toList.count 10)) ?_ (rul' ..).s (rul' ..).o fun h18 N12 T12 hN18 C18 => ?_
  · exact mC (oCount1 rfl) (mC (oLen hs1) mN)
  have t2 := C18.at' ((rul' ..).g 3 rfl)
  rw [← h1, ← h2] at t2
  refine wpOwn_of_wpAny (neTup (C18.at' ((rul' ..).g 1 rfl)) t2 (C18.at' ((rul' ..).g 0 rfl)) (C18.at' ((rul' ..).g 2 rfl)) (pick_ne C18.nd (by decide) ((rul' w b N0 T0 tx tt du td N1 T1 N2 T2 tb ta N3 T3 tp o8 N4 T4 X Z N5 T5 q Y N6 T6 D W pn N7 T7 k0 s0 t0 ja jn oi N8 T8 wd tw N9 T9 N10 T10 N11 T11 (tx.cps.toList.count 10)).g 0 rfl) ((rul' ..).g 2 rfl)) ?_ pg w _ _ ?_)
  · show A.units + 3 + 1 < cLine
    omega
  refine wpOwn_of_wpAny (wpAny_truthy_bool ?_)
  show wpOwn _ _ _ (execs [] _) _ _ _
  refine wpOwn_of_wpAny (wpAny_execs_nil ?_)
  show wpOwn _ _ _ (execs [stR w.params 7] _) _ _ _
  by_cases hw : wd.length = 0
  · rw [if_pos hw] at hdu
    refine execs_fin (QB := onDone _) C18 hb hA hN18 _ (ruo.eq_1 w b N0 T0 tx tt du td N1 T1 N2 T2 tb ta N3 T3 tp o8 N4 T4 X Z N5 T5 q Y N6 T6 D W pn N7 T7 k0 s0 t0 ja jn oi N8 T8 wd tw N9 T9 N10 T10 N11 T11 (tx.cps.toList.count 10) N12 T12 true) ?_ (ruo' ..).s (ruo' ..).o fun h19 N19 T19 hN19 C19 => H _ _ C19.sta C19.kp (C19.at' ((ruo' ..).g 0 rfl))
    exact mC (oLenS hs2 (by omega)) (mC (oStrEq (by rw [hdu]; simp)) mN)
  · rw [if_neg hw] at hdu
    obtain ⟨wn, hwn⟩ : ∃ wn, wd.length = wn + 1 := ⟨wd.length - 1, by omega⟩
    refine execs_fin (QB := onDone _) C18 hb hA hN18 _ (rum.eq_1 w b N0 T0 tx tt du td N1 T1 N2 T2 tb ta N3 T3 tp o8 N4 T4 X Z N5 T5 q Y N6 T6 D W pn N7 T7 k0 s0 t0 ja jn oi N8 T8 wd tw N9 T9 N10 T10 N11 T11 (tx.cps.toList.count 10) N12 T12 wn true) ?_ (rum' ..).s (rum' ..).o fun h19 N19 T19 hN19 C19 => H _ _ C19.sta C19.kp (C19.at' ((rum' ..).g 0 rfl))
    exact mC (oLenS hs2 (by omega)) (mC (oStrEq (by rw [hdu]; simp)) mN)
section
variable {w : World} {s₀ h h2 : Heap} {M mods : List Addr} {led led2 : Led} {X : LX} {Z : LS}
theorem LexAt.via {h' : Heap} (L : LexAt w X Z h) (K : Kp M h h') (hM : ∀ a ∈ X.keys, a = X.lx ∨ a = X.dx ∨ a = X.sp ∨ a ∉ M) (hlx : h'.get? X.lx = some (lexO X)) (hdx : h'.get? X.dx = some (lexD w.params X Z.ln Z.tl)) (hsp : h'.get? X.sp = some (spotO w.params X.kp (.int Z.p Z.tp))) : LexAt w X Z h' := by
  have no : ∀ {a : Addr} (i : Nat), X.keys[i]? = some a → i ≠ 0 → i ≠ 1 → i ≠ 9 → a ∉ M := fun {a} i hi h0 h1 h9 => by
    rcases hM a (List.mem_of_getElem? hi) with e | e | e | e
    · exact absurd e (nd_ne L.nd i 0 hi rfl h0)
    · exact absurd e (nd_ne L.nd i 1 hi rfl h1)
    · exact absurd e (nd_ne L.nd i 9 hi rfl h9)
    · exact e
  obtain ⟨o, vs, t, r1, r2⟩ := L.rc
  exact ⟨hlx, hdx, K.get L.pb (no 2 rfl (by decide) (by decide) (by decide)), K.get L.tp (no 3 rfl (by decide) (by decide) (by decide)), K.get L.td (no 4 rfl (by decide) (by decide) (by decide)), K.get L.rd (no 5 rfl (by decide) (by decide) (by decide)), ⟨o, vs, t, K.get r1 (no 6 rfl (by decide) (by decide) (by decide)), r2⟩, K.get L.c1 (no 7 rfl (by decide) (by decide) (by decide)), K.get L.c2 (no 8 rfl (by decide) (by decide) (by decide)), hsp, L.nd, L.off⟩
theorem Cur.reJoin (C : Cur w s₀ M h led) {a : Addr} {o : Obj} (ha : h.get? a = some o) (hn : a ∉ led.map (·.1)) (ho : Off w a) : Cur w h ((snoc led a o).map (·.1)) h (snoc led a o) := by
  rw [snoc_eq]
  refine Cur.start C.sta (fun p hp => ?_) ?_ (fun p hp => ?_)
  · rcases List.mem_append.mp hp with h1 | h1
    · exact C.at_ p h1
    · cases List.mem_singleton.mp h1; exact ha
  · rw [List.map_append]
    refine List.nodup_append.mpr ⟨C.nd, by simp, fun x hx y hy => ?_⟩
    cases List.mem_singleton.mp hy
    exact fun z => hn (by have z' : x = a := z; rw [← z']; exact hx)
  · rcases List.mem_append.mp hp with h1 | h1
    · exact C.off p h1
    · cases List.mem_singleton.mp h1; exact ho
theorem Cur.rePut3 (C : Cur w s₀ M h led) {i j k : Nat} {a b c : Addr} {o₀ o p₀ p q₀ q : Obj} (hij : i ≠ j) (hik : i ≠ k) (hjk : j ≠ k) (e : pick led i = some (a, o₀)) (e2 : pick led j = some (b, p₀)) (e3 : pick led k = some (c, q₀)) (K : Kp [a, b, c] h h2) (S : Sta w h2) (ha : h2.get? a = some o) (hb : h2.get? b = some p) (hc : h2.get? c = some q) : Cur w h2 ((put (put (put led i o) j p) k q).map (·.1)) h2 (put (put (put led i o) j p) k q) := by
  have nd1 : ((put led i o).map (·.1)).Nodup := by rw [put_keys]; exact C.nd
  have nd2 : ((put (put led i o) j p).map (·.1)).Nodup := by rw [put_keys]; exact nd1
  refine C.re K S (by rw [put_keys, put_keys, put_keys]) fun r hr => ?_
  rcases put_mem ((pick_put_ne hjk).trans ((pick_put_ne hik).trans e3)) r hr with h1 | ⟨h1, g1⟩
  · rw [h1]; exact .inr hc
  rcases put_mem ((pick_put_ne hij).trans e2) r h1 with h2 | ⟨h2, g2⟩
  · rw [h2]; exact .inr hb
  rcases put_mem e r h2 with h3 | ⟨h3, g3⟩
  · rw [h3]; exact .inr ha
  refine .inl ⟨h3, fun z => ?_⟩
  simp only [List.mem_cons, nmn, or_false] at z
  rcases z with z | z | z
  · exact g3 C.nd z
  · exact g2 nd1 z
  · exact g1 nd2 z
end
structure Glo (M : List Addr) (s₀ h : Heap) (led : Led) : Prop where
  kp : Kp M s₀ h
  dom : ∀ a ∈ led.map (·.1), a ∈ M ∨ s₀.objs.size ≤ a
theorem Glo.run {w : World} {M : List Addr} {s₀ h h' : Heap} {led led' : Led} (G : Glo M s₀ h led) (C : Cur w h (led.map (·.1)) h' led') : Glo M s₀ h' led' :=
  ⟨G.kp.trans C.kp G.dom, fun a ha => by
    obtain ⟨p, hp, rfl⟩ := List.mem_map.mp ha
    rcases C.dom p hp with q | q
    · exact G.dom _ q
    · exact .inr (Nat.le_trans G.kp.1 q)⟩
theorem Glo.call {M mods : List Addr} {s₀ h h' : Heap} {led led' : Led} (G : Glo M s₀ h led) (K : Kp mods h h') (hm : ∀ a ∈ mods, a ∈ M ∨ s₀.objs.size ≤ a) (hk : led'.map (·.1) = led.map (·.1)) : Glo M s₀ h' led' := ⟨G.kp.trans K hm, by rw [hk]; exact G.dom⟩
theorem Glo.join {M : List Addr} {s₀ h : Heap} {led : Led} (G : Glo M s₀ h led) {a : Addr} {o : Obj} (ha : a ∈ M ∨ s₀.objs.size ≤ a) : Glo M s₀ h (snoc led a o) := ⟨G.kp, fun x hx => by
  rw [snoc_eq, List.map_append] at hx
  rcases List.mem_append.mp hx with q | q
  · exact G.dom x q
  · have e : x = a := by simpa using q
    rw [e]; exact ha⟩
theorem Cur.glo {w : World} {M : List Addr} {s₀ h : Heap} {led : Led} (C : Cur w s₀ M h led) : Glo M s₀ h led := ⟨C.kp, fun a ha => by
  obtain ⟨p, hp, rfl⟩ := List.mem_map.mp ha
  exact C.dom p hp⟩
theorem Glo.cur {w : World} {M M' : List Addr} {s₀ s₁ h : Heap} {led : Led} (G : Glo M s₀ h led) (C : Cur w s₁ M' h led) : Cur w s₀ M h led := ⟨C.at_, C.nd, C.sta, C.off, fun p hp => G.dom _ (List.mem_map_of_mem hp), G.kp⟩
theorem pick_key {led : Led} {j : Nat} {a : Addr} {o : Obj} (e : pick led j = some (a, o)) : a ∈ led.map (·.1) := List.mem_map_of_mem (pick_mem e)
noncomputable def joinOut (hs : List Str) : Str := Str.join ⟨#[44, 32]⟩ (names.filter fun s => decide (s ∈ hs))
theorem names_len : ∀ s ∈ names, s.length ≤ 18 := by decide +kernel
theorem sum_len : ∀ l : List Str, (∀ s ∈ l, s.length ≤ 18) → (l.map (·.length)).sum + l.length * 2 ≤ l.length * 20
  | [], _ => by simp
  | s :: l, h => by
    have ih := sum_len l fun x hx => h x (.tail _ hx)
    have := h s (.head _)
    simp only [List.map_cons, List.sum_cons, List.length_cons]
    omega
theorem filt_names (tab : List (Str × Nat)) (h : tab.map (·.1) = names) (hs : List Str) : (tab.filter fun q => decide (q.1 ∈ hs)).map (·.1) = names.filter fun s => decide (s ∈ hs) := by
  rw [← h, List.filter_map]; rfl
theorem join_len (hs : List Str) : (joinOut hs).length ≤ sizeLine := by
  have h1 := StrLaws.join_length_le ⟨#[44, 32]⟩ (names.filter fun s => decide (s ∈ hs))
  have h2 := sum_len (names.filter fun s => decide (s ∈ hs)) fun s hs' => names_len s (List.mem_filter.mp hs').1
  have h3 := List.length_filter_le (fun s => decide (s ∈ hs)) names
  have h4 : names.length = 12 := rfl
  have h5 : (⟨#[44, 32]⟩ : Str).length = 2 := rfl
  rw [h5] at h1
  have h6 : sizeLine = 2 ^ 24 := rfl
  unfold joinOut
  omega
theorem run_b {w : World} {b : Bool} (hb : w.params.followText "special-get-raises" = b) {A : Around} {R : Result → Shared → Prop} (hA : A.handled = none) (hd : A.depth + 9 < recursionLimit) (hu : A.units + 50 < cLine) {s₀ h7 : Heap} {M : List Addr} {g : Array GenState} {d : Drawn} {ost : OsState} (N4 T4 N0 T0 N1 T1 T2 T3 : Nat) (tt : Nat) (du : Str) (td tb : Nat) (tab : List (Str × Nat)) (tp : Nat) (o8 : Obj) (X : LX) (Z : LS)
    (C7 : Cur w s₀ M h7 (put (rud w b N0 T0 X.text tt du td N1 T1 X.sp T2 tb (sA tab) X.dx T3 tp o8).led 9 (lexD w.params X Z.ln Z.tl))) (hN7 : h7.objs.size = N4) (L7 : LexAt w X Z h7) (hx2 : X.lx = X.dx + 1) (htab : tab.map (·.1) = names) (hout : ∀ a ∈ X.keys, a = X.lx ∨ a = X.dx ∨ a = X.sp ∨ a ∉ (rud w b N0 T0 X.text tt du td N1 T1 X.sp T2 tb (sA tab) X.dx T3 tp o8).led.map (·.1)) (hzp : Z.p = 0) (hzl : Z.ln = 1) (hzx : Z.xs = #[])
    (hl : 2 ≤ X.text.length) (hsz : 4 * X.text.length + 10 ≤ sizeLine) {more1 more2 : List Nat} {ws1 ws2 : List Str} {nl1 nl2 nl3 : Nat} (F1 : Fac X.text.cps.toList ws1 more1 nl1) (F2 : Fac more1 ws2 more2 nl2) (hw : ∀ p ∈ ws1, p ∈ names ∧ ∀ q ∈ ws2, q ∈ names ∧ ix p + ix q < 12) (hws : 2 * (ws1.length * ws2.length) ≤ sizeLine) (hH : ∀ tab : List (Str × Nat), tab.map (·.1) = names → ∃ hs', Hld tab more2 [] (prodsS tab ws1 ws2) hs' nl3 ∧ (if (joinOut hs').length = 0 then sZero else joinOut hs') = du) (hc : nl1 + nl2 + nl3 = List.count 10 X.text.cps.toList) (hpbn : s₀.objs.size ≤ X.pb) (H : ∀ h' T', Sta w h' → Kp M s₀ h' → h'.get? 80 = some o8 → R (.ok (.ret (.bool true))) ⟨h', g, d, T', ost⟩) :
    MeansO pg w A (onDone (RQ w A N0 R)) (fun _ _ => False) (rud w b N0 T0 X.text tt du td N1 T1 X.sp T2 tb (sA tab) X.dx T3 tp o8).out (.ok (.ret .none)) ⟨h7, g, d, T4, ost⟩ := by
  obtain ⟨hs', hHl, hdu⟩ := hH tab htab
  obtain ⟨cc, hcc⟩ : ∃ b, w.params.followText "comprehension-iter-twice" = b := ⟨_, rfl⟩
  have hpbk : X.pb ∉ (rud w b N0 T0 X.text tt du td N1 T1 X.sp T2 tb (sA tab) X.dx T3 tp o8).led.map (·.1) := by
    rcases hout X.pb (by ac_rfl) with e | e | e | e
    · exact absurd e (nd_ne L7.nd 2 0 rfl rfl (by decide))
    · exact absurd e (nd_ne L7.nd 2 1 rfl rfl (by decide))
    · exact absurd e (nd_ne L7.nd 2 9 rfl rfl (by decide))
    · exact e
  have kin : ∀ {a : Addr}, a ∈ (rud w b N0 T0 X.text tt du td N1 T1 X.sp T2 tb (sA tab) X.dx T3 tp o8).led.map (·.1) → a ≠ X.lx → a ≠ X.dx → a ≠ X.sp → a ∉ X.keys := fun {a} ha h1 h2 h3 hk => by
    rcases hout a hk with e | e | e | e
    · exact h1 e
    · exact h2 e
    · exact h3 e
    · exact e ha
  refine res_call C7.re0 hb hA hN7 _ (rue.eq_1 w b N0 T0 X.text tt du td N1 T1 X.sp T2 tb (sA tab) X.dx T3 tp o8 N4 T4 X Z) no_orc (rue' ..).s (rue' ..).o fun h8 N8 T8 hN8 C8 => ?_
  have G8 := C7.glo.run C8
  have K8 := C8.kp
  rw [put_keys] at K8
  have L8 : LexAt w X Z h8 := L7.via K8 hout (by rw [hx2]; exact C8.at' ((rue' ..).g 3 rfl)) (C8.at' ((rue' ..).g 2 rfl)) (by
    have e := K8
    have e1 := C7.at' (j := 4) ((pick_put_ne (by decide)).trans ((rud' ..).g 1 rfl))
    have e2 := L7.sp
    rw [e1] at e2
    have e3 := Option.some.inj e2
    have e4 := C8.at' ((rue' w b N0 T0 X.text tt du td N1 T1 X.sp T2 tb (sA tab) X.dx T3 tp o8 N4 T4 X Z).g 1 rfl)
    rw [e4]
    exact congrArg some e3)
  have htk : tb ∈ (rud w b N0 T0 X.text tt du td N1 T1 X.sp T2 tb (sA tab) X.dx T3 tp o8).led.map (·.1) := pick_key ((rud' ..).g 0 rfl)
  have htx : tb ∉ X.keys := kin htk (by rw [hx2]; exact pick_ne C8.nd (by decide) ((rue' w b N0 T0 X.text tt du td N1 T1 X.sp T2 tb (sA tab) X.dx T3 tp o8 N4 T4 X Z).g 0 rfl) ((rue' ..).g 3 rfl)) (pick_ne C8.nd (by decide) ((rue' w b N0 T0 X.text tt du td N1 T1 X.sp T2 tb (sA tab) X.dx T3 tp o8 N4 T4 X Z).g 0 rfl) ((rue' ..).g 2 rfl)) (pick_ne C8.nd (by decide) ((rue' w b N0 T0 X.text tt du td N1 T1 X.sp T2 tb (sA tab) X.dx T3 tp o8 N4 T4 X Z).g 0 rfl) ((rue' ..).g 1 rfl))
  have A8 : LA w X Z [(tb, listO (sA tab) 0)] h8 := by
    refine ⟨L8, ?_, ?_, ?_⟩
    · exact mC (C8.at' ((rue' ..).g 0 rfl)) mN
    · refine List.nodup_append.mpr ⟨L7.nd, by simp, fun x hx y hy e => ?_⟩
      cases List.mem_singleton.mp hy
      have e' : x = tb := e
      exact htx (e' ▸ hx)
    · exact mC (C8.off' ((rue' ..).g 0 rfl)) mN
  have hp := products_ok (w := w) (X := X) (Z := Z) hl hsz F1 F2 hw hws (by unfold LX.rest; rw [hzp]; rfl) (by rw [hzp]; exact Nat.zero_le _) hzx (tb := tb) (nt := 0) htab
  rw [hx2] at hp
  refine hp _ _ _ (aroO_handled hA _) (by first | exact room hd (rue' ..).e.1 rfl | (rw [aroO_depth, (rue' ..).e.1]; omega)) C8.sta A8 fun v h9 T5 hPP => ?_
  obtain ⟨q, nx, hv, hq, eq, oq, K9, p9, tl9, tp9, n9, r1, r2, L9⟩ := hPP
  subst hv
  clear hp
  generalize hY : ({ Z with ln := Z.ln + nl1 + nl2, tl := tl9, p := p9, tp := tp9, xs := sA (prodsS tab ws1 ws2), n := n9 } : LS) = Y at L9
  have hYl : Y.ln = 1 + nl1 + nl2 := by rw [← hY, ← hzl]
  have hYp : Y.p = p9 := by rw [← hY]
  have hYx : Y.xs = sA (prodsS tab ws1 ws2) := by rw [← hY]
  have S9 : Sta w h9 := C8.sta.kp K9 (by
    exact mC (L7.off _ (by ac_rfl)) (mC (L7.off _ (by ac_rfl)) (mC (L7.off _ (by ac_rfl)) mN)))
  have C9 := C8.rePut2 (j := 9) (k := 4) (o := lexD w.params X Y.ln Y.tl) (p := spotO w.params X.kp (.int Y.p Y.tp)) (by decide) ((rue' w b N0 T0 X.text tt du td N1 T1 X.sp T2 tb (sA tab) X.dx T3 tp o8 N4 T4 X Z).g 2 rfl) ((rue' ..).g 1 rfl) K9 S9 (by
    simp only [fmc, nmn]
    refine ⟨.inl trivial, .inr (.inl trivial), .inr (.inr ?_), fun _ h => h.elim⟩
    rw [(rue' ..).e.2]; exact hpbk) L9.dx L9.sp
  have dx8 : X.dx ∈ M ∨ s₀.objs.size ≤ X.dx := G8.dom _ (pick_key ((rue' ..).g 2 rfl))
  have sp8 : X.sp ∈ M ∨ s₀.objs.size ≤ X.sp := G8.dom _ (pick_key ((rue' ..).g 1 rfl))
  have G9 := G8.call (led' := put (put (rue w b N0 T0 X.text tt du td N1 T1 X.sp T2 tb (sA tab) X.dx T3 tp o8 N4 T4 X Z).led 9 (lexD w.params X Y.ln Y.tl)) 4 (spotO w.params X.kp (.int Y.p Y.tp))) K9 (by
    exact mC (dx8) (mC (sp8) (mC (.inr hpbn) mN))) (by rw [put_keys, put_keys])
  obtain ⟨N5, hN5⟩ : ∃ N, h9.objs.size = N := ⟨_, rfl⟩
  refine res_call C9 hb hA hN5 _ (ruf.eq_1 w b N0 T0 X.text tt du td N1 T1 X.sp T2 tb (sA tab) X.dx T3 tp o8 N4 T4 X Z N5 T5 q Y) no_orc (ruf' ..).s (ruf' ..).o fun h10 N10 T10 hN10 C10 => ?_
  have G10 := G9.run C10
  have K10 := C10.kp
  rw [put_keys, put_keys, (rue' ..).e.2] at K10
  have L10 : LexAt w X Y h10 := L9.via K10 hout (by rw [hx2]; exact C10.at' ((ruf' ..).g 3 rfl)) (C10.at' ((ruf' ..).g 2 rfl)) (C10.at' ((ruf' ..).g 1 rfl))
  have hqk : q ∉ (rud w b N0 T0 X.text tt du td N1 T1 X.sp T2 tb (sA tab) X.dx T3 tp o8).led.map (·.1) := by
    have := C8.fresh hq
    rw [(rue' ..).e.2] at this
    exact this
  have hqx : q ∉ X.keys := fun hm => absurd (L8.lt _ hm) (Nat.not_lt.mpr hq)
  have A10 : LA w X Y [(tb, listO (sA tab) 0), (q, listO (sA (prodsS tab ws1 ws2)) nx)] h10 := by
    refine ⟨L10, ?_, ?_, ?_⟩
    · exact mC (C10.at' ((ruf' ..).g 0 rfl)) (mC (K10.get eq hqk) mN)
    · refine List.nodup_append.mpr ⟨L7.nd, ?_, fun x hx y hy e => ?_⟩
      · simp only [List.map_cons, List.map_nil, List.nodup_cons, List.mem_cons, nmn, or_false]
        exact ⟨fun e => hqk (e ▸ htk), fun h => h.elim, List.nodup_nil⟩
      · simp only [List.map_cons, List.map_nil, List.mem_cons, nmn, or_false] at hy
        rcases hy with hy | hy
        · exact htx (hy ▸ e ▸ hx)
        · exact hqx (hy ▸ e ▸ hx)
    · exact mC (C10.off' ((ruf' ..).g 0 rfl)) (mC (oq) mN)
  have hh := held_ok (w := w) (X := X) (Z := Y) hl hsz (tb := tb) (q := q) (nt := 0) (nx := nx) htab hHl (by rw [hYp]; exact r1) (by rw [hYp]; exact r2) hYx
  rw [hx2] at hh
  refine hh _ _ _ (aroO_handled hA _) (by first | exact room hd (ruf' ..).e.1 rfl | (rw [aroO_depth, (ruf' ..).e.1]; omega)) C10.sta A10 fun v h11 T6 hPP => ?_
  obtain ⟨D, hsF, nh, hv, hD, oD, eD, ehs, K11, tl11, tp11, n11, L11⟩ := hPP
  subst hv
  clear hh
  generalize hW : ({ Y with ln := Y.ln + nl3, tl := tl11, p := X.text.length, tp := tp11, xs := #[], n := n11 } : LS) = W at L11
  have hWl : W.ln = 1 + (X.text.cps.toList.count 10 : Nat) := by rw [← hW, ← hc]; show Y.ln + nl3 = _; rw [hYl]; omega
  have hWp : W.p = X.text.length := by rw [← hW]
  have hWx : W.xs = #[] := by rw [← hW]
  have S11 : Sta w h11 := C10.sta.kp K11 (by
    exact mC (L7.off _ (by ac_rfl)) (mC (L7.off _ (by ac_rfl)) (mC (L7.off _ (by ac_rfl)) (mC (oq) mN))))
  have C11a := C10.rePut2 (j := 9) (k := 4) (o := lexD w.params X W.ln W.tl) (p := spotO w.params X.kp (.int W.p W.tp)) (by decide) ((ruf' w b N0 T0 X.text tt du td N1 T1 X.sp T2 tb (sA tab) X.dx T3 tp o8 N4 T4 X Z N5 T5 q Y).g 2 rfl) ((ruf' ..).g 1 rfl) K11 S11 (by
    simp only [fmc, nmn]
    refine ⟨.inl trivial, .inr (.inl trivial), .inr (.inr ?_), .inr (.inr ?_), fun _ h => h.elim⟩
    · rw [(ruf' ..).e.2]; exact hpbk
    · rw [(ruf' ..).e.2]; exact hqk) L11.dx L11.sp
  have epb := L11.pb
  rw [hWx] at epb
  have C11 := C11a.reJoin epb (by rw [put_keys, put_keys, (ruf' ..).e.2]; exact hpbk) (L7.off _ (by ac_rfl))
  have G11 := (G10.call (led' := put (put (ruf w b N0 T0 X.text tt du td N1 T1 X.sp T2 tb (sA tab) X.dx T3 tp o8 N4 T4 X Z N5 T5 q Y).led 9 (lexD w.params X W.ln W.tl)) 4 (spotO w.params X.kp (.int W.p W.tp))) K11 (by
    exact mC (dx8) (mC (sp8) (mC (.inr hpbn) (mC (.inr (Nat.le_trans G8.kp.1 hq)) mN)))) (by rw [put_keys, put_keys])).join (a := X.pb) (o := listO #[] W.n) (.inr hpbn)
  obtain ⟨N6, hN6⟩ : ∃ N, h11.objs.size = N := ⟨_, rfl⟩
  refine res_call C11 hb hA hN6 _ (rug.eq_1 w b N0 T0 X.text tt du td N1 T1 X.sp T2 tb (sA tab) X.dx T3 tp o8 N4 T4 X Z N5 T5 q Y N6 T6 D W W.n) no_orc (rug' ..).s (rug' ..).o fun h12 N12 T12 hN12 C12 => ?_
  have G12 := G11.run C12
  have K12 := C12.kp
  rw [snoc_eq, List.map_append, put_keys, put_keys, (ruf' ..).e.2] at K12
  have hDk : D ∉ (rud w b N0 T0 X.text tt du td N1 T1 X.sp T2 tb (sA tab) X.dx T3 tp o8).led.map (·.1) := by
    have := C10.fresh hD
    rw [(ruf' ..).e.2] at this
    exact this
  have hDp : D ≠ X.pb := fun e => absurd (L10.lt X.pb (by ac_rfl)) (Nat.not_lt.mpr (e ▸ hD))
  have hDN : D < N6 := by rw [← hN6]; exact Heap.lt_size eD
  have eD12 : h12.get? D = some (listO (sA hsF) nh) := K12.get eD fun hm => by
    rcases List.mem_append.mp hm with h | h
    · exact hDk h
    · exact hDp (List.mem_singleton.mp h)
  have hLk : N0 + 1 ∈ (rud w b N0 T0 X.text tt du td N1 T1 X.sp T2 tb (sA tab) X.dx T3 tp o8).led.map (·.1) := pick_key ((rud' ..).g 2 rfl)
  have B12 : BAt w (CE w N0 N6 tb D 0 [] 0 none tab hsF nh) h12 := by
    refine ⟨?_, ?_, ?_⟩
    · exact mC (C12.at' ((rug' ..).g 6 rfl)) (mC (C12.at' ((rug' ..).g 7 rfl)) (mC (C12.at' ((rug' ..).g 8 rfl)) (mC (C12.at' ((rug' ..).g 1 rfl)) (mC (C12.at' ((rug' ..).g 0 rfl)) (mC (eD12) mN)))))
    · show [N6, N6 + 1, N6 + 2, tb, N0 + 1, D].Nodup
      have n1 := pick_ne C12.nd (by decide) ((rug' w b N0 T0 X.text tt du td N1 T1 X.sp T2 tb (sA tab) X.dx T3 tp o8 N4 T4 X Z N5 T5 q Y N6 T6 D W W.n).g 6 rfl) ((rug' ..).g 1 rfl)
      have n2 := pick_ne C12.nd (by decide) ((rug' w b N0 T0 X.text tt du td N1 T1 X.sp T2 tb (sA tab) X.dx T3 tp o8 N4 T4 X Z N5 T5 q Y N6 T6 D W W.n).g 7 rfl) ((rug' ..).g 1 rfl)
      have n3 := pick_ne C12.nd (by decide) ((rug' w b N0 T0 X.text tt du td N1 T1 X.sp T2 tb (sA tab) X.dx T3 tp o8 N4 T4 X Z N5 T5 q Y N6 T6 D W W.n).g 8 rfl) ((rug' ..).g 1 rfl)
      have n4 := pick_ne C12.nd (by decide) ((rug' w b N0 T0 X.text tt du td N1 T1 X.sp T2 tb (sA tab) X.dx T3 tp o8 N4 T4 X Z N5 T5 q Y N6 T6 D W W.n).g 6 rfl) ((rug' ..).g 0 rfl)
      have n5 := pick_ne C12.nd (by decide) ((rug' w b N0 T0 X.text tt du td N1 T1 X.sp T2 tb (sA tab) X.dx T3 tp o8 N4 T4 X Z N5 T5 q Y N6 T6 D W W.n).g 7 rfl) ((rug' ..).g 0 rfl)
      have n6 := pick_ne C12.nd (by decide) ((rug' w b N0 T0 X.text tt du td N1 T1 X.sp T2 tb (sA tab) X.dx T3 tp o8 N4 T4 X Z N5 T5 q Y N6 T6 D W W.n).g 8 rfl) ((rug' ..).g 0 rfl)
      have n7 := pick_ne C12.nd (by decide) ((rug' w b N0 T0 X.text tt du td N1 T1 X.sp T2 tb (sA tab) X.dx T3 tp o8 N4 T4 X Z N5 T5 q Y N6 T6 D W W.n).g 1 rfl) ((rug' ..).g 0 rfl)
      simp only [List.nodup_cons, List.mem_cons, nmn, or_false, not_or]
      exact ⟨⟨by omega, by omega, n1, n4, Nat.ne_of_gt hDN⟩, ⟨by omega, n2, n5, Nat.ne_of_gt (Nat.lt_succ_of_lt hDN)⟩, ⟨n3, n6, Nat.ne_of_gt (Nat.lt_succ_of_lt (Nat.lt_succ_of_lt hDN))⟩, ⟨n7, fun e => hDk (e ▸ htk)⟩, fun e => hDk (e ▸ hLk), fun h => h.elim, List.nodup_nil⟩
    · exact mC (C12.off' ((rug' ..).g 6 rfl)) (mC (C12.off' ((rug' ..).g 7 rfl)) (mC (C12.off' ((rug' ..).g 8 rfl)) (mC (C12.off' ((rug' ..).g 1 rfl)) (mC (C12.off' ((rug' ..).g 0 rfl)) (mC (oD) mN)))))
  refine code_fin2 (B12.cur C12.sta) hb hcc (aroO_handled hA _) hN12 _ (vcs.eq_1 w b N12 T12 N0 N6 tb D 0 (sA []) 0 (sA tab) (sA hsF) nh cc) no_orc (vcs' ..).s (vcs' ..).o fun h13 N13 T13 hN13 C13 => ?_
  rw [(vcs' ..).e] at C13
  have B13 : BAt w (CE w N0 N6 tb D 0 [] 0 none tab hsF nh) h13 := ⟨C13.at_, B12.nd, B12.off⟩
  have K13 : Kp [] h12 h13 := C13.fin B12.at_ fun p hp => .inr (C13.at_ p hp)
  have htl : tab.length = 12 := by rw [← List.length_map (f := (·.1)), htab]; rfl
  refine ⟨clR_q .., loopC hb N0 N6 tb D tab hsF nh tab 0 [] 0 none (by ac_rfl) (by simp [htl]; decide) (by intro e; rw [e] at htl; cases htl) _ _ _ (aroO_handled hA _) (by first | exact room hd (rug' ..).e rfl | (rw [aroO_depth, (rug' ..).e]; omega)) C13.sta B13 fun f h14 T7 P => ?_⟩
  obtain ⟨rfl, K14, jn, k0, s0, t0, oi, e1, e2, e3⟩ := P
  have S14 : Sta w h14 := C13.sta.kp K14 (by
    exact mC (C12.off' ((rug' ..).g 6 rfl)) (mC (C12.off' ((rug' ..).g 7 rfl)) (mC (C12.off' ((rug' ..).g 8 rfl)) mN)))
  have C14 := C12.rePut3 (i := 12) (j := 13) (k := 14) (by decide) (by decide) (by decide) ((rug' w b N0 T0 X.text tt du td N1 T1 X.sp T2 tb (sA tab) X.dx T3 tp o8 N4 T4 X Z N5 T5 q Y N6 T6 D W W.n).g 6 rfl) ((rug' ..).g 7 rfl) ((rug' ..).g 8 rfl) ((K13.mono fun a ha => nomatch ha).trans K14 fun a ha => .inl ha) S14 e1 e2 e3
  have G14 := G12.call (led' := put (put (put (rug w b N0 T0 X.text tt du td N1 T1 X.sp T2 tb (sA tab) X.dx T3 tp o8 N4 T4 X Z N5 T5 q Y N6 T6 D W W.n).led 12 oi) 13 (listO (sA ([] ++ tab.filter fun q => decide (q.1 ∈ hsF.map (·.1)))) jn)) 14 (dO1 w.params k0 s0 t0)) ((K13.mono fun a ha => nomatch ha).trans K14 fun a ha => .inl ha) (by
    exact mC (G12.dom _ (pick_key ((rug' ..).g 6 rfl))) (mC (G12.dom _ (pick_key ((rug' ..).g 7 rfl))) (mC (G12.dom _ (pick_key ((rug' ..).g 8 rfl))) mN))) (by rw [put_keys, put_keys, put_keys])
  obtain ⟨N7, hN7'⟩ : ∃ N, h14.objs.size = N := ⟨_, rfl⟩
  generalize hja : ([] ++ tab.filter fun q => decide (q.1 ∈ hsF.map (·.1))) = jl at C14 e2 G14
  have hjl : jl.map (·.1) = names.filter fun s => decide (s ∈ hs') := by rw [← hja, List.nil_append, ehs]; exact filt_names tab htab hs'
  refine res_call C14 hb hA hN7' _ (ruh.eq_1 w b N0 T0 X.text tt du td N1 T1 X.sp T2 tb (sA tab) X.dx T3 tp o8 N4 T4 X Z N5 T5 q Y N6 T6 D W W.n N7 T7 k0 s0 t0 (sA jl) jn oi) no_orc (ruh' ..).s (ruh' ..).o fun h15 N8 T15 hN15 C15 => ?_
  have G15 := G14.run C15
  refine cJoin (C15.at' ((ruh' ..).g 0 rfl)) ?_ fun tw T8 => ?_
  · rw [← List.length_map (f := (·.1)), hjl]
    have h2 := sum_len (names.filter fun s => decide (s ∈ hs')) fun s hs' => names_len s (List.mem_filter.mp hs').1
    have h3 := List.length_filter_le (fun s => decide (s ∈ hs')) names
    have h4 : names.length = 12 := rfl
    have h5 : (⟨#[44, 32]⟩ : Str).length = 2 := rfl
    have h6 : sizeLine = 2 ^ 24 := rfl
    rw [h5]
    omega
  rw [hjl]
  refine res_fin C15.re0 hb hA hN15 _ (rui.eq_1 w b N0 T0 X.text tt du td N1 T1 X.sp T2 tb (sA tab) X.dx T3 tp o8 N4 T4 X Z N5 T5 q Y N6 T6 D W W.n N7 T7 k0 s0 t0 (sA jl) jn oi N8 T8 (joinOut hs') tw) no_orc (rui' ..).s (rui' ..).o fun h16 N9 T9 hN16 C16 => ?_
  exact run_c hb hA hu N9 T9 N0 T0 N1 T1 X.sp T2 X.dx T3 N4 T4 N5 T5 N6 T6 N7 T7 N8 T8 X.text tt du td tb (sA tab) tp o8 X Z q Y D W W.n k0 s0 t0 (sA jl) jn oi (joinOut hs') tw ((G15.run C16).cur C16) hN16 hWl hWp (by omega) (join_len hs') hdu H
noncomputable abbrev mkX (N3 N2 T2 pb tp td rd rc ct c1 c2 k1 k2 k3 k4 kw kr tt : Nat) (fdT : FuncData) (tx : Str) : LX := { lx := N3 + 1, dx := N3, pb := pb, tp := tp, td := td, rd := rd, rc := rc, ct := ct, c1 := c1, c2 := c2, sp := N2, k1 := k1, k2 := k2, k3 := k3, k4 := k4, kw := kw, kr := kr, kp := T2, tt := tt, fdT := fdT, text := tx }
theorem keys_nodup {N3 pb N2 sz : Nat} {l : List Nat} (hl : l.Nodup) (lt5 : ∀ a ∈ l, a < N3) (hs : ∀ a ∈ l, a ≠ N2) (lt6 : ∀ a ∈ l, a < sz) (hpb : sz ≤ pb) (hn : N3 + 2 ≤ sz) (lt2 : N2 < N3) : ((N3 + 1) :: N3 :: pb :: (l ++ [N2])).Nodup := by
  have pbg : ∀ {a : Nat}, a < sz → a ≠ pb := fun h e => Nat.lt_irrefl _ (Nat.lt_of_lt_of_le (e ▸ h) hpb)
  have mem : ∀ {a : Nat}, a ∈ l ++ [N2] → a < N3 := fun {a} ha => (List.mem_append.mp ha).elim (lt5 a) fun h => List.mem_singleton.mp h ▸ lt2
  refine List.nodup_cons.mpr ⟨fun h => ?_, List.nodup_cons.mpr ⟨fun h => ?_, List.nodup_cons.mpr ⟨fun h => ?_, List.nodup_append.mpr ⟨hl, List.nodup_cons.mpr ⟨(fun h => nomatch h), List.nodup_nil⟩, fun a ha b hb => (List.mem_singleton.mp hb).symm ▸ hs a ha⟩⟩⟩⟩
  · rcases List.mem_cons.mp h with h | h
    · exact Nat.succ_ne_self _ h
    · rcases List.mem_cons.mp h with h | h
      · exact pbg hn h
      · exact Nat.lt_irrefl _ (Nat.lt_trans (Nat.lt_succ_self _) (mem h))
  · rcases List.mem_cons.mp h with h | h
    · exact pbg (Nat.lt_of_succ_lt hn) h
    · exact Nat.lt_irrefl _ (mem h)
  · rcases List.mem_append.mp h with h | h
    · exact pbg (lt6 _ h) rfl
    · exact pbg (Nat.lt_trans lt2 (Nat.lt_of_succ_lt hn)) (List.mem_singleton.mp h).symm
theorem run_ok {w : World} {tx du : Str} {tt td : Nat} (hl : 2 ≤ tx.length) (hsz : 4 * tx.length + 10 ≤ sizeLine) {more1 more2 : List Nat} {ws1 ws2 : List Str} {nl1 nl2 nl3 : Nat} (F1 : Fac tx.cps.toList ws1 more1 nl1) (F2 : Fac more1 ws2 more2 nl2) (hw : ∀ p ∈ ws1, p ∈ names ∧ ∀ q ∈ ws2, q ∈ names ∧ ix p + ix q < 12) (hws : 2 * (ws1.length * ws2.length) ≤ sizeLine) (hH : ∀ tab : List (Str × Nat), tab.map (·.1) = names → ∃ hs', Hld tab more2 [] (prodsS tab ws1 ws2) hs' nl3 ∧ (if (joinOut hs').length = 0 then sZero else joinOut hs') = du) (hc : nl1 + nl2 + nl3 = List.count 10 tx.cps.toList) : CtrU w 9 50 (.call (.ref 116) ⟨[.str tx tt, .str du td], []⟩) (fun h => h.get? 80 = some (o80 w.params)) (fun h v h' => v = .bool true ∧ Sta w h' ∧ Kp [80] h h' ∧ ∃ vs, h'.get? 80 = some (tabO vs)) := by
  rintro A R ⟨h0, g, d, T, ost⟩ hA hd hu S L H
  obtain ⟨b, hb⟩ : ∃ b, w.params.followText "special-get-raises" = b := ⟨_, rfl⟩
  obtain ⟨N, hN⟩ : ∃ N, h0.objs.size = N := ⟨_, rfl⟩
  have C0 : Cur w h0 (([(80, o80 w.params)] : Led).map (·.1)) h0 [(80, o80 w.params)] := Cur.start S (fun p hp => by cases List.mem_singleton.mp hp; exact L) (by ac_rfl) (fun p hp => by cases List.mem_singleton.mp hp; exact off80 w)
  refine seg_fn C0 (fn116 w) hb hA (by first | exact room0 hd | omega) hN _ (rua.eq_1 w b N T tx tt du td) (rua' ..).s (rua' ..).o fun h1 N1 T1 hN1 C1 => ?_
  rw [(rua' ..).e]
  have key : wpOwn (model pg w) A (cdR w.params N) (execs (hdR w.params ++ [stR w.params 6, stR w.params 7]) (envR w.params N)) (RF R) (fun _ _ => False) ⟨h1, g, d, T1, ost⟩ := own_split ?_
  · rw [← bd_split] at key
    exact own_func key
  refine execs_call (QB := onDone (RQ w A N R)) C1 hb hA hN1 _ (rub.eq_1 w b N T tx tt du td N1 T1) no_orc (rub' ..).s (rub' ..).o fun h2 N2' T2' hN2 C2 => ?_
  refine table_ok _ _ _ (aroO_handled hA _) (by first | exact room hd (rub' ..).e rfl | (rw [aroO_depth, (rub' ..).e]; omega)) C2.sta trivial fun v h3 T2 hPP => ?_
  obtain ⟨tb, tab, hv, htb, etb, htab, otb, K3⟩ := hPP
  subst hv
  have C3 := (C2.same K3).join etb (C2.fresh htb) otb (.inr (Nat.le_trans C2.kp.1 htb))
  obtain ⟨N2, hN3⟩ : ∃ N, h3.objs.size = N := ⟨_, rfl⟩
  refine res_call C3 hb hA hN3 _ (ruc.eq_1 w b N T tx tt du td N1 T1 N2 T2 tb (sA tab)) no_orc (ruc' ..).s (ruc' ..).o fun h4 N4 T4 hN4 C4 => ?_
  refine reader_ok _ _ _ (aroO_handled hA _) (by first | exact room hd (ruc' ..).e rfl | (rw [aroO_depth, (ruc' ..).e]; omega)) C4.sta (C4.at' ((ruc' ..).g 0 rfl)) fun v h5 T3 hPP => ?_
  obtain ⟨tp, td5, rd, rc, ct, c1, c2, kr, fdT, v8, hv, K5, e8, hge, hnd, etp, etd, erd, erc, ec1, ec2⟩ := hPP
  subst hv
  have C5 := C4.put1 ((ruc' ..).g 0 rfl) K5 e8
  obtain ⟨N3, hN5⟩ : ∃ N, h5.objs.size = N := ⟨_, rfl⟩
  have fr5 : ∀ a ∈ [tp, td5, rd, rc, c1, c2], a ∉ (put (ruc w b N T tx tt du td N1 T1 N2 T2 tb (sA tab)).led 0 (tabO v8)).map (·.1) := fun a ha => by
    rw [put_keys]; exact C4.fresh (hge a ha)
  have lt5 : ∀ a ∈ [tp, td5, rd, rc, c1, c2], a < N3 := by
    obtain ⟨o, vs, t, e, _⟩ := erc
    rw [← hN5]
    exact mC (Heap.lt_size etp) (mC (Heap.lt_size etd) (mC (Heap.lt_size erd) (mC (Heap.lt_size e) (mC (Heap.lt_size ec1) (mC (Heap.lt_size ec2) mN)))))
  refine res_call C5.re0 hb hA hN5 _ (rud.eq_1 w b N T tx tt du td N1 T1 N2 T2 tb (sA tab) N3 T3 tp (tabO v8)) no_orc (rud' ..).s (rud' ..).o fun h6 N6 T6 hN6 C6 => ?_
  have K6 := C6.kp
  have G6 := (C5.glo.run C6).cur C6
  refine init_ok _ _ _ (aroO_handled hA _) (by first | exact room hd (rud' ..).e.1 rfl | (rw [aroO_depth, (rud' ..).e.1]; omega)) C6.sta ⟨C6.at' ((rud' ..).g 4 rfl), C6.at' ((rud' ..).g 3 rfl), fun e => absurd e (by omega), C6.off' ((rud' ..).g 4 rfl), C6.off' ((rud' ..).g 3 rfl)⟩ fun v h7 T4 hPP => ?_
  obtain ⟨k1, k2, k3, k4, kw, tl, pb, hv, K7, hpb, edx, epb⟩ := hPP
  subst hv
  have C7 := G6.put1 (o := lexD w.params (mkX N3 N2 T2 pb tp td5 rd rc ct c1 c2 k1 k2 k3 k4 kw kr tt fdT tx) 1 tl) ((rud' ..).g 3 rfl) K7 edx
  have hn6 : N3 + 2 ≤ h6.objs.size := Heap.lt_size (C6.at' ((rud' w b N T tx tt du td N1 T1 N2 T2 tb (sA tab) N3 T3 tp (tabO v8)).g 4 rfl))
  have kp7 : ∀ {a : Addr} {o : Obj}, a ∈ [tp, td5, rd, rc, c1, c2] → h5.get? a = some o → h7.get? a = some o := fun {a o} ha e => K7.get (K6.get e (fr5 a ha)) fun hm => Nat.ne_of_lt (lt5 a ha) (List.mem_singleton.mp hm)
  have hkeys : (rud w b N T tx tt du td N1 T1 N2 T2 tb (sA tab) N3 T3 tp (tabO v8)).led.map (·.1) = (ruc w b N T tx tt du td N1 T1 N2 T2 tb (sA tab)).led.map (·.1) ++ [N3, N3 + 1] := (rud' ..).e.2
  have fr6 : ∀ a ∈ [tp, td5, rd, rc, c1, c2], a ∉ (rud w b N T tx tt du td N1 T1 N2 T2 tb (sA tab) N3 T3 tp (tabO v8)).led.map (·.1) := fun a ha hm => by
    rw [hkeys] at hm
    rcases List.mem_append.mp hm with h | h
    · exact C4.fresh (hge a ha) h
    · have := lt5 a ha
      simp only [List.mem_cons, nmn, or_false] at h
      rcases h with h | h
      · exact Nat.ne_of_lt this h
      · exact Nat.ne_of_lt (Nat.lt_succ_of_lt this) h
  have frp : pb ∉ (rud w b N T tx tt du td N1 T1 N2 T2 tb (sA tab) N3 T3 tp (tabO v8)).led.map (·.1) := C6.fresh hpb
  have lt2 : N2 < N3 := by
    have := Heap.lt_size (C4.at' ((ruc' w b N T tx tt du td N1 T1 N2 T2 tb (sA tab)).g 2 rfl))
    have h' := K5.1
    rw [← hN5]; exact Nat.lt_of_lt_of_le this h'
  have hsp4 : ∀ a ∈ [tp, td5, rd, rc, c1, c2], a ≠ N2 := fun a ha e => absurd (Heap.lt_size (C4.at' ((ruc' w b N T tx tt du td N1 T1 N2 T2 tb (sA tab)).g 2 rfl))) (Nat.not_lt.mpr (e ▸ hge a ha))
  have pbg : ∀ {a : Addr}, a < h6.objs.size → a ≠ pb := fun h e => Nat.lt_irrefl _ (Nat.lt_of_lt_of_le (e ▸ h) hpb)
  have lt6 : ∀ a ∈ [tp, td5, rd, rc, c1, c2], a < h6.objs.size := fun a ha => Nat.lt_of_lt_of_le (lt5 a ha) (by omega)
  have ndk : (mkX N3 N2 T2 pb tp td5 rd rc ct c1 c2 k1 k2 k3 k4 kw kr tt fdT tx).keys.Nodup := keys_nodup hnd lt5 hsp4 lt6 hpb hn6 lt2
  have off5 : ∀ a ∈ [tp, td5, rd, rc, c1, c2], Off w a := fun a ha => C4.sta.off (hge a ha)
  have offk : ∀ a ∈ (mkX N3 N2 T2 pb tp td5 rd rc ct c1 c2 k1 k2 k3 k4 kw kr tt fdT tx).keys, Off w a := by
    show ∀ a ∈ [N3 + 1, N3, pb, tp, td5, rd, rc, c1, c2, N2], Off w a
    exact mC (C6.off' ((rud' ..).g 4 rfl)) (mC (C6.off' ((rud' ..).g 3 rfl)) (mC (C6.sta.off hpb) (mC (off5 _ (by ac_rfl)) (mC (off5 _ (by ac_rfl)) (mC (off5 _ (by ac_rfl)) (mC (off5 _ (by ac_rfl)) (mC (off5 _ (by ac_rfl)) (mC (off5 _ (by ac_rfl)) (mC (C4.off' ((ruc' ..).g 2 rfl)) mN)))))))))
  have esp : h7.get? N2 = some (spotO w.params T2 (.int 0 (T2 + 1))) := (K7.get (C6.at' ((rud' ..).g 1 rfl)) fun hm => Nat.ne_of_lt lt2 (List.mem_singleton.mp hm)).trans (by rw [entZ_is])
  have L7 : LexAt w (mkX N3 N2 T2 pb tp td5 rd rc ct c1 c2 k1 k2 k3 k4 kw kr tt fdT tx) ⟨1, tl, 0, T2 + 1, #[], 0⟩ h7 := by
    obtain ⟨o, vs, t, r1, r2⟩ := erc
    exact ⟨K7.get (C6.at' ((rud' ..).g 4 rfl)) (fun hm => Nat.succ_ne_self _ (List.mem_singleton.mp hm)), edx, epb, kp7 (by ac_rfl) etp, kp7 (by ac_rfl) etd, kp7 (by ac_rfl) erd, ⟨o, vs, t, kp7 (by ac_rfl) r1, r2⟩, kp7 (by ac_rfl) ec1, kp7 (by ac_rfl) ec2, esp, ndk, offk⟩
  have hout : ∀ a ∈ (mkX N3 N2 T2 pb tp td5 rd rc ct c1 c2 k1 k2 k3 k4 kw kr tt fdT tx).keys, a = (mkX N3 N2 T2 pb tp td5 rd rc ct c1 c2 k1 k2 k3 k4 kw kr tt fdT tx).lx ∨ a = (mkX N3 N2 T2 pb tp td5 rd rc ct c1 c2 k1 k2 k3 k4 kw kr tt fdT tx).dx ∨ a = (mkX N3 N2 T2 pb tp td5 rd rc ct c1 c2 k1 k2 k3 k4 kw kr tt fdT tx).sp ∨ a ∉ (rud w b N T tx tt du td N1 T1 N2 T2 tb (sA tab) N3 T3 tp (tabO v8)).led.map (·.1) := by
    show ∀ a ∈ [N3 + 1, N3, pb, tp, td5, rd, rc, c1, c2, N2], _
    exact mC (.inl rfl) (mC (.inr (.inl rfl)) (mC (.inr (.inr (.inr frp))) (mC (.inr (.inr (.inr (fr6 _ (by ac_rfl))))) (mC (.inr (.inr (.inr (fr6 _ (by ac_rfl))))) (mC (.inr (.inr (.inr (fr6 _ (by ac_rfl))))) (mC (.inr (.inr (.inr (fr6 _ (by ac_rfl))))) (mC (.inr (.inr (.inr (fr6 _ (by ac_rfl))))) (mC (.inr (.inr (.inr (fr6 _ (by ac_rfl))))) (mC (.inr (.inr (.inl rfl))) mN)))))))))
  exact run_b hb hA hd hu h7.objs.size T4 N T N1 T1 T2 T3 tt du td tb tab tp (tabO v8) (mkX N3 N2 T2 pb tp td5 rd rc ct c1 c2 k1 k2 k3 k4 kw kr tt fdT tx) ⟨1, tl, 0, T2 + 1, #[], 0⟩ C7 rfl L7 rfl htab hout rfl rfl rfl hl hsz F1 F2 hw hws hH hc (Nat.le_trans G6.kp.1 hpb) fun h' T' S' K' e' => H _ _ _ ⟨rfl, S', K', _, e'⟩
noncomputable abbrev slU (t : Nat) : Obj := ⟨.type "slice", none, .fields #[.none, .int 3 t, .none], #[]⟩
noncomputable abbrev slF (k : Int) (t : Nat) : Obj := ⟨.type "slice", none, .fields #[.int k t, .none, .none], #[]⟩
section
variable (w : World) (b : Bool) (N0 T0 sc : Nat) (xs : Array Value) (N1 T1 N2 T2 D1 : Nat) (x1 : Array Value) (N3 T3 D2 N4 T4 k tk N5 T5 D3 : Nat) (x3 : Array Value) (N6 T6 D4 : Nat) (ns : Array Value) (N7 T7 : Nat) (a : Int) (ta : Nat) (o1 : Int) (N8 T8 : Nat) (b2 : Int) (tb : Nat) (o2 : Int) (N9 T9 : Nat) (c : Int) (tc : Nat) (o3 : Int) (N10 T10 : Nat) (p1 : Str) (u1 N11 T11 : Nat) (d1 f1 : Int) (N12 T12 : Nat) (s1 : Str) (v1 N13 T13 : Nat) (p2 : Str) (u2 N14 T14 : Nat) (d2 f2 : Int) (N15 T15 : Nat) (s2 : Str) (v2 N16 T16 : Nat) (p3 : Str) (u3 N17 T17 : Nat) (d3 f3 : Int) (N18 T18 : Nat) (s3 : Str) (v3 : Nat) (mm ee : Int) (N19 T19 : Nat) (p4 : Str) (u4 N20 T20 : Nat)
@[irreducible] noncomputable def lwa : Res := enterZ (VV w b N0 T0) 100 [2, 2] [] 123 (fdK w.params 123) ⟨[.ref sc], []⟩ [(sc, listO xs 0)]
theorem lwa' : (fun r => Lk r [] (isAg r.out = true) (True)) (lwa w b N0 T0 sc xs) := by cases b <;> rfl'
@[irreducible] noncomputable def lwb : Res := startZ (VV w b N1 T1) 200 [2, 1, 1, 1, 1] [] (agOf (lwa w b N0 T0 sc xs).out) (lwa w b N0 T0 sc xs).led
theorem lwb' : (fun r => Lk r [(0, sc, listO xs 0), (2, N1, slU T1)] (callOf r.out = some (cB "list.__getitem__" [.ref sc, .ref N1])) (wtO r.out = 1)) (lwb w b N0 T0 sc xs N1 T1) := by cases b <;> rfl'
@[irreducible] noncomputable def lwc : Res := resumeZ (VV w b N2 T2) 400 [0, 0, 2, 1, 1, 1, 1] [] (lwb w b N0 T0 sc xs N1 T1).out (.ok (.ret (.ref D1))) (snoc (lwb w b N0 T0 sc xs N1 T1).led D1 (listO x1 0))
theorem lwc' : (fun r => Lk r [(0, sc, listO xs 0), (5, N2 + 1, slU (T2 + 3))] (callOf r.out = some (cB "list.__getitem__" [.ref sc, .ref (N2 + 1)])) (wtO r.out = 1)) (lwc w b N0 T0 sc xs N1 T1 N2 T2 D1 x1) := by cases b <;> rfl'
@[irreducible] noncomputable def lwd : Res := resumeZ (VV w b N3 T3) 400 [1] [] (lwc w b N0 T0 sc xs N1 T1 N2 T2 D1 x1).out (.ok (.ret (.ref D2))) (snoc (lwc w b N0 T0 sc xs N1 T1 N2 T2 D1 x1).led D2 (listO x1 0))
theorem lwd' : (fun r => Lk r [(6, D2, listO x1 0)] (callOf r.out = some (cB "len" [.ref D2])) (wtO r.out = 1)) (lwd w b N0 T0 sc xs N1 T1 N2 T2 D1 x1 N3 T3 D2) := by cases b <;> rfl'
@[irreducible] noncomputable def lwe : Res := resumeZ (VV w b N4 T4) 400 [5, 5, 5, 1] [] (lwd w b N0 T0 sc xs N1 T1 N2 T2 D1 x1 N3 T3 D2).out (.ok (.ret (.int (k : Int) tk))) (lwd w b N0 T0 sc xs N1 T1 N2 T2 D1 x1 N3 T3 D2).led
theorem lwe' : (fun r => Lk r [(4, N2, listO #[.int 45 T2, .int 70 (T2 + 1), .int 951 (T2 + 2)] 0), (7, N4, slF (k : Int) tk)] (callOf r.out = some (cB "list.__getitem__" [.ref N2, .ref N4])) (wtO r.out = 1)) (lwe w b N0 T0 sc xs N1 T1 N2 T2 D1 x1 N3 T3 D2 N4 T4 k tk) := by cases b <;> rfl'
@[irreducible] noncomputable def lwf : Res := resumeZ (VV w b N5 T5) 400 [0, 4, 9, 4, 1] [] (lwe w b N0 T0 sc xs N1 T1 N2 T2 D1 x1 N3 T3 D2 N4 T4 k tk).out (.ok (.ret (.ref D3))) (snoc (lwe w b N0 T0 sc xs N1 T1 N2 T2 D1 x1 N3 T3 D2 N4 T4 k tk).led D3 (listO x3 0))
theorem lwf' : (fun r => Lk r [(3, D1, listO x1 0), (8, D3, listO x3 0)] (callOf r.out = some (cB "list.__add__" [.ref D1, .ref D3])) (wtO r.out = 1)) (lwf w b N0 T0 sc xs N1 T1 N2 T2 D1 x1 N3 T3 D2 N4 T4 k tk N5 T5 D3 x3) := by cases b <;> rfl'
@[irreducible] noncomputable def lwg : Res := resumeZ (VV w b N6 T6) 400 [2, 2, 2, 10, 10, 10, 1] [] (lwf w b N0 T0 sc xs N1 T1 N2 T2 D1 x1 N3 T3 D2 N4 T4 k tk N5 T5 D3 x3).out (.ok (.ret (.ref D4))) (snoc (lwf w b N0 T0 sc xs N1 T1 N2 T2 D1 x1 N3 T3 D2 N4 T4 k tk N5 T5 D3 x3).led D4 (listO ns 0))
theorem lwg' : (fun r => Lk r [(9, D4, listO ns 0)] (callOf r.out = some (cB "list.__getitem__" [.ref D4, .int 0 (T6 + 1)])) (wtO r.out = 1)) (lwg w b N0 T0 sc xs N1 T1 N2 T2 D1 x1 N3 T3 D2 N4 T4 k tk N5 T5 D3 x3 N6 T6 D4 ns) := by cases b <;> rfl'
@[irreducible] noncomputable def lwh : Res := resumeZ (VV w b N7 T7) 400 [2, 2, 10, 10, 10, 1] [⟨cB "int.__mod__" [.int a ta, .int 32 T7], fun zz => .int o1 zz, 1⟩] (lwg w b N0 T0 sc xs N1 T1 N2 T2 D1 x1 N3 T3 D2 N4 T4 k tk N5 T5 D3 x3 N6 T6 D4 ns).out (.ok (.ret (.int a ta))) (lwg w b N0 T0 sc xs N1 T1 N2 T2 D1 x1 N3 T3 D2 N4 T4 k tk N5 T5 D3 x3 N6 T6 D4 ns).led
theorem lwh' : (fun r => Lk r [(9, D4, listO ns 0)] (callOf r.out = some (cB "list.__getitem__" [.ref D4, .int 1 (T7 + 2)])) (wtO r.out = 1)) (lwh w b N0 T0 sc xs N1 T1 N2 T2 D1 x1 N3 T3 D2 N4 T4 k tk N5 T5 D3 x3 N6 T6 D4 ns N7 T7 a ta o1) := by cases b <;> rfl'
@[irreducible] noncomputable def lwi : Res := resumeZ (VV w b N8 T8) 400 [2, 2, 10, 10, 10, 1] [⟨cB "int.__mod__" [.int b2 tb, .int 32 T8], fun zz => .int o2 zz, 1⟩] (lwh w b N0 T0 sc xs N1 T1 N2 T2 D1 x1 N3 T3 D2 N4 T4 k tk N5 T5 D3 x3 N6 T6 D4 ns N7 T7 a ta o1).out (.ok (.ret (.int b2 tb))) (lwh w b N0 T0 sc xs N1 T1 N2 T2 D1 x1 N3 T3 D2 N4 T4 k tk N5 T5 D3 x3 N6 T6 D4 ns N7 T7 a ta o1).led
theorem lwi' : (fun r => Lk r [(9, D4, listO ns 0)] (callOf r.out = some (cB "list.__getitem__" [.ref D4, .int 2 (T8 + 2)])) (wtO r.out = 1)) (lwi w b N0 T0 sc xs N1 T1 N2 T2 D1 x1 N3 T3 D2 N4 T4 k tk N5 T5 D3 x3 N6 T6 D4 ns N7 T7 a ta o1 N8 T8 b2 tb o2) := by cases b <;> rfl'
@[irreducible] noncomputable def lwj : Res := resumeZ (VV w b N9 T9) 600 [2, 11, 11, 11, 0, 11, 12, 12, 0, 12, 12, 12, 11, 12, 12, 12, 0, 12, 12, 12, 11, 12, 12, 12, 0, 12, 12, 12, 11, 12, 12, 12, 0, 12, 12, 12, 11, 12, 12, 14, 2, 2, 2, 2, 2, 2, 0, 0, 2, 0, 1] [⟨cB "int.__mod__" [.int c tc, .int 1024 T9], fun zz => .int o3 zz, 1⟩] (lwi w b N0 T0 sc xs N1 T1 N2 T2 D1 x1 N3 T3 D2 N4 T4 k tk N5 T5 D3 x3 N6 T6 D4 ns N7 T7 a ta o1 N8 T8 b2 tb o2).out (.ok (.ret (.int c tc))) (lwi w b N0 T0 sc xs N1 T1 N2 T2 D1 x1 N3 T3 D2 N4 T4 k tk N5 T5 D3 x3 N6 T6 D4 ns N7 T7 a ta o1 N8 T8 b2 tb o2).led
theorem lwj' : (fun r => Lk r [(9, D4, listO ns 0)] (callOf r.out = some (.call (.ref 64) ⟨[.int o1 (T7 + 1)], []⟩)) (wtO r.out = 1)) (lwj w b N0 T0 sc xs N1 T1 N2 T2 D1 x1 N3 T3 D2 N4 T4 k tk N5 T5 D3 x3 N6 T6 D4 ns N7 T7 a ta o1 N8 T8 b2 tb o2 N9 T9 c tc o3) := by cases b <;> rfl'
@[irreducible] noncomputable def lwk : Res := resumeZ (VV w b N10 T10) 400 [2, 10, 10, 10, 1] [] (lwj w b N0 T0 sc xs N1 T1 N2 T2 D1 x1 N3 T3 D2 N4 T4 k tk N5 T5 D3 x3 N6 T6 D4 ns N7 T7 a ta o1 N8 T8 b2 tb o2 N9 T9 c tc o3).out (.ok (.ret (.str p1 u1))) (lwj w b N0 T0 sc xs N1 T1 N2 T2 D1 x1 N3 T3 D2 N4 T4 k tk N5 T5 D3 x3 N6 T6 D4 ns N7 T7 a ta o1 N8 T8 b2 tb o2 N9 T9 c tc o3).led
theorem lwk' : (fun r => Lk r [(9, D4, listO ns 0)] (callOf r.out = some (cB "list.__getitem__" [.ref D4, .int 0 (T10 + 0)])) (wtO r.out = 1)) (lwk w b N0 T0 sc xs N1 T1 N2 T2 D1 x1 N3 T3 D2 N4 T4 k tk N5 T5 D3 x3 N6 T6 D4 ns N7 T7 a ta o1 N8 T8 b2 tb o2 N9 T9 c tc o3 N10 T10 p1 u1) := by cases b <;> rfl'
@[irreducible] noncomputable def lwl : Res := resumeZ (VV w b N11 T11) 400 [2, 2, 0, 1] [⟨cB "int.__floordiv__" [.int a ta, .int 32 T11], fun zz => .int d1 zz, 1⟩, ⟨cB "int.__mod__" [.int d1 (T11 + 1), .int 3 (T11 + 2)], fun zz => .int f1 zz, 1⟩] (lwk w b N0 T0 sc xs N1 T1 N2 T2 D1 x1 N3 T3 D2 N4 T4 k tk N5 T5 D3 x3 N6 T6 D4 ns N7 T7 a ta o1 N8 T8 b2 tb o2 N9 T9 c tc o3 N10 T10 p1 u1).out (.ok (.ret (.int a ta))) (lwk w b N0 T0 sc xs N1 T1 N2 T2 D1 x1 N3 T3 D2 N4 T4 k tk N5 T5 D3 x3 N6 T6 D4 ns N7 T7 a ta o1 N8 T8 b2 tb o2 N9 T9 c tc o3 N10 T10 p1 u1).led
theorem lwl' : (fun r => Lk r [(9, D4, listO ns 0)] (callOf r.out = some (.call (.ref 78) ⟨[.str p1 u1, .int f1 (T11 + 3)], []⟩)) (wtO r.out = 1)) (lwl w b N0 T0 sc xs N1 T1 N2 T2 D1 x1 N3 T3 D2 N4 T4 k tk N5 T5 D3 x3 N6 T6 D4 ns N7 T7 a ta o1 N8 T8 b2 tb o2 N9 T9 c tc o3 N10 T10 p1 u1 N11 T11 d1 f1) := by cases b <;> rfl'
@[irreducible] noncomputable def lwm : Res := resumeZ (VV w b N12 T12) 400 [0, 0, 2, 0, 1] [] (lwl w b N0 T0 sc xs N1 T1 N2 T2 D1 x1 N3 T3 D2 N4 T4 k tk N5 T5 D3 x3 N6 T6 D4 ns N7 T7 a ta o1 N8 T8 b2 tb o2 N9 T9 c tc o3 N10 T10 p1 u1 N11 T11 d1 f1).out (.ok (.ret (.str s1 v1))) (lwl w b N0 T0 sc xs N1 T1 N2 T2 D1 x1 N3 T3 D2 N4 T4 k tk N5 T5 D3 x3 N6 T6 D4 ns N7 T7 a ta o1 N8 T8 b2 tb o2 N9 T9 c tc o3 N10 T10 p1 u1 N11 T11 d1 f1).led
theorem lwm' : (fun r => Lk r [(9, D4, listO ns 0)] (callOf r.out = some (.call (.ref 64) ⟨[.int o2 (T8 + 1)], []⟩)) (wtO r.out = 1)) (lwm w b N0 T0 sc xs N1 T1 N2 T2 D1 x1 N3 T3 D2 N4 T4 k tk N5 T5 D3 x3 N6 T6 D4 ns N7 T7 a ta o1 N8 T8 b2 tb o2 N9 T9 c tc o3 N10 T10 p1 u1 N11 T11 d1 f1 N12 T12 s1 v1) := by cases b <;> rfl'
@[irreducible] noncomputable def lwn : Res := resumeZ (VV w b N13 T13) 400 [2, 10, 10, 10, 1] [] (lwm w b N0 T0 sc xs N1 T1 N2 T2 D1 x1 N3 T3 D2 N4 T4 k tk N5 T5 D3 x3 N6 T6 D4 ns N7 T7 a ta o1 N8 T8 b2 tb o2 N9 T9 c tc o3 N10 T10 p1 u1 N11 T11 d1 f1 N12 T12 s1 v1).out (.ok (.ret (.str p2 u2))) (lwm w b N0 T0 sc xs N1 T1 N2 T2 D1 x1 N3 T3 D2 N4 T4 k tk N5 T5 D3 x3 N6 T6 D4 ns N7 T7 a ta o1 N8 T8 b2 tb o2 N9 T9 c tc o3 N10 T10 p1 u1 N11 T11 d1 f1 N12 T12 s1 v1).led
theorem lwn' : (fun r => Lk r [(9, D4, listO ns 0)] (callOf r.out = some (cB "list.__getitem__" [.ref D4, .int 1 (T13 + 0)])) (wtO r.out = 1)) (lwn w b N0 T0 sc xs N1 T1 N2 T2 D1 x1 N3 T3 D2 N4 T4 k tk N5 T5 D3 x3 N6 T6 D4 ns N7 T7 a ta o1 N8 T8 b2 tb o2 N9 T9 c tc o3 N10 T10 p1 u1 N11 T11 d1 f1 N12 T12 s1 v1 N13 T13 p2 u2) := by cases b <;> rfl'
@[irreducible] noncomputable def lwo : Res := resumeZ (VV w b N14 T14) 400 [2, 2, 0, 1] [⟨cB "int.__floordiv__" [.int b2 tb, .int 32 T14], fun zz => .int d2 zz, 1⟩, ⟨cB "int.__mod__" [.int d2 (T14 + 1), .int 3 (T14 + 2)], fun zz => .int f2 zz, 1⟩] (lwn w b N0 T0 sc xs N1 T1 N2 T2 D1 x1 N3 T3 D2 N4 T4 k tk N5 T5 D3 x3 N6 T6 D4 ns N7 T7 a ta o1 N8 T8 b2 tb o2 N9 T9 c tc o3 N10 T10 p1 u1 N11 T11 d1 f1 N12 T12 s1 v1 N13 T13 p2 u2).out (.ok (.ret (.int b2 tb))) (lwn w b N0 T0 sc xs N1 T1 N2 T2 D1 x1 N3 T3 D2 N4 T4 k tk N5 T5 D3 x3 N6 T6 D4 ns N7 T7 a ta o1 N8 T8 b2 tb o2 N9 T9 c tc o3 N10 T10 p1 u1 N11 T11 d1 f1 N12 T12 s1 v1 N13 T13 p2 u2).led
theorem lwo' : (fun r => Lk r [(9, D4, listO ns 0)] (callOf r.out = some (.call (.ref 78) ⟨[.str p2 u2, .int f2 (T14 + 3)], []⟩)) (wtO r.out = 1)) (lwo w b N0 T0 sc xs N1 T1 N2 T2 D1 x1 N3 T3 D2 N4 T4 k tk N5 T5 D3 x3 N6 T6 D4 ns N7 T7 a ta o1 N8 T8 b2 tb o2 N9 T9 c tc o3 N10 T10 p1 u1 N11 T11 d1 f1 N12 T12 s1 v1 N13 T13 p2 u2 N14 T14 d2 f2) := by cases b <;> rfl'
@[irreducible] noncomputable def lwp : Res := resumeZ (VV w b N15 T15) 400 [2, 2, 2, 2, 0, 0, 2, 0, 1] [⟨cB "str.__add__" [.str (s1) v1, .str (s2) v2], fun zz => .str ((s1) ++ (s2)) zz, 1⟩] (lwo w b N0 T0 sc xs N1 T1 N2 T2 D1 x1 N3 T3 D2 N4 T4 k tk N5 T5 D3 x3 N6 T6 D4 ns N7 T7 a ta o1 N8 T8 b2 tb o2 N9 T9 c tc o3 N10 T10 p1 u1 N11 T11 d1 f1 N12 T12 s1 v1 N13 T13 p2 u2 N14 T14 d2 f2).out (.ok (.ret (.str s2 v2))) (lwo w b N0 T0 sc xs N1 T1 N2 T2 D1 x1 N3 T3 D2 N4 T4 k tk N5 T5 D3 x3 N6 T6 D4 ns N7 T7 a ta o1 N8 T8 b2 tb o2 N9 T9 c tc o3 N10 T10 p1 u1 N11 T11 d1 f1 N12 T12 s1 v1 N13 T13 p2 u2 N14 T14 d2 f2).led
theorem lwp' : (fun r => Lk r [(9, D4, listO ns 0)] (callOf r.out = some (.call (.ref 64) ⟨[.int o3 (T9 + 1)], []⟩)) (wtO r.out = 1)) (lwp w b N0 T0 sc xs N1 T1 N2 T2 D1 x1 N3 T3 D2 N4 T4 k tk N5 T5 D3 x3 N6 T6 D4 ns N7 T7 a ta o1 N8 T8 b2 tb o2 N9 T9 c tc o3 N10 T10 p1 u1 N11 T11 d1 f1 N12 T12 s1 v1 N13 T13 p2 u2 N14 T14 d2 f2 N15 T15 s2 v2) := by cases b <;> rfl'
@[irreducible] noncomputable def lwq : Res := resumeZ (VV w b N16 T16) 400 [2, 10, 10, 10, 1] [] (lwp w b N0 T0 sc xs N1 T1 N2 T2 D1 x1 N3 T3 D2 N4 T4 k tk N5 T5 D3 x3 N6 T6 D4 ns N7 T7 a ta o1 N8 T8 b2 tb o2 N9 T9 c tc o3 N10 T10 p1 u1 N11 T11 d1 f1 N12 T12 s1 v1 N13 T13 p2 u2 N14 T14 d2 f2 N15 T15 s2 v2).out (.ok (.ret (.str p3 u3))) (lwp w b N0 T0 sc xs N1 T1 N2 T2 D1 x1 N3 T3 D2 N4 T4 k tk N5 T5 D3 x3 N6 T6 D4 ns N7 T7 a ta o1 N8 T8 b2 tb o2 N9 T9 c tc o3 N10 T10 p1 u1 N11 T11 d1 f1 N12 T12 s1 v1 N13 T13 p2 u2 N14 T14 d2 f2 N15 T15 s2 v2).led
theorem lwq' : (fun r => Lk r [(9, D4, listO ns 0)] (callOf r.out = some (cB "list.__getitem__" [.ref D4, .int 2 (T16 + 0)])) (wtO r.out = 1)) (lwq w b N0 T0 sc xs N1 T1 N2 T2 D1 x1 N3 T3 D2 N4 T4 k tk N5 T5 D3 x3 N6 T6 D4 ns N7 T7 a ta o1 N8 T8 b2 tb o2 N9 T9 c tc o3 N10 T10 p1 u1 N11 T11 d1 f1 N12 T12 s1 v1 N13 T13 p2 u2 N14 T14 d2 f2 N15 T15 s2 v2 N16 T16 p3 u3) := by cases b <;> rfl'
@[irreducible] noncomputable def lwr : Res := resumeZ (VV w b N17 T17) 400 [2, 2, 0, 1] [⟨cB "int.__floordiv__" [.int c tc, .int 1024 T17], fun zz => .int d3 zz, 1⟩, ⟨cB "int.__mod__" [.int d3 (T17 + 1), .int 3 (T17 + 2)], fun zz => .int f3 zz, 1⟩] (lwq w b N0 T0 sc xs N1 T1 N2 T2 D1 x1 N3 T3 D2 N4 T4 k tk N5 T5 D3 x3 N6 T6 D4 ns N7 T7 a ta o1 N8 T8 b2 tb o2 N9 T9 c tc o3 N10 T10 p1 u1 N11 T11 d1 f1 N12 T12 s1 v1 N13 T13 p2 u2 N14 T14 d2 f2 N15 T15 s2 v2 N16 T16 p3 u3).out (.ok (.ret (.int c tc))) (lwq w b N0 T0 sc xs N1 T1 N2 T2 D1 x1 N3 T3 D2 N4 T4 k tk N5 T5 D3 x3 N6 T6 D4 ns N7 T7 a ta o1 N8 T8 b2 tb o2 N9 T9 c tc o3 N10 T10 p1 u1 N11 T11 d1 f1 N12 T12 s1 v1 N13 T13 p2 u2 N14 T14 d2 f2 N15 T15 s2 v2 N16 T16 p3 u3).led
theorem lwr' : (fun r => Lk r [(9, D4, listO ns 0)] (callOf r.out = some (.call (.ref 78) ⟨[.str p3 u3, .int f3 (T17 + 3)], []⟩)) (wtO r.out = 1)) (lwr w b N0 T0 sc xs N1 T1 N2 T2 D1 x1 N3 T3 D2 N4 T4 k tk N5 T5 D3 x3 N6 T6 D4 ns N7 T7 a ta o1 N8 T8 b2 tb o2 N9 T9 c tc o3 N10 T10 p1 u1 N11 T11 d1 f1 N12 T12 s1 v1 N13 T13 p2 u2 N14 T14 d2 f2 N15 T15 s2 v2 N16 T16 p3 u3 N17 T17 d3 f3) := by cases b <;> rfl'
@[irreducible] noncomputable def lws : Res := resumeZ (VV w b N18 T18) 400 [2, 2, 2, 0, 2, 0, 2, 2, 2, 2, 2, 0, 1] [⟨cB "str.__add__" [.str (s1 ++ s2) T15, .str (s3) v3], fun zz => .str ((s1 ++ s2) ++ (s3)) zz, 1⟩, ⟨cB "int.__mul__" [.int o1 (T7 + 1), .int o2 (T8 + 1)], fun zz => .int mm zz, 1⟩, ⟨cB "int.__add__" [.int mm (T18 + 2), .int o3 (T9 + 1)], fun zz => .int ee zz, 1⟩] (lwr w b N0 T0 sc xs N1 T1 N2 T2 D1 x1 N3 T3 D2 N4 T4 k tk N5 T5 D3 x3 N6 T6 D4 ns N7 T7 a ta o1 N8 T8 b2 tb o2 N9 T9 c tc o3 N10 T10 p1 u1 N11 T11 d1 f1 N12 T12 s1 v1 N13 T13 p2 u2 N14 T14 d2 f2 N15 T15 s2 v2 N16 T16 p3 u3 N17 T17 d3 f3).out (.ok (.ret (.str s3 v3))) (lwr w b N0 T0 sc xs N1 T1 N2 T2 D1 x1 N3 T3 D2 N4 T4 k tk N5 T5 D3 x3 N6 T6 D4 ns N7 T7 a ta o1 N8 T8 b2 tb o2 N9 T9 c tc o3 N10 T10 p1 u1 N11 T11 d1 f1 N12 T12 s1 v1 N13 T13 p2 u2 N14 T14 d2 f2 N15 T15 s2 v2 N16 T16 p3 u3 N17 T17 d3 f3).led
theorem lws' : (fun r => Lk r [] (callOf r.out = some (.call (.ref 64) ⟨[.int ee (T18 + 3)], []⟩)) (wtO r.out = 1)) (lws w b N0 T0 sc xs N1 T1 N2 T2 D1 x1 N3 T3 D2 N4 T4 k tk N5 T5 D3 x3 N6 T6 D4 ns N7 T7 a ta o1 N8 T8 b2 tb o2 N9 T9 c tc o3 N10 T10 p1 u1 N11 T11 d1 f1 N12 T12 s1 v1 N13 T13 p2 u2 N14 T14 d2 f2 N15 T15 s2 v2 N16 T16 p3 u3 N17 T17 d3 f3 N18 T18 s3 v3 mm ee) := by cases b <;> rfl'
@[irreducible] noncomputable def lwt : Res := resumeZ (VV w b N19 T19) 400 [0, 1] [] (lws w b N0 T0 sc xs N1 T1 N2 T2 D1 x1 N3 T3 D2 N4 T4 k tk N5 T5 D3 x3 N6 T6 D4 ns N7 T7 a ta o1 N8 T8 b2 tb o2 N9 T9 c tc o3 N10 T10 p1 u1 N11 T11 d1 f1 N12 T12 s1 v1 N13 T13 p2 u2 N14 T14 d2 f2 N15 T15 s2 v2 N16 T16 p3 u3 N17 T17 d3 f3 N18 T18 s3 v3 mm ee).out (.ok (.ret (.str p4 u4))) (lws w b N0 T0 sc xs N1 T1 N2 T2 D1 x1 N3 T3 D2 N4 T4 k tk N5 T5 D3 x3 N6 T6 D4 ns N7 T7 a ta o1 N8 T8 b2 tb o2 N9 T9 c tc o3 N10 T10 p1 u1 N11 T11 d1 f1 N12 T12 s1 v1 N13 T13 p2 u2 N14 T14 d2 f2 N15 T15 s2 v2 N16 T16 p3 u3 N17 T17 d3 f3 N18 T18 s3 v3 mm ee).led
theorem lwt' : (fun r => Lk r [(0, sc, listO xs 0)] (callOf r.out = some (.call (.ref 116) ⟨[.str ((s1 ++ s2) ++ s3) T18, .str p4 u4], []⟩)) ((wtO r.out = 1) ∧ (unO r.out = 3))) (lwt w b N0 T0 sc xs N1 T1 N2 T2 D1 x1 N3 T3 D2 N4 T4 k tk N5 T5 D3 x3 N6 T6 D4 ns N7 T7 a ta o1 N8 T8 b2 tb o2 N9 T9 c tc o3 N10 T10 p1 u1 N11 T11 d1 f1 N12 T12 s1 v1 N13 T13 p2 u2 N14 T14 d2 f2 N15 T15 s2 v2 N16 T16 p3 u3 N17 T17 d3 f3 N18 T18 s3 v3 mm ee N19 T19 p4 u4) := by cases b <;> rfl'
@[irreducible] noncomputable def lwu : Res := resumeZ (VV w b N20 T20) 400 [] [] (lwt w b N0 T0 sc xs N1 T1 N2 T2 D1 x1 N3 T3 D2 N4 T4 k tk N5 T5 D3 x3 N6 T6 D4 ns N7 T7 a ta o1 N8 T8 b2 tb o2 N9 T9 c tc o3 N10 T10 p1 u1 N11 T11 d1 f1 N12 T12 s1 v1 N13 T13 p2 u2 N14 T14 d2 f2 N15 T15 s2 v2 N16 T16 p3 u3 N17 T17 d3 f3 N18 T18 s3 v3 mm ee N19 T19 p4 u4).out (.ok (.ret (.bool true))) []
theorem lwu' : (fun r => Lk r [] (finOf r.out = some (.done (.ret (.bool true)))) (True)) (lwu w b N0 T0 sc xs N1 T1 N2 T2 D1 x1 N3 T3 D2 N4 T4 k tk N5 T5 D3 x3 N6 T6 D4 ns N7 T7 a ta o1 N8 T8 b2 tb o2 N9 T9 c tc o3 N10 T10 p1 u1 N11 T11 d1 f1 N12 T12 s1 v1 N13 T13 p2 u2 N14 T14 d2 f2 N15 T15 s2 v2 N16 T16 p3 u3 N17 T17 d3 f3 N18 T18 s3 v3 mm ee N19 T19 p4 u4 N20 T20) := by cases b <;> rfl'
end
theorem fn123 (w : World) : FnAt w 123 (fdK w.params 123) := ⟨⟨o123 w.params, by kernel_rfl, by kernel_rfl⟩, by kernel_rfl, by kernel_rfl, ⟨bodyOf (fdK w.params 123), by kernel_rfl⟩, ⟨122, o122 w.params, flds (o122 w.params), tokOf ((flds (o122 w.params)).getD 1 .none), by kernel_rfl, by kernel_rfl, by kernel_rfl, by kernel_rfl⟩⟩
noncomputable abbrev iv (p : Int × Nat) : Value := .int p.1 p.2
noncomputable abbrev iA (l : List (Int × Nat)) : Array Value := ⟨l.map iv⟩
theorem oMod {w : World} {x y z : Int} {t u : Nat} (hy : y ≠ 0) (h : x.fmod y = z) : OrcOk pg w ⟨cB "int.__mod__" [.int x t, .int y u], fun k => .int z k, 1⟩ :=
  h ▸ orc_int F.slot_int_mod (fun s => typeIs_int s x t) F.entry_int_mod (F.args_int_mod_2 _ _) (AutoIntG6.int___mod___int_int_1 x t y u (by simpa using hy))
theorem oDiv {w : World} {x y z : Int} {t u : Nat} (hy : y ≠ 0) (hl : Builtin.divisionGoesByPylong x y = false) (h : x.fdiv y = z) : OrcOk pg w ⟨cB "int.__floordiv__" [.int x t, .int y u], fun k => .int z k, 1⟩ :=
  h ▸ orc_int F.slot_int_floordiv (fun s => typeIs_int s x t) F.entry_int_floordiv (F.args_int_floordiv_2 _ _) (AutoIntG4.int___floordiv___int_int_1 x t y u (by simpa using hy) (by rw [hl]; simp))
theorem oMul {w : World} {x y z : Int} {t u : Nat} (hx : -(2 ^ 64) < x ∧ x < 2 ^ 64) (h : x * y = z) : OrcOk pg w ⟨cB "int.__mul__" [.int x t, .int y u], fun k => .int z k, 1⟩ :=
  h ▸ orc_int F.slot_int_mul (fun s => typeIs_int s x t) F.entry_int_mul (F.args_int_mul_2 _ _) (gives_int_mul x y t u (.of_left (intBits_le_64 hx.1 hx.2)))
theorem oAddI {w : World} {x y z : Int} {t u : Nat} (h : x + y = z) : OrcOk pg w ⟨cB "int.__add__" [.int x t, .int y u], fun k => .int z k, 1⟩ :=
  h ▸ orc_int F.slot_int_add (fun s => typeIs_int s x t) F.entry_int_add (F.args_int_add_2 _ _) (gives_int_add x y t u)
theorem cAddL {w : World} {A : Around} {R : Result → Shared → Prop} {h₀ : Heap} {g : Array GenState} {d : Drawn} {T : Nat} {ost : OsState} {a c : Addr} {xs ys : Array Value} {n m : Nat} (ha : h₀.get? a = some (listO xs n)) (hc : h₀.get? c = some (listO ys m)) (hsz : xs.size + ys.size ≤ sizeLine) (h : R (.ok (.ret (.ref h₀.objs.size))) ⟨h₀.push (listO (xs ++ ys) 0), g, d, T, ost⟩) : codeAny (model pg w) A (cB "list.__add__" [.ref a, .ref c]) R ⟨h₀, g, d, T, ost⟩ :=
  code_meets F.slot_list_add ⟨_, ha, rfl⟩ F.entry_list_add (F.args_list_add_2 _ _) (AutoSeq1.list___add___list_list_0 a xs n c ys m hsz) ⟨ha, hc, h⟩
theorem Cur.mk1 {w : World} {s₀ h : Heap} {M : List Addr} {led : Led} (C : Cur w s₀ M h led) {o : Obj} (hf : o.isFreed = false) {N : Nat} (hN : h.objs.size = N) : Cur w s₀ M (h.push o) (snoc led N o) := by
  subst hN
  exact (C.same (kp_push h o)).join (Heap.get?_push_size _ hf) (C.fresh (Nat.le_refl _)) (C.sta.off (Nat.le_refl _)) (.inr C.kp.1)
theorem Cur.lawKp {w : World} {s₀ h : Heap} {sc : Addr} {o : Obj} {led : Led} (C : Cur w s₀ [sc] h led) (h0 : s₀.get? sc = some o) (e : pick led 0 = some (sc, o)) : Kp [] s₀ h := ⟨C.kp.1, fun b o' e' _ => by
  by_cases hb : b = sc
  · subst hb
    rw [h0] at e'
    cases e'
    exact C.at' e
  · exact C.kp.get e' fun hm => hb (List.mem_singleton.mp hm)⟩
theorem three (l : List (Int × Nat)) (t : Nat) : ∃ a ta b tb c tc, ((iA l).toList.take 3).toArray ++ ((#[.int 45 t, .int 70 (t + 1), .int 951 (t + 2)] : Array Value).toList.drop ((iA l).toList.take 3).toArray.size).toArray = (#[.int a ta, .int b tb, .int c tc] : Array Value) :=
  match l with
  | [] => ⟨45, t, 70, t + 1, 951, t + 2, rfl⟩
  | [p] => ⟨p.1, p.2, 70, t + 1, 951, t + 2, rfl⟩
  | [p, q] => ⟨p.1, p.2, q.1, q.2, 951, t + 2, rfl⟩
  | p :: q :: r :: _ => ⟨p.1, p.2, q.1, q.2, r.1, r.2, rfl⟩
theorem shown_len (n : Nat) : ((shown n).map (·.length)).sum + (shown n).length * 2 ≤ 640 := by
  unfold shown
  split
  · decide
  · exact bitW_len 32 0 n
theorem pretty_len (n : Nat) : (pretty n).length ≤ 640 := by
  have h1 := StrLaws.join_length_le ⟨#[44, 32]⟩ (shown n)
  have h2 := shown_len n
  have h5 : (⟨#[44, 32]⟩ : Str).length = 2 := rfl
  rw [h5] at h1
  unfold pretty
  omega
theorem bitW_pos : ∀ (r i m : Nat), 0 < m → m < 2 ^ r → bitW i m r ≠ []
  | 0, i, m, h1, h2 => by simp at h2; omega
  | r + 1, i, m, h1, h2 => by
    have ih := bitW_pos r (i + 1) (m / 2)
    unfold bitW
    rw [if_neg (by omega)]
    split
    · simp
    · have := ih (by omega) (by rw [Nat.pow_succ] at h2; omega)
      simpa using this
theorem bitW_mem : ∀ (r i m : Nat) (s : Str), s ∈ bitW i m r → ∃ j, i ≤ j ∧ s = nm j ∧ m.testBit (j - i) = true
  | 0, i, m, s, h => by simp [bitW] at h
  | r + 1, i, m, s, h => by
    unfold bitW at h
    split at h
    · simp at h
    · rcases List.mem_append.mp h with h | h
      · split at h
        · next hm => exact ⟨i, Nat.le_refl _, by simpa using h, by simp [Nat.testBit_zero, hm]⟩
        · simp at h
      · obtain ⟨j, h1, h2, h3⟩ := bitW_mem r (i + 1) (m / 2) s h
        refine ⟨j, by omega, h2, ?_⟩
        have : j - i = (j - (i + 1)) + 1 := by omega
        rw [this, Nat.testBit_succ]
        exact h3
theorem nm_pos : ∀ j < 12, (nm j).cps.toList ≠ [] := by decide +kernel
theorem shown_mem {n : Nat} (hn : n < 2 ^ 11) {s : Str} (h : s ∈ shown n) : s = sZero ∨ ∃ j, j < 11 ∧ s = nm j ∧ n.testBit j = true := by
  unfold shown at h
  split at h
  · exact .inl (by simpa using h)
  · obtain ⟨j, h1, h2, h3⟩ := bitW_mem 32 0 n s h
    refine .inr ⟨j, ?_, h2, by simpa using h3⟩
    rcases Nat.lt_or_ge j 11 with q | q
    · exact q
    · have := Nat.testBit_lt_two_pow (Nat.lt_of_lt_of_le hn (Nat.pow_le_pow_right (by decide) q))
      rw [Nat.sub_zero] at h3
      rw [this] at h3
      cases h3
theorem shown_pos {n : Nat} (hn : n < 2 ^ 11) : shown n ≠ [] := by
  unfold shown
  split
  · simp
  · exact bitW_pos 32 0 n (by omega) (Nat.lt_of_lt_of_le hn (by decide))
theorem join_pos (sep : Str) : ∀ {l : List Str}, l ≠ [] → (∀ s ∈ l, s.cps.toList ≠ []) → (Str.join sep l).cps.toList ≠ []
  | [], h, _ => absurd rfl h
  | [s], _, h => h s (.head _)
  | s :: q :: r, _, h => by
    show (s ++ sep ++ Str.join sep (q :: r)).cps.toList ≠ []
    simp only [Str.cps_append, Array.toList_append]
    intro e
    exact h s (.head _) (List.append_eq_nil_iff.mp (List.append_eq_nil_iff.mp e).1).1
theorem pretty_pos {n : Nat} (hn : n < 2 ^ 11) : ((pretty n).length == 0) = false := by
  refine strPos.mpr (join_pos _ (shown_pos hn) fun s hs => ?_)
  rcases shown_mem hn hs with rfl | ⟨j, hj, rfl, _⟩
  · decide
  · exact nm_pos j (by omega)
theorem spelt_len (l : List Nat) (f : Int) : (speltL l f).length ≤ 4 * l.length + 2 ∧ (speltL l f) ≠ [] := by
  unfold speltL
  split
  · exact ⟨by simp; omega, by simp⟩
  · split
    · exact ⟨by simp; omega, by simp⟩
    · have := rpl_len 32 [32, 10, 92] l
      simp only [List.length_cons, List.length_nil] at this
      exact ⟨by simp; omega, by simp⟩
theorem fmod_nat (x : Int) {m : Nat} (hm : 0 < m) : ∃ n : Nat, n < m ∧ x.fmod (m : Int) = n := by
  rw [Int.fmod_eq_emod_of_nonneg x (Int.natCast_nonneg m)]
  have h1 := Int.emod_nonneg x (b := (m : Int)) (by omega)
  have h2 := Int.emod_lt_of_pos x (b := (m : Int)) (by omega)
  exact ⟨(x % m).toNat, by omega, by omega⟩
noncomputable def Good (tx du : Str) : Prop := 2 ≤ tx.length ∧ 4 * tx.length + 10 ≤ sizeLine ∧ ∃ more1 more2 ws1 ws2 nl1 nl2 nl3, Fac tx.cps.toList ws1 more1 nl1 ∧ Fac more1 ws2 more2 nl2 ∧ (∀ p ∈ ws1, p ∈ names ∧ ∀ q ∈ ws2, q ∈ names ∧ ix p + ix q < 12) ∧ 2 * (ws1.length * ws2.length) ≤ sizeLine ∧ (∀ tab : List (Str × Nat), tab.map (·.1) = names → ∃ hs', Hld tab more2 [] (prodsS tab ws1 ws2) hs' nl3 ∧ (if (joinOut hs').length = 0 then sZero else joinOut hs') = du) ∧ nl1 + nl2 + nl3 = List.count 10 tx.cps.toList
noncomputable abbrev spl (n : Nat) (f : Int) : Str := toS (speltL (pretty n).cps.toList f)
theorem law_ok {w : World} {sc : Nat} {l : List (Int × Nat)} (hl : l.length ≤ sizeLine) (hsc : sc ≠ 80) (hG : ∀ (n1 n2 n3 : Nat) (f1 f2 f3 : Int), n1 < 32 → n2 < 32 → n3 < 1024 → Good (spl n1 f1 ++ spl n2 f2 ++ spl n3 f3) (pretty (n1 * n2 + n3))) :
    CtrU w 10 100 (.call (.ref 123) ⟨[.ref sc], []⟩) (fun h => h.get? sc = some (listO (iA l) 0) ∧ Off w sc ∧ h.get? 80 = some (o80 w.params)) (fun h v h' => v = .bool true ∧ Kp [80] h h' ∧ ∃ vs, h'.get? 80 = some (tabO vs)) := by
  rintro A R ⟨h0, g, d, T0, ost⟩ hA hd hu S ⟨L1, L2, L3⟩ H
  obtain ⟨b, hb⟩ : ∃ b, w.params.followText "special-get-raises" = b := ⟨_, rfl⟩
  obtain ⟨N0, hN⟩ : ∃ N, h0.objs.size = N := ⟨_, rfl⟩
  have C0 : Cur w h0 (([(sc, listO (iA l) 0)] : Led).map (·.1)) h0 [(sc, listO (iA l) 0)] := Cur.start S (fun p hp => by cases List.mem_singleton.mp hp; exact L1) (by ac_rfl) (fun p hp => by cases List.mem_singleton.mp hp; exact L2)
  have pn : ∀ {n}, n < 2 ^ 11 → ((pretty n).length == 0) = false := pretty_pos
  have sn : ∀ n f, ((spl n f).length == 0) = false := fun n f => strPos.mpr (spelt_len _ _).2
  have sl : ∀ n f, (spl n f).length ≤ 2562 := fun n f => by
    have h1 := (spelt_len (pretty n).cps.toList f).1
    have h2 : (pretty n).cps.toList.length = (pretty n).length := rfl
    have h3 := pretty_len n
    have h4 : (spl n f).length = (speltL (pretty n).cps.toList f).length := by simp [Str.length]
    omega
  have al : ∀ x y : Str, (x ++ y).length = x.length + y.length := fun x y => by simp [Str.length, Str.cps_append]
  have z24 : sizeLine = 2 ^ 24 := rfl
  refine seg_fn C0 (fn123 w) hb hA (by first | exact room0 hd | omega) hN _ (lwa.eq_1 w b N0 T0 sc (iA l)) (lwa' ..).s (lwa' ..).o fun h1 N1 T1 hN1 C1 => ?_
  refine code_call C1 hb hA hN1 _ (lwb.eq_1 w b N0 T0 sc (iA l) N1 T1) no_orc (lwb' ..).s (lwb' ..).o fun h2 N2a T2 hN2 C2 => ?_
  refine cSliceL (C2.at' ((lwb' ..).g 0 rfl)) (C2.at' ((lwb' ..).g 1 rfl)) .none (.int _ _) .none (by decide) (by simpa using hl) ?_
  rw [show (3 : Int) = ((3 : Nat) : Int) from rfl, slicePick_upto', hN2]
  generalize hx1 : ((iA l).toList.take 3).toArray = x1
  have hx1s : x1.size ≤ 3 := by rw [← hx1]; simp; omega
  have C2' := C2.mk1 (o := listO x1 0) rfl hN2
  obtain ⟨N2, hN2'⟩ : ∃ N, (h2.push (listO x1 0)).objs.size = N := ⟨_, rfl⟩
  refine res_call C2' hb hA hN2' _ (lwc.eq_1 w b N0 T0 sc (iA l) N1 T1 N2 T2 N2a x1) no_orc (lwc' ..).s (lwc' ..).o fun h3 N3a T3 hN3 C3 => ?_
  refine cSliceL (C3.at' ((lwc' ..).g 0 rfl)) (C3.at' ((lwc' ..).g 1 rfl)) .none (.int _ _) .none (by decide) (by simpa using hl) ?_
  rw [show (3 : Int) = ((3 : Nat) : Int) from rfl, slicePick_upto', hx1, hN3]
  have C3' := C3.mk1 (o := listO x1 0) rfl hN3
  obtain ⟨N3, hN3'⟩ : ∃ N, (h3.push (listO x1 0)).objs.size = N := ⟨_, rfl⟩
  refine res_call C3' hb hA hN3' _ (lwd.eq_1 w b N0 T0 sc (iA l) N1 T1 N2 T2 N2a x1 N3 T3 N3a) no_orc (lwd' ..).s (lwd' ..).o fun h4 N4 T4' hN4 C4 => ?_
  refine cLen (C4.at' ((lwd' ..).g 0 rfl)) (by omega) ?_
  generalize T4' + 1 = tk
  generalize tk + 1 = T4
  refine res_call C4 hb hA hN4 _ (lwe.eq_1 w b N0 T0 sc (iA l) N1 T1 N2 T2 N2a x1 N3 T3 N3a N4 T4 x1.size tk) no_orc (lwe' ..).s (lwe' ..).o fun h5 N5a T5 hN5 C5 => ?_
  refine cSliceL (C5.at' ((lwe' ..).g 0 rfl)) (C5.at' ((lwe' ..).g 1 rfl)) (.int _ _) .none .none (by decide) (by show 3 ≤ _; decide) ?_
  rw [slicePick_from', hN5]
  generalize hx3 : (((#[.int 45 T2, .int 70 (T2 + 1), .int 951 (T2 + 2)] : Array Value)).toList.drop x1.size).toArray = x3
  have hx3s : x3.size ≤ 3 := by rw [← hx3]; simp
  have C5' := C5.mk1 (o := listO x3 0) rfl hN5
  obtain ⟨N5, hN5'⟩ : ∃ N, (h5.push (listO x3 0)).objs.size = N := ⟨_, rfl⟩
  refine res_call C5' hb hA hN5' _ (lwf.eq_1 w b N0 T0 sc (iA l) N1 T1 N2 T2 N2a x1 N3 T3 N3a N4 T4 x1.size tk N5 T5 N5a x3) no_orc (lwf' ..).s (lwf' ..).o fun h6 N6a T6 hN6 C6 => ?_
  refine cAddL (C6.at' ((lwf' ..).g 0 rfl)) (C6.at' ((lwf' ..).g 1 rfl)) (by omega) ?_
  obtain ⟨a, ta, b2, tb, c, tc, hns⟩ := three l T2
  have hns' : x1 ++ x3 = #[.int a ta, .int b2 tb, .int c tc] := by rw [← hx3, ← hx1]; exact hns
  clear hns
  rw [hns', hN6]
  have C6' := C6.mk1 (o := listO #[.int a ta, .int b2 tb, .int c tc] 0) rfl hN6
  obtain ⟨N6, hN6'⟩ : ∃ N, (h6.push (listO #[.int a ta, .int b2 tb, .int c tc] 0)).objs.size = N := ⟨_, rfl⟩
  obtain ⟨n1, hn1, en1⟩ := fmod_nat a (m := 32) (by decide)
  obtain ⟨n2, hn2, en2⟩ := fmod_nat b2 (m := 32) (by decide)
  obtain ⟨n3, hn3, en3⟩ := fmod_nat c (m := 1024) (by decide)
  have n12 : n1 * n2 ≤ 31 * 31 := Nat.mul_le_mul (by omega) (by omega)
  refine res_call C6' hb hA hN6' _ (lwg.eq_1 w b N0 T0 sc (iA l) N1 T1 N2 T2 N2a x1 N3 T3 N3a N4 T4 x1.size tk N5 T5 N5a x3 N6 T6 N6a #[.int a ta, .int b2 tb, .int c tc]) no_orc (lwg' ..).s (lwg' ..).o fun h7 N7 T7 hN7 C7 => ?_
  refine cItemZ (C7.at' ((lwg' ..).g 0 rfl)) (by decide) (by decide) (x := .int a ta) rfl ?_
  refine res_call C7 hb hA hN7 _ (lwh.eq_1 w b N0 T0 sc (iA l) N1 T1 N2 T2 N2a x1 N3 T3 N3a N4 T4 x1.size tk N5 T5 N5a x3 N6 T6 N6a #[.int a ta, .int b2 tb, .int c tc] N7 T7 a ta (n1 : Int)) ?_ (lwh' ..).s (lwh' ..).o fun h8 N8 T8 hN8 C8 => ?_
  · exact mC (oMod (by decide) en1) mN
  refine cItemZ (C8.at' ((lwh' ..).g 0 rfl)) (by decide) (by decide) (x := .int b2 tb) rfl ?_
  refine res_call C8 hb hA hN8 _ (lwi.eq_1 w b N0 T0 sc (iA l) N1 T1 N2 T2 N2a x1 N3 T3 N3a N4 T4 x1.size tk N5 T5 N5a x3 N6 T6 N6a #[.int a ta, .int b2 tb, .int c tc] N7 T7 a ta (n1 : Int) N8 T8 b2 tb (n2 : Int)) ?_ (lwi' ..).s (lwi' ..).o fun h9 N9 T9 hN9 C9 => ?_
  · exact mC (oMod (by decide) en2) mN
  refine cItemZ (C9.at' ((lwi' ..).g 0 rfl)) (by decide) (by decide) (x := .int c tc) rfl ?_
  refine res_call C9 hb hA hN9 _ (lwj.eq_1 w b N0 T0 sc (iA l) N1 T1 N2 T2 N2a x1 N3 T3 N3a N4 T4 x1.size tk N5 T5 N5a x3 N6 T6 N6a #[.int a ta, .int b2 tb, .int c tc] N7 T7 a ta (n1 : Int) N8 T8 b2 tb (n2 : Int) N9 T9 c tc (n3 : Int)) ?_ (lwj' ..).s (lwj' ..).o fun h10 N10 T10 hN10 C10 => ?_
  · exact mC (oMod (by decide) en3) mN
  refine pretty_ok (n := n1) (by omega) _ _ _ (aroO_handled hA _) (by first | exact room hd (lwj' ..).e rfl | (rw [aroO_depth, (lwj' ..).e]; omega)) C10.sta trivial fun v g10 T10 hPP => ?_
  obtain ⟨⟨u1, hv⟩, K10⟩ := hPP
  subst hv
  obtain ⟨N10, hN10⟩ : ∃ N, g10.objs.size = N := ⟨_, rfl⟩
  refine res_call (C10.same K10) hb hA hN10 _ (lwk.eq_1 w b N0 T0 sc (iA l) N1 T1 N2 T2 N2a x1 N3 T3 N3a N4 T4 x1.size tk N5 T5 N5a x3 N6 T6 N6a #[.int a ta, .int b2 tb, .int c tc] N7 T7 a ta (n1 : Int) N8 T8 b2 tb (n2 : Int) N9 T9 c tc (n3 : Int) N10 T10 (pretty n1) u1) no_orc (lwk' ..).s (lwk' ..).o fun h11 N11 T11 hN11 C11 => ?_
  refine cItemZ (C11.at' ((lwk' ..).g 0 rfl)) (by decide) (by decide) (x := .int a ta) rfl ?_
  refine res_call C11 hb hA hN11 _ (lwl.eq_1 w b N0 T0 sc (iA l) N1 T1 N2 T2 N2a x1 N3 T3 N3a N4 T4 x1.size tk N5 T5 N5a x3 N6 T6 N6a #[.int a ta, .int b2 tb, .int c tc] N7 T7 a ta (n1 : Int) N8 T8 b2 tb (n2 : Int) N9 T9 c tc (n3 : Int) N10 T10 (pretty n1) u1 N11 T11 (a.fdiv 32) ((a.fdiv 32).fmod 3)) ?_ (lwl' ..).s (lwl' ..).o fun h12 N12x T12x hN12x C12 => ?_
  · exact mC (oDiv (by decide) rfl rfl) (mC (oMod (by decide) rfl) mN)
  refine spelt_ok (pn (by omega)) (by have := pretty_len n1; omega) _ _ _ (aroO_handled hA _) (by first | exact room hd (lwl' ..).e rfl | (rw [aroO_depth, (lwl' ..).e]; omega)) C12.sta trivial fun v g12 T12 hPP => ?_
  obtain ⟨⟨v1, hv⟩, K12⟩ := hPP
  subst hv
  obtain ⟨N12, hN12⟩ : ∃ N, g12.objs.size = N := ⟨_, rfl⟩
  refine res_call (C12.same K12) hb hA hN12 _ (lwm.eq_1 w b N0 T0 sc (iA l) N1 T1 N2 T2 N2a x1 N3 T3 N3a N4 T4 x1.size tk N5 T5 N5a x3 N6 T6 N6a #[.int a ta, .int b2 tb, .int c tc] N7 T7 a ta (n1 : Int) N8 T8 b2 tb (n2 : Int) N9 T9 c tc (n3 : Int) N10 T10 (pretty n1) u1 N11 T11 (a.fdiv 32) ((a.fdiv 32).fmod 3) N12 T12 (spl n1 ((a.fdiv 32).fmod 3)) v1) no_orc (lwm' ..).s (lwm' ..).o fun h13 N13x T13x hN13x C13 => ?_
  refine pretty_ok (n := n2) (by omega) _ _ _ (aroO_handled hA _) (by first | exact room hd (lwm' ..).e rfl | (rw [aroO_depth, (lwm' ..).e]; omega)) C13.sta trivial fun v g13 T13 hPP => ?_
  obtain ⟨⟨u2, hv⟩, K13⟩ := hPP
  subst hv
  obtain ⟨N13, hN13⟩ : ∃ N, g13.objs.size = N := ⟨_, rfl⟩
  refine res_call (C13.same K13) hb hA hN13 _ (lwn.eq_1 w b N0 T0 sc (iA l) N1 T1 N2 T2 N2a x1 N3 T3 N3a N4 T4 x1.size tk N5 T5 N5a x3 N6 T6 N6a #[.int a ta, .int b2 tb, .int c tc] N7 T7 a ta (n1 : Int) N8 T8 b2 tb (n2 : Int) N9 T9 c tc (n3 : Int) N10 T10 (pretty n1) u1 N11 T11 (a.fdiv 32) ((a.fdiv 32).fmod 3) N12 T12 (spl n1 ((a.fdiv 32).fmod 3)) v1 N13 T13 (pretty n2) u2) no_orc (lwn' ..).s (lwn' ..).o fun h14 N14 T14 hN14 C14 => ?_
  refine cItemZ (C14.at' ((lwn' ..).g 0 rfl)) (by decide) (by decide) (x := .int b2 tb) rfl ?_
  refine res_call C14 hb hA hN14 _ (lwo.eq_1 w b N0 T0 sc (iA l) N1 T1 N2 T2 N2a x1 N3 T3 N3a N4 T4 x1.size tk N5 T5 N5a x3 N6 T6 N6a #[.int a ta, .int b2 tb, .int c tc] N7 T7 a ta (n1 : Int) N8 T8 b2 tb (n2 : Int) N9 T9 c tc (n3 : Int) N10 T10 (pretty n1) u1 N11 T11 (a.fdiv 32) ((a.fdiv 32).fmod 3) N12 T12 (spl n1 ((a.fdiv 32).fmod 3)) v1 N13 T13 (pretty n2) u2 N14 T14 (b2.fdiv 32) ((b2.fdiv 32).fmod 3)) ?_ (lwo' ..).s (lwo' ..).o fun h15 N15x T15x hN15x C15 => ?_
  · exact mC (oDiv (by decide) rfl rfl) (mC (oMod (by decide) rfl) mN)
  refine spelt_ok (pn (by omega)) (by have := pretty_len n2; omega) _ _ _ (aroO_handled hA _) (by first | exact room hd (lwo' ..).e rfl | (rw [aroO_depth, (lwo' ..).e]; omega)) C15.sta trivial fun v g15 T15 hPP => ?_
  obtain ⟨⟨v2, hv⟩, K15⟩ := hPP
  subst hv
  obtain ⟨N15, hN15⟩ : ∃ N, g15.objs.size = N := ⟨_, rfl⟩
  refine res_call (C15.same K15) hb hA hN15 _ (lwp.eq_1 w b N0 T0 sc (iA l) N1 T1 N2 T2 N2a x1 N3 T3 N3a N4 T4 x1.size tk N5 T5 N5a x3 N6 T6 N6a #[.int a ta, .int b2 tb, .int c tc] N7 T7 a ta (n1 : Int) N8 T8 b2 tb (n2 : Int) N9 T9 c tc (n3 : Int) N10 T10 (pretty n1) u1 N11 T11 (a.fdiv 32) ((a.fdiv 32).fmod 3) N12 T12 (spl n1 ((a.fdiv 32).fmod 3)) v1 N13 T13 (pretty n2) u2 N14 T14 (b2.fdiv 32) ((b2.fdiv 32).fmod 3) N15 T15 (spl n2 ((b2.fdiv 32).fmod 3)) v2) ?_ (lwp' ..).s (lwp' ..).o fun h16 N16x T16x hN16x C16 => ?_
  · exact mC (oStrAdd (sn _ _) (sn _ _) (by rw [al]; have := sl n1 ((a.fdiv 32).fmod 3); have := sl n2 ((b2.fdiv 32).fmod 3); omega)) mN
  refine pretty_ok (n := n3) (by omega) _ _ _ (aroO_handled hA _) (by first | exact room hd (lwp' ..).e rfl | (rw [aroO_depth, (lwp' ..).e]; omega)) C16.sta trivial fun v g16 T16 hPP => ?_
  obtain ⟨⟨u3, hv⟩, K16⟩ := hPP
  subst hv
  obtain ⟨N16, hN16⟩ : ∃ N, g16.objs.size = N := ⟨_, rfl⟩
  refine res_call (C16.same K16) hb hA hN16 _ (lwq.eq_1 w b N0 T0 sc (iA l) N1 T1 N2 T2 N2a x1 N3 T3 N3a N4 T4 x1.size tk N5 T5 N5a x3 N6 T6 N6a #[.int a ta, .int b2 tb, .int c tc] N7 T7 a ta (n1 : Int) N8 T8 b2 tb (n2 : Int) N9 T9 c tc (n3 : Int) N10 T10 (pretty n1) u1 N11 T11 (a.fdiv 32) ((a.fdiv 32).fmod 3) N12 T12 (spl n1 ((a.fdiv 32).fmod 3)) v1 N13 T13 (pretty n2) u2 N14 T14 (b2.fdiv 32) ((b2.fdiv 32).fmod 3) N15 T15 (spl n2 ((b2.fdiv 32).fmod 3)) v2 N16 T16 (pretty n3) u3) no_orc (lwq' ..).s (lwq' ..).o fun h17 N17 T17 hN17 C17 => ?_
  refine cItemZ (C17.at' ((lwq' ..).g 0 rfl)) (by decide) (by decide) (x := .int c tc) rfl ?_
  refine res_call C17 hb hA hN17 _ (lwr.eq_1 w b N0 T0 sc (iA l) N1 T1 N2 T2 N2a x1 N3 T3 N3a N4 T4 x1.size tk N5 T5 N5a x3 N6 T6 N6a #[.int a ta, .int b2 tb, .int c tc] N7 T7 a ta (n1 : Int) N8 T8 b2 tb (n2 : Int) N9 T9 c tc (n3 : Int) N10 T10 (pretty n1) u1 N11 T11 (a.fdiv 32) ((a.fdiv 32).fmod 3) N12 T12 (spl n1 ((a.fdiv 32).fmod 3)) v1 N13 T13 (pretty n2) u2 N14 T14 (b2.fdiv 32) ((b2.fdiv 32).fmod 3) N15 T15 (spl n2 ((b2.fdiv 32).fmod 3)) v2 N16 T16 (pretty n3) u3 N17 T17 (c.fdiv 1024) ((c.fdiv 1024).fmod 3)) ?_ (lwr' ..).s (lwr' ..).o fun h18 N18x T18x hN18x C18 => ?_
  · exact mC (oDiv (by decide) rfl rfl) (mC (oMod (by decide) rfl) mN)
  refine spelt_ok (pn (by omega)) (by have := pretty_len n3; omega) _ _ _ (aroO_handled hA _) (by first | exact room hd (lwr' ..).e rfl | (rw [aroO_depth, (lwr' ..).e]; omega)) C18.sta trivial fun v g18 T18 hPP => ?_
  obtain ⟨⟨v3, hv⟩, K18⟩ := hPP
  subst hv
  obtain ⟨N18, hN18⟩ : ∃ N, g18.objs.size = N := ⟨_, rfl⟩
  refine res_call (C18.same K18) hb hA hN18 _ (lws.eq_1 w b N0 T0 sc (iA l) N1 T1 N2 T2 N2a x1 N3 T3 N3a N4 T4 x1.size tk N5 T5 N5a x3 N6 T6 N6a #[.int a ta, .int b2 tb, .int c tc] N7 T7 a ta (n1 : Int) N8 T8 b2 tb (n2 : Int) N9 T9 c tc (n3 : Int) N10 T10 (pretty n1) u1 N11 T11 (a.fdiv 32) ((a.fdiv 32).fmod 3) N12 T12 (spl n1 ((a.fdiv 32).fmod 3)) v1 N13 T13 (pretty n2) u2 N14 T14 (b2.fdiv 32) ((b2.fdiv 32).fmod 3) N15 T15 (spl n2 ((b2.fdiv 32).fmod 3)) v2 N16 T16 (pretty n3) u3 N17 T17 (c.fdiv 1024) ((c.fdiv 1024).fmod 3) N18 T18 (spl n3 ((c.fdiv 1024).fmod 3)) v3 ((n1 * n2 : Nat) : Int) ((n1 * n2 + n3 : Nat) : Int)) ?_ (lws' ..).s (lws' ..).o fun h19 N19x T19x hN19x C19 => ?_
  · exact mC (oStrAdd (strPos.mpr (by have := strPos.mp (sn n1 ((a.fdiv 32).fmod 3)); simp only [Str.cps_append, Array.toList_append]; exact fun e => this (List.append_eq_nil_iff.mp e).1)) (sn _ _) (by rw [al, al]; have := sl n1 ((a.fdiv 32).fmod 3); have := sl n2 ((b2.fdiv 32).fmod 3); have := sl n3 ((c.fdiv 1024).fmod 3); omega)) (mC (oMul (by omega) (by rw [Int.natCast_mul])) (mC (oAddI (by rw [Int.natCast_add])) mN))
  refine pretty_ok (n := n1 * n2 + n3) (by omega) _ _ _ (aroO_handled hA _) (by first | exact room hd (lws' ..).e rfl | (rw [aroO_depth, (lws' ..).e]; omega)) C19.sta trivial fun v g19 T19 hPP => ?_
  obtain ⟨⟨u4, hv⟩, K19⟩ := hPP
  subst hv
  obtain ⟨N19, hN19⟩ : ∃ N, g19.objs.size = N := ⟨_, rfl⟩
  refine res_call (C19.same K19) hb hA hN19 _ (lwt.eq_1 w b N0 T0 sc (iA l) N1 T1 N2 T2 N2a x1 N3 T3 N3a N4 T4 x1.size tk N5 T5 N5a x3 N6 T6 N6a #[.int a ta, .int b2 tb, .int c tc] N7 T7 a ta (n1 : Int) N8 T8 b2 tb (n2 : Int) N9 T9 c tc (n3 : Int) N10 T10 (pretty n1) u1 N11 T11 (a.fdiv 32) ((a.fdiv 32).fmod 3) N12 T12 (spl n1 ((a.fdiv 32).fmod 3)) v1 N13 T13 (pretty n2) u2 N14 T14 (b2.fdiv 32) ((b2.fdiv 32).fmod 3) N15 T15 (spl n2 ((b2.fdiv 32).fmod 3)) v2 N16 T16 (pretty n3) u3 N17 T17 (c.fdiv 1024) ((c.fdiv 1024).fmod 3) N18 T18 (spl n3 ((c.fdiv 1024).fmod 3)) v3 ((n1 * n2 : Nat) : Int) ((n1 * n2 + n3 : Nat) : Int) N19 T19 (pretty (n1 * n2 + n3)) u4) no_orc (lwt' ..).s (lwt' ..).o fun h20 N20 T20 hN20 C20 => ?_
  obtain ⟨g1, g2, more1, more2, ws1, ws2, nl1, nl2, nl3, G1, G2, G3, G4, G5, G6⟩ := hG n1 n2 n3 ((a.fdiv 32).fmod 3) ((b2.fdiv 32).fmod 3) ((c.fdiv 1024).fmod 3) hn1 hn2 hn3
  have e80 : h20.get? 80 = some (o80 w.params) := C20.kp.get L3 (fun hm => hsc (List.mem_singleton.mp hm).symm)
  refine run_ok g1 g2 G1 G2 G3 G4 G5 G6 _ _ _ (aroO_handled hA _) (by first | exact room hd (lwt' ..).e.1 rfl | (rw [aroO_depth, (lwt' ..).e.1]; omega)) (by rw [aroO_units, (lwt' ..).e.2]; omega) C20.sta e80 fun v g20 T20 hv => ?_
  obtain ⟨hv, S20, K20, v8, e8⟩ := hv
  subst hv
  obtain ⟨N20, hN20'⟩ : ∃ N, g20.objs.size = N := ⟨_, rfl⟩
  refine res_fin (Cur.nil S20) hb hA hN20' _ (lwu.eq_1 w b N0 T0 sc (iA l) N1 T1 N2 T2 N2a x1 N3 T3 N3a N4 T4 x1.size tk N5 T5 N5a x3 N6 T6 N6a #[.int a ta, .int b2 tb, .int c tc] N7 T7 a ta (n1 : Int) N8 T8 b2 tb (n2 : Int) N9 T9 c tc (n3 : Int) N10 T10 (pretty n1) u1 N11 T11 (a.fdiv 32) ((a.fdiv 32).fmod 3) N12 T12 (spl n1 ((a.fdiv 32).fmod 3)) v1 N13 T13 (pretty n2) u2 N14 T14 (b2.fdiv 32) ((b2.fdiv 32).fmod 3) N15 T15 (spl n2 ((b2.fdiv 32).fmod 3)) v2 N16 T16 (pretty n3) u3 N17 T17 (c.fdiv 1024) ((c.fdiv 1024).fmod 3) N18 T18 (spl n3 ((c.fdiv 1024).fmod 3)) v3 ((n1 * n2 : Nat) : Int) ((n1 * n2 + n3 : Nat) : Int) N19 T19 (pretty (n1 * n2 + n3)) u4 N20 T20) no_orc (lwu' ..).s (lwu' ..).o fun h21 N21 T21 hN21 C21 => ?_
  have K21 : Kp [] g20 h21 := C21.kp
  refine H _ _ _ ⟨rfl, ?_, v8, K21.get e8 (fun h => nomatch h)⟩
  exact (((C20.lawKp L1 ((lwt' ..).g 0 rfl)).mono fun a ha => nomatch ha).trans K20 fun a ha => .inl ha).trans K21 fun a ha => nomatch ha
noncomputable def num : List Bool → Nat
  | [] => 0
  | b :: bs => (if b then 1 else 0) + 2 * num bs
noncomputable def wds (i : Nat) : List Bool → List Str
  | [] => []
  | b :: bs => (if b then [nm i] else []) ++ wds (i + 1) bs
theorem wds_zero : ∀ (bs : List Bool) (i : Nat), num bs = 0 → wds i bs = []
  | [], _, _ => rfl
  | b :: bs, i, h => by
    cases b with
    | true => simp [num] at h
    | false =>
      have : num bs = 0 := by simp [num] at h; omega
      simp [wds, wds_zero bs (i + 1) this]
theorem bitW_wds : ∀ (bs : List Bool) (i r : Nat), bs.length ≤ r → bitW i (num bs) r = wds i bs
  | [], i, r, _ => by cases r <;> simp [bitW, num, wds]
  | b :: bs, i, 0, h => by simp at h
  | b :: bs, i, r + 1, h => by
    have ih := bitW_wds bs (i + 1) r (by simpa using h)
    unfold bitW
    by_cases h0 : num (b :: bs) = 0
    · rw [if_pos h0, wds_zero _ _ h0]
    · rw [if_neg h0]
      have e0 : num (b :: bs) = (if b then 1 else 0) + 2 * num bs := rfl
      have e1 : num (b :: bs) / 2 = num bs := by rw [e0]; generalize num bs = x; cases b <;> simp <;> omega
      have e2 : (num (b :: bs) % 2 = 1) = (b = true) := by rw [e0]; generalize num bs = x; cases b <;> simp <;> omega
      rw [e1, ih]
      simp only [e2]
      rfl
noncomputable def bits (hs : List Str) : List Bool := names.map fun x => decide (x ∈ hs)
theorem filt_wds' (p : Str → Bool) : ∀ (L : List Str) (i : Nat), (∀ k, k < L.length → L[k]? = some (nm (i + k))) → L.filter p = wds i (L.map p)
  | [], _, _ => rfl
  | x :: L, i, h => by
    have ih := filt_wds' p L (i + 1) fun k hk => by
      have := h (k + 1) (by simpa using hk)
      rw [List.getElem?_cons_succ] at this
      rw [this, Nat.add_assoc, Nat.add_comm 1 k]
    have hx : x = nm i := by
      have := h 0 (by ac_rfl)
      rw [List.getElem?_cons_zero] at this
      exact Option.some.inj this
    rw [List.filter_cons, List.map_cons, wds, ih, hx]
    cases p (nm i) <;> rfl
theorem names_nm : ∀ k, k < names.length → names[k]? = some (nm (0 + k)) := by decide +kernel
theorem filt_wds (p : Str → Bool) : names.filter p = wds 0 (names.map p) := filt_wds' p names 0 names_nm
@[irreducible] noncomputable def val (hs : List Str) : Nat := num (bits hs)
@[irreducible] noncomputable def valQ (ws : List Str) : Nat := (ws.map fun s => 2 ^ ix s).sum
theorem valQ_nil : valQ [] = 0 := by unfold valQ; rfl
theorem valQ_cons (s : Str) (ws : List Str) : valQ (s :: ws) = 2 ^ ix s + valQ ws := by simp [valQ]
theorem valQ_app (a b : List Str) : valQ (a ++ b) = valQ a + valQ b := by simp [valQ]
theorem num_set : ∀ (L : List Str) (s : Str) (p q : Str → Bool), L.Nodup → s ∈ L → p s = false → q s = true → (∀ x ∈ L, x ≠ s → q x = p x) → num (L.map q) = num (L.map p) + 2 ^ L.idxOf s
  | [], s, p, q, _, h, _, _, _ => nomatch h
  | x :: L, s, p, q, nd, hm, hp, hq, he => by
    by_cases hx : x = s
    · subst hx
      have e : L.map q = L.map p := List.map_congr_left fun y hy => he y (.tail _ hy) fun e => (List.nodup_cons.mp nd).1 (e ▸ hy)
      rw [List.map_cons, List.map_cons, e, hp, hq]
      simp [num]
      omega
    · have hm' : s ∈ L := by
        rcases List.mem_cons.mp hm with e | e
        · exact absurd e.symm hx
        · exact e
      have ih := num_set L s p q (List.nodup_cons.mp nd).2 hm' hp hq fun y hy => he y (.tail _ hy)
      have hi : (x :: L).idxOf s = L.idxOf s + 1 := by
        rw [List.idxOf_cons]
        have : (x == s) = false := by simpa using hx
        rw [this]; rfl
      rw [List.map_cons, List.map_cons, hi, he x (.head _) hx]
      unfold num
      rw [ih, Nat.pow_succ]
      omega
theorem names_nd : names.Nodup := by decide +kernel
theorem t11 {s : Str} (h : s ∈ names.take 11) : s ∈ names := List.mem_of_mem_take h
theorem val_add {hs : List Str} {s : Str} (hs1 : s ∈ names) (hn : s ∉ hs) : val (hs ++ [s]) = val hs + 2 ^ ix s := by
  unfold val bits ix
  refine num_set names s _ _ names_nd hs1 (by simpa using hn) (by ac_rfl) fun x _ hx => ?_
  simp [hx]
theorem val_del {hs : List Str} {s : Str} (nd : hs.Nodup) (hs1 : s ∈ names) (hm : s ∈ hs) : val hs = val (hs.erase s) + 2 ^ ix s := by
  unfold val bits ix
  refine num_set names s _ _ names_nd hs1 ?_ (by simpa using hm) fun x _ hx => ?_
  · simpa using fun h => (List.Nodup.mem_erase_iff nd).mp h |>.1 rfl
  · simp only [decide_eq_decide]
    exact ⟨fun h => (List.mem_erase_of_ne hx).mpr h, fun h => List.mem_of_mem_erase h⟩
theorem ix_nm : ∀ j < 12, ix (nm j) = j := by decide +kernel
theorem nm_mem : ∀ j < 11, nm j ∈ names.take 11 := by decide +kernel
theorem mem_nm : ∀ s ∈ names.take 11, ∃ j, j < 11 ∧ s = nm j := by
  intro s hs
  have e : names.take 11 = [nm 0, nm 1, nm 2, nm 3, nm 4, nm 5, nm 6, nm 7, nm 8, nm 9, nm 10] := by decide +kernel
  rw [e] at hs
  simp only [List.mem_cons, nmn, or_false] at hs
  rcases hs with h | h | h | h | h | h | h | h | h | h | h
  · exact ⟨0, by decide, h⟩
  · exact ⟨1, by decide, h⟩
  · exact ⟨2, by decide, h⟩
  · exact ⟨3, by decide, h⟩
  · exact ⟨4, by decide, h⟩
  · exact ⟨5, by decide, h⟩
  · exact ⟨6, by decide, h⟩
  · exact ⟨7, by decide, h⟩
  · exact ⟨8, by decide, h⟩
  · exact ⟨9, by decide, h⟩
  · exact ⟨10, by decide, h⟩
theorem tabv_fst {tab : List (Str × Nat)} (h : tab.map (·.1) = names) {j : Nat} (hj : j < 12) : (tabv tab j).1 = nm j := by
  have hl : tab.length = 12 := by rw [← List.length_map (f := (·.1)), h]; rfl
  unfold tabv nm
  rw [← h, List.getD_eq_getElem?_getD, List.getD_eq_getElem?_getD, List.getElem?_map, List.getElem?_eq_getElem (by omega)]
  rfl
theorem carry_ok {tab : List (Str × Nat)} (htab : tab.map (·.1) = names) {hs : List Str} {qs : List (Str × Nat)} {s : Str} (nd : hs.Nodup) (h11 : s ∈ names.take 11) (hq : ∀ p ∈ qs, p.1 ∈ names.take 11) (hB : val hs + valQ (qs.map (·.1)) + 2 ^ ix s < 2 ^ 11) :
    (∀ p ∈ (carry tab (hs, qs) s).2, p.1 ∈ names.take 11) ∧ val (carry tab (hs, qs) s).1 + valQ ((carry tab (hs, qs) s).2.map (·.1)) = val hs + valQ (qs.map (·.1)) + 2 ^ ix s ∧ (carry tab (hs, qs) s).1.length + 2 * (carry tab (hs, qs) s).2.length ≤ hs.length + 2 * qs.length + 1 := by
  unfold carry
  by_cases hm : s ∈ hs
  · have hv := val_del nd (t11 h11) hm
    obtain ⟨j, hj, rfl⟩ := mem_nm s h11
    have hix := ix_nm j (by omega)
    rw [hix] at hv hB
    have hj9 : j < 10 := by
      rcases Nat.lt_or_ge j 10 with h | h
      · exact h
      · have := Nat.pow_le_pow_right (n := 2) (by decide) h
        omega
    have ht := tabv_fst htab (j := j + 1) (by omega)
    rw [if_pos (show nm j ∈ (hs, qs).1 from hm), hix]
    refine ⟨fun p hp => ?_, ?_, ?_⟩
    · rcases List.mem_append.mp hp with h | h
      · exact hq p h
      · rw [List.mem_singleton.mp h, ht]
        exact nm_mem _ (by omega)
    · show val (hs.erase (nm j)) + valQ ((qs ++ [tabv tab (j + 1)]).map (·.1)) = _
      rw [List.map_append, valQ_app, List.map_cons, List.map_nil, valQ_cons, valQ_nil, ht, ix_nm (j + 1) (by omega), hv, Nat.pow_succ]
      omega
    · have := List.length_erase_of_mem hm
      have h0 : 0 < hs.length := List.length_pos_of_mem hm
      show (hs.erase (nm j)).length + 2 * (qs ++ [tabv tab (j + 1)]).length ≤ _
      rw [this, List.length_append, List.length_singleton]
      omega
  · rw [if_neg (show ¬ s ∈ (hs, qs).1 from hm)]
    refine ⟨hq, ?_, ?_⟩
    · show val (hs ++ [s]) + valQ (qs.map (·.1)) = _
      rw [val_add (t11 h11) hm]
      omega
    · show (hs ++ [s]).length + 2 * qs.length ≤ _
      rw [List.length_append, List.length_singleton]
      omega
theorem carries_ok {tab : List (Str × Nat)} (htab : tab.map (·.1) = names) : ∀ (ws : List Str) (hs : List Str) (qs : List (Str × Nat)), hs.Nodup → (∀ s ∈ ws, s ∈ names.take 11) → (∀ p ∈ qs, p.1 ∈ names.take 11) → val hs + valQ (qs.map (·.1)) + valQ ws < 2 ^ 11 →
    (∀ p ∈ (carries tab ws hs qs).2, p.1 ∈ names.take 11) ∧ val (carries tab ws hs qs).1 + valQ ((carries tab ws hs qs).2.map (·.1)) = val hs + valQ (qs.map (·.1)) + valQ ws ∧ (carries tab ws hs qs).1.length + 2 * (carries tab ws hs qs).2.length ≤ hs.length + 2 * qs.length + ws.length
  | [], hs, qs, nd, h1, h2, h3 => ⟨h2, by show val hs + valQ (qs.map (·.1)) = _; rw [valQ_nil]; rfl, Nat.le_refl _⟩
  | s :: ws, hs, qs, nd, h1, h2, h3 => by
    have e := valQ_cons s ws
    rw [e] at h3
    obtain ⟨a1, a2, a3⟩ := carry_ok htab nd (h1 s (.head _)) h2 (by omega)
    have nd' := carry_nodup (tab := tab) (st := (hs, qs)) (s := s) nd
    have ec : carries tab (s :: ws) hs qs = ws.foldl (carry tab) (carry tab (hs, qs) s) := List.foldl_cons ..
    generalize carry tab (hs, qs) s = st at a1 a2 a3 nd' ec
    obtain ⟨x, y⟩ := st
    obtain ⟨b1, b2, b3⟩ := carries_ok htab ws x y nd' (fun z hz => h1 z (.tail _ hz)) a1 (by simp only at a2; omega)
    rw [ec, e]
    simp only at a2 a3
    exact ⟨b1, by rw [b2, a2]; omega, by rw [List.length_cons]; exact Nat.le_trans b3 (by omega)⟩
inductive Rd : List Nat → List (List Nat) → List Nat → Nat → Prop
  | nil (l : List Nat) : Rd l [] l 0
  | cons {l tok m more : List Nat} {ts : List (List Nat)} {nl nl' : Nat} : Tk l tok m nl → Rd m ts more nl' → Rd l (tok :: ts) more (nl + nl')
theorem cnt_no {u : List Nat} (h : ∀ c ∈ u, c ≠ 10) : u.count 10 = 0 := List.count_eq_zero.mpr fun hm => h 10 hm rfl
theorem Tk.cnt {l tok more : List Nat} {nl : Nat} (h : Tk l tok more nl) : l.count 10 = nl + more.count 10 := by
  cases h with
  | plain c u e more h1 h2 h3 h4 =>
    have hu := cnt_no (u := u) fun c hc => (h2 c hc).2.2.2
    have hc : c + 1 ≠ 10 := fun e => by rw [e] at h1; exact absurd h1.1 (by decide)
    have hc' : (c + 1 == 10) = false := by simpa using hc
    simp only [List.count_cons, List.count_append, List.cons_append, hu, hc']
    by_cases he : e = 10
    · simp [he]; omega
    · simp [he]
  | quote c u more h1 h2 =>
    have hu := cnt_no (u := (c + 1) :: u) fun c hc => (h1 c hc).2.2.2
    rw [show 34 :: (c + 1) :: u ++ 34 :: more = 34 :: (((c + 1) :: u) ++ 34 :: more) from rfl, List.count_cons, List.count_append, hu, List.count_cons]
    simp
  | esc c u e more h1 h2 h3 h4 =>
    have hu := cnt_no (u := u) fun c hc => (h2 c hc).2.2.2
    have hc' : (c + 1 == 10) = false := by simpa using h1
    simp only [List.count_cons, List.count_append, List.cons_append, hu, hc']
    by_cases he : e = 10
    · simp [he]; omega
    · simp [he]
  | blank c u e more h1 h2 h3 h4 =>
    have hu := cnt_no (u := u) fun c hc => (h2 c hc).2.2.2
    have hc' : (c + 1 == 10) = false := by simpa using h1
    simp only [List.count_cons, List.count_append, List.cons_append, hu, hc']
    by_cases he : e = 10
    · simp [he]; omega
    · simp [he]; omega
theorem Rd.cnt {l more : List Nat} {ts : List (List Nat)} {nl : Nat} (h : Rd l ts more nl) : l.count 10 = nl + more.count 10 := by
  induction h with
  | nil l => simp
  | cons ht _ ih => rw [ht.cnt, ih]; omega
noncomputable abbrev tw (ts : List (List Nat)) : List Str := ts.flatMap fun t => wordsIn (toS t)
inductive Ends : List (List Nat) → Prop
  | last (u : List Nat) (c : Nat) : c ≠ 44 → Ends [u ++ [c]]
  | step (u : List Nat) {ts : List (List Nat)} : Ends ts → Ends ((u ++ [44]) :: ts)
theorem fac_of {ts : List (List Nat)} (he : Ends ts) : ∀ {l more : List Nat} {nl : Nat}, Rd l ts more nl → Fac l (tw ts) more nl := by
  induction he with
  | last u c hc =>
    intro l more nl h
    cases h with
    | cons ht h' =>
      cases h'
      have := Fac.last ht hc
      simpa [tw] using this
  | step u _ ih =>
    intro l more nl h
    cases h with
    | cons ht h' =>
      have := Fac.step ht (ih h')
      simpa [tw] using this
theorem held_ex {tab : List (Str × Nat)} (htab : tab.map (·.1) = names) (hw1 : ∀ s ∈ names.take 11, wordsIn s = [s]) (hw2 : ∀ s ∈ names.take 11, (s.length == 0) = false ∧ s.length ≤ 18) : ∀ (n : Nat) (ts : List (List Nat)) (l : List Nat) (nl : Nat) (hs : List Str) (qs : List (Str × Nat)), n ≤ 10000 → Rd l ts [] nl → (∀ s ∈ tw ts, s ∈ names.take 11) → hs.Nodup → (∀ p ∈ qs, p.1 ∈ names.take 11) → hs.length + 2 * qs.length + 3 * (tw ts).length + ts.length ≤ n → val hs + valQ (qs.map (·.1)) + valQ (tw ts) < 2 ^ 11 →
    ∃ hs', Hld tab l hs qs hs' nl ∧ val hs' = val hs + valQ (qs.map (·.1)) + valQ (tw ts) := by
  intro n
  have hz : sizeLine = 2 ^ 24 := rfl
  induction n with
  | zero =>
    intro ts l nl hs qs h0 hr h1 nd h2 h3 h4
    match qs, ts, hr with
    | [], [], hr =>
      cases hr
      exact ⟨hs, .fin (by omega), (by show val hs = val hs + valQ [] + valQ []; rw [valQ_nil]; rfl)⟩
    | _ :: _, _, _ => simp at h3
    | [], _ :: _, _ => simp at h3
  | succ n ih =>
    intro ts l nl hs qs h0 hr h1 nd h2 h3 h4
    match qs, h2, h3, h4 with
    | (y, yk) :: qs, h2, h3, h4 =>
      have hy : y ∈ names.take 11 := h2 (y, yk) (.head _)
      have e1 : valQ (((y, yk) :: qs).map (·.1)) = 2 ^ ix y + valQ (qs.map (·.1)) := valQ_cons ..
      rw [e1] at h4 ⊢
      have e2 : (((y, yk) :: qs) : List (Str × Nat)).length = qs.length + 1 := rfl
      rw [e2] at h3
      obtain ⟨a1, a2, a3⟩ := carry_ok htab nd hy (fun p hp => h2 p (.tail _ hp)) (qs := qs) (by omega)
      have ec : carries tab (wordsIn y) hs qs = carry tab (hs, qs) y := by rw [hw1 y hy]; rfl
      obtain ⟨hs', g1, g2⟩ := ih ts l nl (carry tab (hs, qs) y).1 (carry tab (hs, qs) y).2 (by omega) hr h1 (carry_nodup nd) a1 (by omega) (by omega)
      refine ⟨hs', .wait (hw2 y hy).1 (by rw [hw1 y hy]; intro s hs; cases List.mem_singleton.mp hs; exact hy) (by have := (hw2 y hy).2; omega) (by rw [hw1 y hy]; simp; omega) (by rw [ec]; exact g1), by omega⟩
    | [], h2, h3, h4 =>
      match ts, hr, h1, h3, h4 with
      | [], hr, h1, h3, h4 =>
        cases hr
        exact ⟨hs, .fin (by simp at h3; omega), (by show val hs = val hs + valQ [] + valQ []; rw [valQ_nil]; rfl)⟩
      | t :: ts, hr, h1, h3, h4 =>
        cases hr with
        | @cons _ _ m _ _ nl1 nl2 ht hr' =>
          have e1 : tw (t :: ts) = wordsIn (toS t) ++ tw ts := by simp [tw]
          rw [e1] at h1 h3 h4 ⊢
          have e2 : valQ (wordsIn (toS t) ++ tw ts) = valQ (wordsIn (toS t)) + valQ (tw ts) := valQ_app ..
          rw [e2] at h4 ⊢
          rw [List.length_append] at h3
          have e3 : valQ (([] : List (Str × Nat)).map (·.1)) = 0 := valQ_nil
          rw [e3] at h4 ⊢
          have e4 : ([] : List (Str × Nat)).length = 0 := rfl
          have e5 : (t :: ts).length = ts.length + 1 := rfl
          rw [e4, e5] at h3
          have hw := fun s hs => h1 s (List.mem_append_left _ hs)
          obtain ⟨a1, a2, a3⟩ := carries_ok htab (wordsIn (toS t)) hs [] nd hw (fun _ h => nomatch h) (by rw [e3]; omega)
          rw [e3] at a2
          rw [e4] at a3
          obtain ⟨hs', g1, g2⟩ := ih ts m nl2 _ _ (by omega) hr' (fun s hs => h1 s (List.mem_append_right _ hs)) (carries_nodup tab (wordsIn (toS t)) hs [] nd) a1 (by omega) (by omega)
          exact ⟨hs', .read ht hw (by omega) g1, by omega⟩
noncomputable def jl (sep : List Nat) : List (List Nat) → List Nat
  | [] => []
  | [w] => w
  | w :: q :: r => w ++ sep ++ jl sep (q :: r)
theorem join_jl (s : Str) : ∀ ws : List Str, (Str.join s ws).cps.toList = jl s.cps.toList (ws.map (·.cps.toList))
  | [] => rfl
  | [w] => rfl
  | w :: q :: r => by
    show (w ++ s ++ Str.join s (q :: r)).cps.toList = w.cps.toList ++ s.cps.toList ++ jl s.cps.toList ((q :: r).map (·.cps.toList))
    rw [← join_jl s (q :: r)]
    simp [Str.cps_append]
noncomputable def okc (c : Nat) : Bool := !isWs c && !Unicode.isSpace c && c != 0 && c != 34 && c != 92 && c != 10 && c != 44 && c != 32
noncomputable def okw (w : List Nat) : Prop := w ≠ [] ∧ w.length ≤ 18 ∧ ∀ c ∈ w, okc c = true
theorem okw_names : ∀ s ∈ sZero :: names, okw s.cps.toList := by
  have h : ∀ s ∈ sZero :: names, (!s.cps.toList.isEmpty && decide (s.cps.toList.length ≤ 18) && s.cps.toList.all okc) = true := by decide +kernel
  intro s hs
  have := h s hs
  simp only [Bool.and_eq_true, Bool.not_eq_true', decide_eq_true_eq, List.all_eq_true] at this
  exact ⟨by simpa using this.1.1, this.1.2, this.2⟩
theorem okc_and {c : Nat} (h : okc c = true) : isWs c = false ∧ Unicode.isSpace c = false ∧ c ≠ 0 ∧ c ≠ 34 ∧ c ≠ 92 ∧ c ≠ 10 ∧ c ≠ 44 ∧ c ≠ 32 := by
  unfold okc at h
  simp only [Bool.and_eq_true, Bool.not_eq_true', bne_iff_ne] at h
  exact ⟨h.1.1.1.1.1.1.1, h.1.1.1.1.1.1.2, h.1.1.1.1.1.2, h.1.1.1.1.2, h.1.1.1.2, h.1.1.2, h.1.2, h.2⟩
structure okt (t : List Nat) : Prop where
  ne : t ≠ []
  len : t.length ≤ 100
  all : ∀ c ∈ t, c ≠ 0 ∧ isWs c = false ∧ c ≠ 34 ∧ c ≠ 92 ∧ c ≠ 10
theorem okw.t {w : List Nat} (h : okw w) : okt w := ⟨h.1, by have := h.2.1; omega, fun c hc => by
  have := okc_and (h.2.2 c hc)
  exact ⟨this.2.2.1, this.1, this.2.2.2.1, this.2.2.2.2.1, this.2.2.2.2.2.1⟩⟩
theorem okw.tc {w : List Nat} (h : okw w) : okt (w ++ [44]) := ⟨by simp, by have := h.2.1; simp; omega, fun c hc => by
  rcases List.mem_append.mp hc with q | q
  · exact h.t.all c q
  · cases List.mem_singleton.mp q; decide⟩
section
variable {t m : List Nat} {e : Nat}
theorem okt.split (h : okt t) : ∃ c u, t = (c + 1) :: u ∧ isWs (c + 1) = false ∧ c + 1 ≠ 34 ∧ c + 1 ≠ 92 ∧ c + 1 ≠ 10 ∧ (∀ c ∈ u, c ≠ 0 ∧ isWs c = false ∧ c ≠ 92 ∧ c ≠ 10) ∧ u.length + 2 ≤ sizeLine := by
  have hz : sizeLine = 2 ^ 24 := rfl
  match t, h with
  | [], h => exact absurd rfl h.ne
  | c :: u, h =>
    have hc := h.all c (.head _)
    have hl := h.len
    refine ⟨c - 1, u, by rw [show c - 1 + 1 = c by omega], ?_, ?_, ?_, ?_, fun x hx => ?_, by simp at hl; omega⟩
    · rw [show c - 1 + 1 = c by omega]; exact hc.2.1
    · rw [show c - 1 + 1 = c by omega]; exact hc.2.2.1
    · rw [show c - 1 + 1 = c by omega]; exact hc.2.2.2.1
    · rw [show c - 1 + 1 = c by omega]; exact hc.2.2.2.2
    · have := h.all x (.tail _ hx)
      exact ⟨this.1, this.2.1, this.2.2.2.1, this.2.2.2.2⟩
theorem tk_plain (h : okt t) : ∃ nl, Tk (t ++ 32 :: m) t m nl := by
  obtain ⟨c, u, rfl, h1, h2, h3, h4, h5, h6⟩ := h.split
  exact ⟨_, .plain c u 32 m ⟨h1, h2, h3⟩ h5 (by decide) h6⟩
theorem tk_esc (h : okt t) (he : isWs e = true) : ∃ nl, Tk (92 :: t ++ e :: m) t m nl := by
  obtain ⟨c, u, rfl, h1, h2, h3, h4, h5, h6⟩ := h.split
  exact ⟨_, .esc c u e m h4 h5 he h6⟩
theorem tk_blank (h : okt t) (he : isWs e = true) : ∃ nl, Tk (10 :: 92 :: t ++ e :: m) t m nl := by
  obtain ⟨c, u, rfl, h1, h2, h3, h4, h5, h6⟩ := h.split
  exact ⟨_, .blank c u e m h4 h5 he h6⟩
theorem tk_quote (h0 : t ≠ []) (hl : t.length ≤ 10000) (h : ∀ c ∈ t, c ≠ 0 ∧ c ≠ 34 ∧ c ≠ 92 ∧ c ≠ 10) : ∃ nl, Tk (34 :: t ++ 34 :: m) t m nl := by
  have hz : sizeLine = 2 ^ 24 := rfl
  match t, h0, hl, h with
  | c :: u, _, hl, h =>
    obtain ⟨k, rfl⟩ : ∃ k, c = k + 1 := ⟨c - 1, by have := (h c (.head _)).1; omega⟩
    exact ⟨_, .quote k u m h (by simp at hl; omega)⟩
end
noncomputable def tok0 : List (List Nat) → List (List Nat)
  | [] => []
  | [w] => [w]
  | w :: q :: r => (w ++ [44]) :: tok0 (q :: r)
theorem tok0_len : ∀ ws, (tok0 ws).length = ws.length
  | [] => rfl
  | [w] => rfl
  | w :: q :: r => by show (tok0 (q :: r)).length + 1 = _; rw [tok0_len (q :: r)]; rfl
theorem rd0 {m : List Nat} : ∀ ws : List (List Nat), ws ≠ [] → (∀ w ∈ ws, okw w) → ∃ nl, Rd (jl [44, 32] ws ++ 32 :: m) (tok0 ws) m nl
  | [], h, _ => absurd rfl h
  | [w], _, h => by
    obtain ⟨nl, ht⟩ := tk_plain (m := m) (h w (.head _)).t
    exact ⟨_, .cons ht (.nil m)⟩
  | w :: q :: r, _, h => by
    obtain ⟨nl', hr⟩ := rd0 (m := m) (q :: r) (by ac_rfl) fun x hx => h x (.tail _ hx)
    obtain ⟨nl, ht⟩ := tk_plain (m := jl [44, 32] (q :: r) ++ 32 :: m) (h w (.head _)).tc
    refine ⟨nl + nl', .cons (m := jl [44, 32] (q :: r) ++ 32 :: m) ?_ hr⟩
    have e : jl [44, 32] (w :: q :: r) ++ 32 :: m = (w ++ [44]) ++ 32 :: (jl [44, 32] (q :: r) ++ 32 :: m) := by simp [jl]
    rw [e]; exact ht
theorem rdB {m : List Nat} : ∀ ws : List (List Nat), ws ≠ [] → (∀ w ∈ ws, okw w) → ∃ nl, Rd (10 :: 92 :: jl [44, 32, 10, 92] ws ++ 10 :: m) (tok0 ws) m nl
  | [], h, _ => absurd rfl h
  | [w], _, h => by
    obtain ⟨nl, ht⟩ := tk_blank (m := m) (e := 10) (h w (.head _)).t (by decide)
    exact ⟨_, .cons ht (.nil m)⟩
  | w :: q :: r, _, h => by
    obtain ⟨nl', hr⟩ := rdB (m := m) (q :: r) (by ac_rfl) fun x hx => h x (.tail _ hx)
    obtain ⟨nl, ht⟩ := tk_blank (m := 10 :: 92 :: jl [44, 32, 10, 92] (q :: r) ++ 10 :: m) (e := 32) (h w (.head _)).tc (by decide)
    refine ⟨nl + nl', .cons (m := 10 :: 92 :: jl [44, 32, 10, 92] (q :: r) ++ 10 :: m) ?_ hr⟩
    have e : 10 :: 92 :: jl [44, 32, 10, 92] (w :: q :: r) ++ 10 :: m = 10 :: 92 :: (w ++ [44]) ++ 32 :: (10 :: 92 :: jl [44, 32, 10, 92] (q :: r) ++ 10 :: m) := by simp [jl]
    rw [e]; exact ht
theorem rd2 {m : List Nat} : ∀ ws : List (List Nat), ws ≠ [] → (∀ w ∈ ws, okw w) → ∃ nl, Rd (92 :: jl [44, 32, 10, 92] ws ++ 10 :: m) (tok0 ws) m nl
  | [], h, _ => absurd rfl h
  | [w], _, h => by
    obtain ⟨nl, ht⟩ := tk_esc (m := m) (e := 10) (h w (.head _)).t (by decide)
    exact ⟨_, .cons ht (.nil m)⟩
  | w :: q :: r, _, h => by
    obtain ⟨nl', hr⟩ := rdB (m := m) (q :: r) (by ac_rfl) fun x hx => h x (.tail _ hx)
    obtain ⟨nl, ht⟩ := tk_esc (m := 10 :: 92 :: jl [44, 32, 10, 92] (q :: r) ++ 10 :: m) (e := 32) (h w (.head _)).tc (by decide)
    refine ⟨nl + nl', .cons (m := 10 :: 92 :: jl [44, 32, 10, 92] (q :: r) ++ 10 :: m) ?_ hr⟩
    have e : 92 :: jl [44, 32, 10, 92] (w :: q :: r) ++ 10 :: m = 92 :: (w ++ [44]) ++ 32 :: (10 :: 92 :: jl [44, 32, 10, 92] (q :: r) ++ 10 :: m) := by simp [jl]
    rw [e]; exact ht
theorem okw.no {w : List Nat} (h : okw w) : 32 ∉ w ∧ 44 ∉ w := ⟨fun hm => (okc_and (h.2.2 32 hm)).2.2.2.2.2.2.2 rfl, fun hm => (okc_and (h.2.2 44 hm)).2.2.2.2.2.2.1 rfl⟩
theorem rpl_jl32 : ∀ ws : List (List Nat), (∀ w ∈ ws, okw w) → rpl 32 [32, 10, 92] (jl [44, 32] ws) = jl [44, 32, 10, 92] ws
  | [], _ => rfl
  | [w], h => rpl_free _ _ _ (h w (.head _)).no.1
  | w :: q :: r, h => by
    have ih := rpl_jl32 (q :: r) fun x hx => h x (.tail _ hx)
    show rpl 32 [32, 10, 92] (w ++ [44, 32] ++ jl [44, 32] (q :: r)) = w ++ [44, 32, 10, 92] ++ jl [44, 32, 10, 92] (q :: r)
    rw [rpl_append, rpl_append, ih, rpl_free _ _ _ (h w (.head _)).no.1]
    rfl
theorem rpl_jl44 : ∀ ws : List (List Nat), (∀ w ∈ ws, okw w) → rpl 44 [32] (jl [44, 32] ws) = jl [32, 32] ws
  | [], _ => rfl
  | [w], h => rpl_free _ _ _ (h w (.head _)).no.2
  | w :: q :: r, h => by
    have ih := rpl_jl44 (q :: r) fun x hx => h x (.tail _ hx)
    show rpl 44 [32] (w ++ [44, 32] ++ jl [44, 32] (q :: r)) = w ++ [32, 32] ++ jl [32, 32] (q :: r)
    rw [rpl_append, rpl_append, ih, rpl_free _ _ _ (h w (.head _)).no.2]
    rfl
theorem wordsL_word : ∀ (w cur r : List Nat), (∀ c ∈ w, Unicode.isSpace c = false) → wordsL cur (w ++ r) = wordsL (cur ++ w) r
  | [], cur, r, _ => by simp
  | c :: w, cur, r, h => by
    have ih := wordsL_word w (cur ++ [c]) r fun x hx => h x (.tail _ hx)
    have e : wordsL cur (c :: (w ++ r)) = wordsL (cur ++ [c]) (w ++ r) := by rw [wordsL, h c (.head _)]; rfl
    show wordsL cur (c :: (w ++ r)) = _
    rw [e, ih, List.append_assoc]
    rfl
theorem okw.sp {w : List Nat} (h : okw w) : ∀ c ∈ w, Unicode.isSpace c = false := fun c hc => (okc_and (h.2.2 c hc)).2.1
theorem sp32 : Unicode.isSpace 32 = true := by decide +kernel
theorem wordsL_end {w : List Nat} (h : w ≠ []) : wordsL w [] = [w] := by
  unfold wordsL
  have : w.isEmpty = false := by simpa using h
  rw [this]; rfl
theorem wordsL_32 {w r : List Nat} (h : w ≠ []) : wordsL w (32 :: r) = w :: wordsL [] r := by
  have : w.isEmpty = false := by simpa using h
  rw [wordsL, sp32, this]; rfl
theorem wordsL_jl : ∀ ws : List (List Nat), (∀ w ∈ ws, okw w) → wordsL [] (jl [32, 32] ws) = ws
  | [], _ => rfl
  | [w], h => by
    have := wordsL_word w [] [] (h w (.head _)).sp
    rw [List.append_nil, List.nil_append] at this
    show wordsL [] w = _
    rw [this, wordsL_end (h w (.head _)).1]
  | w :: q :: r, h => by
    have ih := wordsL_jl (q :: r) fun x hx => h x (.tail _ hx)
    have e : jl [32, 32] (w :: q :: r) = w ++ (32 :: 32 :: jl [32, 32] (q :: r)) := by simp [jl]
    rw [e, wordsL_word w [] _ (h w (.head _)).sp, List.nil_append, wordsL_32 (h w (.head _)).1]
    have e2 : wordsL [] (32 :: jl [32, 32] (q :: r)) = q :: r := by rw [wordsL, sp32]; exact ih
    rw [e2]
theorem words_one {w : List Nat} (h : okw w) : wordsL [] (rpl 44 [32] w) = [w] := by
  have := wordsL_jl [w] (fun x hx => by cases List.mem_singleton.mp hx; exact h)
  rw [rpl_free _ _ _ h.no.2]
  exact this
theorem words_comma {w : List Nat} (h : okw w) : wordsL [] (rpl 44 [32] (w ++ [44])) = [w] := by
  rw [rpl_append, rpl_free _ _ _ h.no.2]
  show wordsL [] (w ++ [32]) = _
  rw [wordsL_word w [] _ h.sp, List.nil_append, wordsL_32 h.1]
  rfl
noncomputable abbrev keepW (ws : List (List Nat)) : List Str := (ws.map toS).filter fun q => decide (q ≠ sZero)
theorem tw_tok0 : ∀ ws : List (List Nat), (∀ w ∈ ws, okw w) → tw (tok0 ws) = keepW ws
  | [], _ => rfl
  | [w], h => by
    show wordsIn (toS w) ++ [] = _
    unfold wordsIn
    rw [List.append_nil, words_one (h w (.head _))]
  | w :: q :: r, h => by
    have ih := tw_tok0 (q :: r) fun x hx => h x (.tail _ hx)
    show wordsIn (toS (w ++ [44])) ++ tw (tok0 (q :: r)) = _
    rw [ih]
    unfold wordsIn
    rw [words_comma (h w (.head _))]
    simp only [keepW, List.map_cons, List.map_nil, List.filter_cons, List.filter_nil]
    split <;> simp
theorem tw_whole (ws : List (List Nat)) (h : ∀ w ∈ ws, okw w) : tw [jl [44, 32] ws] = keepW ws := by
  show wordsIn (toS (jl [44, 32] ws)) ++ [] = _
  unfold wordsIn
  rw [List.append_nil, rpl_jl44 ws h, wordsL_jl ws h]
theorem last_of {w : List Nat} (h : okw w) : ∃ u c, w = u ++ [c] ∧ c ≠ 44 := by
  obtain ⟨u, c, e⟩ : ∃ u c, w = u ++ [c] := ⟨w.dropLast, w.getLast h.1, (List.dropLast_concat_getLast h.1).symm⟩
  exact ⟨u, c, e, (okc_and (h.2.2 c (by rw [e]; simp))).2.2.2.2.2.2.1⟩
theorem ends_tok0 : ∀ ws : List (List Nat), ws ≠ [] → (∀ w ∈ ws, okw w) → Ends (tok0 ws)
  | [], h, _ => absurd rfl h
  | [w], _, h => by
    obtain ⟨u, c, e, hc⟩ := last_of (h w (.head _))
    show Ends [w]
    rw [e]; exact .last u c hc
  | w :: q :: r, _, h => .step w (ends_tok0 (q :: r) (by ac_rfl) fun x hx => h x (.tail _ hx))
theorem ends_whole : ∀ ws : List (List Nat), ws ≠ [] → (∀ w ∈ ws, okw w) → ∃ u c, jl [44, 32] ws = u ++ [c] ∧ c ≠ 44
  | [], h, _ => absurd rfl h
  | [w], _, h => last_of (h w (.head _))
  | w :: q :: r, _, h => by
    obtain ⟨u, c, e, hc⟩ := ends_whole (q :: r) (by ac_rfl) fun x hx => h x (.tail _ hx)
    exact ⟨w ++ [44, 32] ++ u, c, by show w ++ [44, 32] ++ jl [44, 32] (q :: r) = _; rw [e]; simp, hc⟩
theorem jl_all : ∀ ws : List (List Nat), (∀ w ∈ ws, okw w) → ∀ c ∈ jl [44, 32] ws, c ≠ 0 ∧ c ≠ 34 ∧ c ≠ 92 ∧ c ≠ 10
  | [], _, c, hc => nomatch hc
  | [w], h, c, hc => by
    have := (h w (.head _)).t.all c hc
    exact ⟨this.1, this.2.2.1, this.2.2.2.1, this.2.2.2.2⟩
  | w :: q :: r, h, c, hc => by
    have hc' : c ∈ w ++ [44, 32] ++ jl [44, 32] (q :: r) := hc
    rcases List.mem_append.mp hc' with q1 | q1
    · rcases List.mem_append.mp q1 with q2 | q2
      · have := (h w (.head _)).t.all c q2
        exact ⟨this.1, this.2.2.1, this.2.2.2.1, this.2.2.2.2⟩
      · simp only [List.mem_cons, nmn, or_false] at q2
        rcases q2 with rfl | rfl <;> decide
    · exact jl_all (q :: r) (fun x hx => h x (.tail _ hx)) c q1
theorem bitW_length : ∀ (r i m : Nat), (bitW i m r).length ≤ r
  | 0, _, _ => by simp [bitW]
  | r + 1, i, m => by
    have ih := bitW_length r (i + 1) (m / 2)
    unfold bitW
    split
    · simp
    · split
      · simp; omega
      · simp; omega
theorem shown_length (n : Nat) : (shown n).length ≤ 32 := by
  unfold shown
  split
  · decide
  · exact bitW_length 32 0 n
noncomputable abbrev real (n : Nat) : List Str := (shown n).filter fun q => decide (q ≠ sZero)
theorem toS_self (s : Str) : toS s.cps.toList = s := (str_toS rfl).symm
theorem spelt_rd {n : Nat} (hn : n < 2 ^ 11) (f : Int) (m : List Nat) : ∃ ts nl, Rd (speltL (pretty n).cps.toList f ++ m) ts m nl ∧ Ends ts ∧ tw ts = real n ∧ ts.length ≤ 32 := by
  have hok : ∀ w ∈ (shown n).map (·.cps.toList), okw w := fun w hw => by
    obtain ⟨s, hs, rfl⟩ := List.mem_map.mp hw
    rcases shown_mem hn hs with rfl | ⟨j, hj, rfl, _⟩
    · exact okw_names _ (.head _)
    · exact okw_names _ (.tail _ (t11 (nm_mem j hj)))
  have hne : (shown n).map (·.cps.toList) ≠ [] := by simpa using shown_pos hn
  have hp : (pretty n).cps.toList = jl [44, 32] ((shown n).map (·.cps.toList)) := join_jl ⟨#[44, 32]⟩ (shown n)
  have hk : keepW ((shown n).map (·.cps.toList)) = real n := by
    have e : ((shown n).map (·.cps.toList)).map toS = shown n := by
      rw [List.map_map]
      have : (toS ∘ fun s : Str => s.cps.toList) = id := funext toS_self
      rw [this, List.map_id]
    unfold keepW
    rw [e]
  have hlen := shown_length n
  have htl : (tok0 ((shown n).map (·.cps.toList))).length ≤ 32 := by rw [tok0_len, List.length_map]; exact hlen
  rw [hp]
  generalize (shown n).map (·.cps.toList) = ws at hok hne hk htl hp
  unfold speltL
  by_cases f0 : f = 0
  · rw [if_pos f0]
    obtain ⟨nl, h⟩ := rd0 (m := m) ws hne hok
    exact ⟨_, nl, by simpa using h, ends_tok0 ws hne hok, (tw_tok0 ws hok).trans hk, htl⟩
  · rw [if_neg f0]
    by_cases f1 : f = 1
    · rw [if_pos f1]
      have hl := pretty_len n
      have e2 : (pretty n).cps.toList.length = (pretty n).length := rfl
      rw [hp] at e2
      obtain ⟨u, c, e, hc⟩ := ends_whole ws hne hok
      obtain ⟨nl, h⟩ := tk_quote (m := m) (t := jl [44, 32] ws) (by rw [e]; simp) (by omega) (jl_all ws hok)
      refine ⟨[jl [44, 32] ws], nl + 0, .cons (m := m) (by simpa using h) (.nil m), by rw [e]; exact .last u c hc, (tw_whole ws hok).trans hk, by simp⟩
    · rw [if_neg f1, rpl_jl32 ws hok]
      obtain ⟨nl, h⟩ := rd2 (m := m) ws hne hok
      exact ⟨_, nl, by simpa using h, ends_tok0 ws hne hok, (tw_tok0 ws hok).trans hk, htl⟩
theorem zero_nm : ∀ j < 11, nm j ≠ sZero := by decide +kernel
theorem valQ_bit : ∀ (r i m : Nat), m < 2 ^ r → m * 2 ^ i < 2 ^ 11 → valQ (bitW i m r) = m * 2 ^ i
  | 0, i, m, h1, h2 => by
    have : m = 0 := by simp at h1; omega
    subst this
    rw [bitW, valQ_nil, Nat.zero_mul]
  | r + 1, i, m, h1, h2 => by
    unfold bitW
    by_cases h0 : m = 0
    · subst h0; rw [if_pos rfl, valQ_nil, Nat.zero_mul]
    · rw [if_neg h0]
      have ih := valQ_bit r (i + 1) (m / 2) (by rw [Nat.pow_succ] at h1; omega) (Nat.lt_of_le_of_lt (bit_le m i) h2)
      have hv := valQ_app
      rw [hv, ih]
      by_cases hm : m % 2 = 1
      · have hi : i < 11 := by
          rcases Nat.lt_or_ge i 11 with h | h
          · exact h
          · have h1 := Nat.pow_le_pow_right (n := 2) (by decide) h
            have h2' : 2 ^ i ≤ m * 2 ^ i := Nat.le_mul_of_pos_left _ (by omega)
            omega
        rw [if_pos hm]
        have e1 : valQ [nm i] = 2 ^ i := by rw [valQ_cons, valQ_nil, ix_nm i (by omega)]; rfl
        have e2 : m * 2 ^ i = m / 2 * 2 ^ (i + 1) + 2 ^ i := by
          have : m = m / 2 * 2 + 1 := by omega
          rw [Nat.pow_succ, Nat.mul_comm (2 ^ i) 2, ← Nat.mul_assoc, ← Nat.succ_mul]
          exact congrArg (· * 2 ^ i) this
        rw [e1, e2]; omega
      · rw [if_neg hm, ← bit_even m i hm, valQ_nil, Nat.zero_add]
theorem real_mem {n : Nat} (hn : n < 2 ^ 11) {s : Str} (h : s ∈ real n) : ∃ j, j < 11 ∧ s = nm j ∧ n.testBit j = true := by
  obtain ⟨h1, h2⟩ := List.mem_filter.mp h
  rcases shown_mem hn h1 with rfl | h
  · simp at h2
  · exact h
theorem real_val {n : Nat} (hn : n < 2 ^ 11) : valQ (real n) = n := by
  unfold real shown
  by_cases h0 : n = 0
  · subst h0
    show valQ [] = 0
    exact valQ_nil
  · rw [if_neg h0]
    have hf : (bitW 0 n 32).filter (fun q => decide (q ≠ sZero)) = bitW 0 n 32 := List.filter_eq_self.mpr fun s hs => by
      have : s ∈ shown n := by unfold shown; rw [if_neg h0]; exact hs
      rcases shown_mem hn this with rfl | ⟨j, hj, rfl, _⟩
      · exfalso
        obtain ⟨j, h1, h2, h3⟩ := bitW_mem 32 0 n _ hs
        rcases Nat.lt_or_ge j 11 with q | q
        · exact zero_nm j q h2.symm
        · have := Nat.testBit_lt_two_pow (Nat.lt_of_lt_of_le hn (Nat.pow_le_pow_right (by decide) q))
          rw [Nat.sub_zero] at h3
          rw [this] at h3
          cases h3
      · simpa using zero_nm j hj
    rw [hf, valQ_bit 32 0 n (Nat.lt_of_lt_of_le hn (by decide)) (by simpa using hn)]
    simp
theorem prods_val {tab : List (Str × Nat)} (htab : tab.map (·.1) = names) : ∀ (w1 w2 : List Str), (∀ p ∈ w1, ∀ q ∈ w2, ix p + ix q < 12) → valQ ((prodsS tab w1 w2).map (·.1)) = valQ w1 * valQ w2
  | [], w2, _ => by
    show valQ [] = valQ [] * valQ w2
    rw [valQ_nil, Nat.zero_mul]
  | p :: w1, w2, h => by
    have ih := prods_val htab w1 w2 fun x hx => h x (.tail _ hx)
    have e : prodsS tab (p :: w1) w2 = (w2.map fun s => tabv tab (ix p + ix s)) ++ prodsS tab w1 w2 := by simp [prodsS]
    have hv := valQ_app
    have e1 : valQ ((w2.map fun s => tabv tab (ix p + ix s)).map (·.1)) = 2 ^ ix p * valQ w2 := by
      have hp := h p (.head _)
      clear ih e h
      induction w2 with
      | nil =>
        show valQ [] = _ * valQ []
        rw [valQ_nil, Nat.mul_zero]
      | cons q w2 ih2 =>
        have := ih2 fun x hx => hp x (.tail _ hx)
        have hq := hp q (.head _)
        rw [List.map_cons, List.map_cons, valQ_cons, valQ_cons, this, tabv_fst htab hq, ix_nm _ hq, Nat.pow_add, Nat.mul_add]
    rw [e, List.map_append, hv, e1, ih, valQ_cons, Nat.add_mul]
theorem prods_mem {tab : List (Str × Nat)} (htab : tab.map (·.1) = names) (w1 w2 : List Str) (h : ∀ p ∈ w1, ∀ q ∈ w2, ix p + ix q < 11) : ∀ x ∈ prodsS tab w1 w2, x.1 ∈ names.take 11 := by
  intro x hx
  obtain ⟨p, hp, hx⟩ := List.mem_flatMap.mp hx
  obtain ⟨q, hq, rfl⟩ := List.mem_map.mp hx
  have := h p hp q hq
  rw [tabv_fst htab (by omega)]
  exact nm_mem _ this
theorem prods_len (tab : List (Str × Nat)) : ∀ (w1 w2 : List Str), (prodsS tab w1 w2).length = w1.length * w2.length
  | [], w2 => by simp [prodsS]
  | p :: w1, w2 => by
    have e : prodsS tab (p :: w1) w2 = (w2.map fun s => tabv tab (ix p + ix s)) ++ prodsS tab w1 w2 := by simp [prodsS]
    rw [e, List.length_append, List.length_map, prods_len tab w1 w2, List.length_cons, Nat.succ_mul]
    omega
theorem real_len (n : Nat) : (real n).length ≤ 32 := Nat.le_trans (List.length_filter_le ..) (shown_length n)
theorem out_of {hs : List Str} {n : Nat} (hn : n < 2 ^ 11) (h : val hs = n) : (if (joinOut hs).length = 0 then sZero else joinOut hs) = pretty n := by
  have e : names.filter (fun s => decide (s ∈ hs)) = bitW 0 n 32 := by
    rw [filt_wds, ← h]
    unfold val
    exact (bitW_wds _ 0 32 (by simp [bits]; decide)).symm
  have ej : joinOut hs = Str.join ⟨#[44, 32]⟩ (bitW 0 n 32) := by unfold joinOut; rw [e]
  by_cases h0 : n = 0
  · subst h0
    rw [ej]
    decide
  · have ep : joinOut hs = pretty n := by
      rw [ej]
      unfold pretty shown
      rw [if_neg h0]
    rw [ep]
    have := pretty_pos hn
    rw [if_neg (by simpa using this)]
theorem good_all (n1 n2 n3 : Nat) (f1 f2 f3 : Int) (h1 : n1 < 32) (h2 : n2 < 32) (h3 : n3 < 1024) : Good (spl n1 f1 ++ spl n2 f2 ++ spl n3 f3) (pretty (n1 * n2 + n3)) := by
  have hz : sizeLine = 2 ^ 24 := rfl
  have hb : n1 * n2 ≤ 31 * 31 := Nat.mul_le_mul (by omega) (by omega)
  have htx : (spl n1 f1 ++ spl n2 f2 ++ spl n3 f3).cps.toList = speltL (pretty n1).cps.toList f1 ++ (speltL (pretty n2).cps.toList f2 ++ (speltL (pretty n3).cps.toList f3 ++ [])) := by simp [Str.cps_append]
  have hlen : ∀ n f, (speltL (pretty n).cps.toList f).length ≤ 2562 ∧ 1 ≤ (speltL (pretty n).cps.toList f).length := fun n f => by
    have q := spelt_len (pretty n).cps.toList f
    have e : (pretty n).cps.toList.length = (pretty n).length := rfl
    have := pretty_len n
    exact ⟨by omega, List.length_pos_iff.mpr q.2⟩
  have htl : (spl n1 f1 ++ spl n2 f2 ++ spl n3 f3).length = (speltL (pretty n1).cps.toList f1).length + ((speltL (pretty n2).cps.toList f2).length + (speltL (pretty n3).cps.toList f3).length) := by
    show (spl n1 f1 ++ spl n2 f2 ++ spl n3 f3).cps.toList.length = _
    rw [htx]; simp
  have l1 := hlen n1 f1
  have l2 := hlen n2 f2
  have l3 := hlen n3 f3
  obtain ⟨ts3, nl3, r3, e3, w3, k3⟩ := spelt_rd (n := n3) (by omega) f3 []
  obtain ⟨ts2, nl2, r2, e2, w2, k2⟩ := spelt_rd (n := n2) (by omega) f2 (speltL (pretty n3).cps.toList f3 ++ [])
  obtain ⟨ts1, nl1, r1, e1, w1, k1⟩ := spelt_rd (n := n1) (by omega) f1 (speltL (pretty n2).cps.toList f2 ++ (speltL (pretty n3).cps.toList f3 ++ []))
  have small : ∀ n < 32, ∀ s ∈ real n, ∃ j, j < 5 ∧ s = nm j := fun n hn s hs => by
    obtain ⟨j, hj, e, hbt⟩ := real_mem (n := n) (by omega) hs
    refine ⟨j, ?_, e⟩
    rcases Nat.lt_or_ge j 5 with q | q
    · exact q
    · have := Nat.testBit_lt_two_pow (Nat.lt_of_lt_of_le hn (Nat.pow_le_pow_right (n := 2) (by decide) q))
      rw [this] at hbt
      cases hbt
  have hix : ∀ p ∈ real n1, ∀ q ∈ real n2, ix p + ix q < 11 := fun p hp q hq => by
    obtain ⟨i, hi, rfl⟩ := small n1 h1 p hp
    obtain ⟨j, hj, rfl⟩ := small n2 h2 q hq
    rw [ix_nm i (by omega), ix_nm j (by omega)]
    omega
  have a1 := real_len n1
  have a2 := real_len n2
  have a3 := real_len n3
  have am : (real n1).length * (real n2).length ≤ 32 * 32 := Nat.mul_le_mul a1 a2
  refine ⟨by rw [htl]; omega, by rw [htl]; omega, _, _, tw ts1, tw ts2, nl1, nl2, nl3, ?_, fac_of e2 r2, ?_, ?_, ?_, ?_⟩
  · rw [htx]; exact fac_of e1 r1
  · rw [w1, w2]
    intro p hp
    obtain ⟨i, hi, rfl⟩ := small n1 h1 p hp
    refine ⟨t11 (nm_mem i (by omega)), fun q hq => ?_⟩
    have := hix (nm i) hp q hq
    obtain ⟨j, hj, rfl⟩ := small n2 h2 q hq
    exact ⟨t11 (nm_mem j (by omega)), by omega⟩
  · rw [w1, w2]; omega
  · intro tab htab
    rw [w1, w2]
    have pv := prods_val htab (real n1) (real n2) fun p hp q hq => by have := hix p hp q hq; omega
    rw [real_val (n := n1) (by omega), real_val (n := n2) (by omega)] at pv
    have ev : val [] + valQ ((prodsS tab (real n1) (real n2)).map (·.1)) + valQ (tw ts3) = n1 * n2 + n3 := by
      rw [w3, real_val (n := n3) (by omega), pv]
      have : val [] = 0 := by unfold val; decide +kernel
      omega
    obtain ⟨hs', g1, g2⟩ := held_ex htab (fun s hs => by
        obtain ⟨j, hj, rfl⟩ := mem_nm s hs
        have hw := words_one (okw_names _ (.tail _ (t11 hs)))
        unfold wordsIn
        rw [hw]
        simp only [List.map_cons, List.map_nil, toS_self, List.filter_cons, List.filter_nil]
        rw [if_pos (by simpa using zero_nm j hj)]) (fun s hs => ⟨strPos.mpr (okw_names _ (.tail _ (t11 hs))).1, (okw_names _ (.tail _ (t11 hs))).2.1⟩)
      10000 ts3 (speltL (pretty n3).cps.toList f3 ++ []) nl3 [] (prodsS tab (real n1) (real n2)) (Nat.le_refl _) r3 (fun s hs => by
        rw [w3] at hs
        obtain ⟨j, hj, rfl, _⟩ := real_mem (n := n3) (by omega) hs
        exact nm_mem j hj) List.nodup_nil (prods_mem htab _ _ hix) (by rw [prods_len, w3]; simp; omega) (by rw [ev]; omega)
    exact ⟨hs', g1, out_of (by omega) (g2.trans ev)⟩
  · rw [htx, r1.cnt, r2.cnt, r3.cnt]
    simp
    omega
noncomputable def mask : KT → KT → KT
  | .nil, _ => .nil
  | .node v l r, t => match t with
    | .nil => .node none (mask l .nil) (mask r .nil)
    | .node v' l' r' => .node (match v with | none => none | some _ => v') (mask l l') (mask r r')
theorem mask_holds {h : Heap} : ∀ (m t : KT) (s b : Nat), KT.Holds h s b t → KT.Holds h s b (mask m t)
  | .nil, _, _, _, _ => trivial
  | .node v l r, .nil, s, b, _ => ⟨fun o e => (nomatch e), mask_holds l .nil _ _ trivial, mask_holds r .nil _ _ trivial⟩
  | .node v l r, .node v' l' r', s, b, H => by
    refine ⟨fun o e => ?_, mask_holds l l' _ _ H.2.1, mask_holds r r' _ _ H.2.2⟩
    cases v with
    | none => cases e
    | some _ => exact H.1 o e
theorem sta_of {w : World} {h : Heap} {t : KT} (H : KT.Holds h 1 0 t) (e : mask (kt w.params) t = kt w.params) : Sta w h := fun a o q => by
  rw [← congrFun ktZ_eq w.params] at q
  have H' := mask_holds (kt w.params) t 1 0 H
  rw [e] at H'
  have := KT.Holds.get H' q
  rwa [Nat.one_mul, Nat.add_zero] at this
theorem ints_iv {vs : List Value} {ns : List Int} (h : IntsAre vs ns) : ∃ l : List (Int × Nat), vs = l.map iv ∧ l.length = ns.length := by
  induction h with
  | nil => exact ⟨[], rfl, rfl⟩
  | cons n t _ ih =>
    obtain ⟨l, e, q⟩ := ih
    exact ⟨(n, t) :: l, by rw [e]; rfl, by simp [q]⟩
theorem off124 (w : World) : Off w 124 := by unfold Off; kernel_rfl
theorem old_of {w : World} {h h' : Heap} (S : Sta w h) (h80 : h.get? 80 = some (o80 w.params)) (K : Kp [80] h h') {vs : Array Value} (e : h'.get? 80 = some (tabO vs)) : OldK h h' := by
  have h84 : h.get? 84 = some (o84 w.params) := S 84 _ (by kernel_rfl)
  refine ⟨fun b o eb => ?_, fun b o eb => ?_⟩
  · by_cases hb : b = 80
    · subst hb
      rw [h80] at eb
      cases eb
      exact .inr (.inl ⟨⟨84, _, flds (o84 w.params), h84, by kernel_rfl, by kernel_rfl, by kernel_rfl⟩, rfl, #[], vs, rfl, by rw [e]; simp [o80]⟩)
    · exact .inl (K.get eb fun hm => hb (List.mem_singleton.mp hm))
  · by_cases hb : b = 80
    · subst hb; exact ⟨_, e⟩
    · exact ⟨o, K.get eb fun hm => hb (List.mem_singleton.mp hm)⟩
theorem post_ok (x : List WData) : PySem.Challenge.rw_nb0079_01.row.claim.post x (WData.bool true) x = true := by
  first | kernel_rfl | decide
theorem law_top {w : World} {s₁ : Shared} {t : KT} {vs : List Value} {ns : List Int} {Q : Value → Shared → Prop} {E : Value → Shared → Prop}
    (ZH : KT.Holds s₁.heap 1 0 t) (e1 : mask (kt w.params) t = kt w.params) (e2 : t.get 80 = some (o80 w.params)) (hI : IntsAre vs ns) (hn : ns.length ≤ 63) (hL : s₁.heap.get? 124 = some (listO vs.toArray 0))
    (H : ∀ h' tk', OldK s₁.heap h' → Q (.bool true) ⟨h', s₁.gens, s₁.drawn, tk', s₁.os⟩) : wpAny (model pg w) callerA (call (.ref 123) [.ref 124]) Q E s₁ := by
  have S := sta_of ZH e1
  have h80 : s₁.heap.get? 80 = some (o80 w.params) := by
    have := KT.Holds.get ZH e2
    rwa [Nat.one_mul, Nat.add_zero] at this
  obtain ⟨l, rfl, hl⟩ := ints_iv hI
  refine wpAny_call (law_ok (l := l) (Nat.le_trans (by omega : l.length ≤ 63) (by decide)) (by decide) good_all callerA _ s₁ rfl (by decide) (by decide) S ⟨hL, off124 w, h80⟩ fun v h' tk' ⟨hv, K, u, e⟩ => ?_)
  subst hv
  exact H h' tk' (old_of S h80 K e)
noncomputable def lfA (p : Program) (α : Type) (f : Shared → α) (w : World) : Option (Option α × Option α) := (fencedOpening treeTable p w 1732).map fun s₀ =>
  ((topFrom treeTable p (w.withFollow "special-get-raises" false) 1732 s₀).map f, (topFrom treeTable p (w.withFollow "special-get-raises" true) 1732 s₀).map f)
theorem lfA_rfl : @lfA = @lfA := rfl
end Mine
lay_quick Mine.lfA
name_quick lfAQ for Mine.lfA by Mine.lfA_rfl
namespace Mine
open PySem PySem.W PySem.W.X PyProof.Rows PySem.Calls
noncomputable def vq : Program := PySem.W.view pg [1, 3, 4, 6, 7, 8, 9, 10, 11, 12, 13, 14]
noncomputable def lse : List Str := [Str.ofString "COMPILER_FLAG_NAMES"]
noncomputable def Xv (s : Shared) : Bool := xlAt vq [] s && recOk [] s
noncomputable def adl : List Addr := [0, 2, 3, 4, 27, 28, 34, 35, 41, 42, 48, 49, 51, 52, 57, 63, 64, 70, 71, 77, 78, 80, 84, 85, 89, 90, 96, 97, 103, 104, 110, 111, 115, 116, 122, 123]
@[irreducible] noncomputable def frg (P : Params) : Frag := [(0, o0 P), (2, o2 P), (3, o3 P), (4, o4 P), (27, o27 P), (28, o28 P), (34, o34 P), (35, o35 P), (41, o41 P), (42, o42 P), (48, o48 P), (49, o49 P), (51, o51 P), (52, o52 P), (57, o57 P), (63, o63 P), (64, o64 P), (70, o70 P), (71, o71 P), (77, o77 P), (78, o78 P), (80, o80 P), (84, o84 P), (85, o85 P), (89, o89 P), (90, o90 P), (96, o96 P), (97, o97 P), (103, o103 P), (104, o104 P), (110, o110 P), (111, o111 P), (115, o115 P), (116, o116 P), (122, o122 P), (123, o123 P)]
noncomputable def lfP (s : Shared) := (openSeen vq lse (importedModules pg.main.body) Xv true s, obsZ adl s)
theorem left0 (w : World) : PySem.W.Fast.lfAQ pg _ lfP w = some (some (openGood vq lse, valZ frg 124 379 (w.withFollow "special-get-raises" false)), some (openGood vq lse, valZ frg 124 379 (w.withFollow "special-get-raises" true))) := by kernel_rfl
theorem left1 : LeftO pg vq lse Xv (obsZ adl) (valZ frg 124 379) 1732 := LeftO.of_split "special-get-raises" fun w =>
  (congrFun (congrFun (congrFun (congrFun PySem.W.Fast.lfAQ_eq pg) _) lfP) w).trans (left0 w)
theorem adl_eq (P : Params) : adl = (frg P).map (·.1) := by kernel_rfl
noncomputable def dLaw : DefRec := ((defOf vq (Str.ofString "law")).get (by kernel_rfl)).1
theorem frg_law (P : Params) : nsIn (frg P) mainGlobals dLaw.name = some (some (.ref 123)) := by kernel_rfl
theorem frg_80 (P : Params) : (KT.of (frg P)).get 80 = some (o80 P) := by kernel_rfl
theorem frg_sta (P : Params) : mask (kt P) (KT.of (frg P)) = kt P := by kernel_rfl
theorem holds_keep {h h' : Heap} {K : Frag} (k : ∀ b o, h.get? b = some o → h'.get? b = some o) (A : AllIn h K) : KT.Holds h' 1 0 (KT.of K) := KT.Holds.keeps k (holds_of A)
theorem law_frg {w : World} {s₀ s₁ : Shared} {vs : List Value} {ns : List Int} {Q : Value → Shared → Prop} {E : Value → Shared → Prop}
    (A : AllIn s₀.heap (frg w.params)) (k : ∀ b o, s₀.heap.get? b = some o → s₁.heap.get? b = some o) (hI : IntsAre vs ns) (hn : ns.length ≤ 63) (hL : s₁.heap.get? 124 = some (listO vs.toArray 0))
    (H : ∀ h' tk', OldK s₁.heap h' → Q (.bool true) ⟨h', s₁.gens, s₁.drawn, tk', s₁.os⟩) : wpAny (model pg w) callerA (call (.ref 123) [.ref 124]) Q E s₁ :=
  law_top (holds_keep k A) (frg_sta w.params) (frg_80 w.params) hI hn hL H
end Mine
end
open PySem PySem.W PyProof.Rows PySem.W.X PySem.W.ZRun
theorem PySem.Challenge.cw_nb0079_01_holds : PySem.Challenge.rw_nb0079_01.Holds := by
  w_on; o_law
  refine holds_openX (q := Mine.vq) (loose := Mine.lse) (Xt := Mine.Xv) (XP := XL Mine.vq []) (Yf := obsZ Mine.adl) (Ya := valZ Mine.frg 124 379) (d := Mine.dLaw) (kwd := []) (N := 1732) Mine.left1 (fun s e => xl_of s (Bool.and_eq_true_iff.mp e).1) XL.keeps (by kernel_rfl) (by kernel_rfl) (by kernel_rfl) (fun s e => recFacts_of (Bool.and_eq_true_iff.mp e).2) (by rfl) (by first | assumption | decide +kernel) (by decide +kernel) ⟨rfl, rfl, rfl, rfl, rfl, by decide +kernel⟩ ?hw ?hc
  (case hw => w_witness2)
  k_fill
  intro w s₀ s₁ mg mb G y fa o pm cd doc dV kV ho hd hcd hD hmg hg args vals as L hpre hlay hrd hwl hlo
  refine Ground.open G ?_
  intro T B D TE TW
  wrow_args hpre hlay hrd hwl hlo
  have Z := z_facts Mine.adl_eq y
  obtain ⟨hat, hsz⟩ := script_at L
  rw [Z.2.2.1] at hat hsz
  subst hat
  cases Value.ref.inj (Option.some.inj (hmg.symm.trans (mg_of (InK.keeps w _ _ Z.2.1 L.keeps) T.g (Mine.frg_law w.params))))
  rename_i ns hs0 hlay0 hL1 hr1 hl2 la lb vs lc ra hI hr2 hc1 hc2 hLs w1 r0
  refine Mine.law_frg Z.1 L.keeps hI (by omega) (script_obj L hLs) fun h' tk' K => ?_
  refine ⟨.inl ⟨.bool true, .bool true, [], rfl, fun cls => by rfl, .bool true, Mine.post_ok _, fun _ => ⟨List.nodup_nil, fun a ha => nomatch ha⟩⟩, K, rfl, ?_⟩
  exact AllBare.of_eq hg
